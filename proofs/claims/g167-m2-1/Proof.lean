import JvmDerived
import JvmDerived.Pilot.@@N@@Statement
import JvmDerived.Pilot.@@N@@Code
set_option linter.unusedVariables false
set_option linter.unusedSimpArgs false
namespace Jvm.RoadKit
open Sem ClassFile Op Lib Jvm.Stand Jvm.Free Jvm.LawKit
section New
variable {p : Program} {l : Launch} {e : Env} {R : Room} {s : State} {m : MethodId} {args : Array Value} {below : List Frame} {meth : Method} {c : Code} {T : State} {locs : List Loc} {cells slots : Nat}
theorem retI (X : Stand p l e R s m args below meth c T locs cells slots) (hx : p.tables.exec = Jvm.exec) {pc : Nat} {Ls : Array Slot} {z : Int32} {rest : List Value} (hret : meth.sig.returnType = some .int) (hd : decode c.code pc = .ok (.ireturn, 1)) {fs : List Frame}
    (hl : ∀ (f : JFrame) (acts : List Action), f.method = m → f.locked = none → f.entered = [] → (doReturn e (T.setTop f) acts (some (.int z))).1 = T.setFrames fs) : Steps p.tables e below (T.setTop (mkF m pc Ls (.int z :: rest))) (T.setFrames fs) := by
  have hm' : T.vm.method? m = some meth := X.method'
  have hn : narrow .int (.int z) = .int z := rfl
  show Steps p.tables e below (T.setTop { method := m, pc := pc, locals := Ls, stack := _ :: rest, locked := none }) _
  jvm_step X.here [X.here.top, hx, hd, hm', hret, hn]
  first | (intro acts; rw [hl _ acts rfl rfl rfl]) | rw [hl _ _ rfl rfl rfl]
  exact Steps.refl _
end New
end Jvm.RoadKit
namespace Jvm.Pilot.@@N@@
open Jvm Jvm.ClassFile Sem Op Lib Jvm.Free Jvm.Stand Jvm.LawKit Jvm.RoadKit Bundle Jvm.Pilot.@@N@@.Jvm.D
theorem d_jdk_29_method_66_code_0 : decode jdk_29_method_66_code 0 = .ok (.lload_n 0, 1) := by decide +kernel
theorem d_jdk_29_method_66_code_1 : decode jdk_29_method_66_code 1 = .ok (.lload_n 2, 1) := by decide +kernel
theorem d_jdk_29_method_66_code_2 : decode jdk_29_method_66_code 2 = .ok (.lcmp, 1) := by decide +kernel
theorem d_jdk_29_method_66_code_3 : decode jdk_29_method_66_code 3 = .ok (.ifCond .lt 7, 3) := by decide +kernel
theorem d_jdk_29_method_66_code_10 : decode jdk_29_method_66_code 10 = .ok (.lload_n 2, 1) := by decide +kernel
theorem d_jdk_29_method_66_code_11 : decode jdk_29_method_66_code 11 = .ok (.lreturn, 1) := by decide +kernel
theorem d_jdk_29_method_66_code_6 : decode jdk_29_method_66_code 6 = .ok (.lload_n 0, 1) := by decide +kernel
theorem d_jdk_29_method_66_code_7 : decode jdk_29_method_66_code 7 = .ok (.goto 4, 3) := by decide +kernel
theorem ef_max (m : MethodId) (va : Int64) (vb : Int64) : entryFrame m #[(.long va), (.long vb)] 4 = mkF m 0 #[.val (.long va), .second, .val (.long vb), .second] [] := by first | (simp [entryFrame, mkF, argsToLocals, Value.category]; done) | rfl
def Q_max (Z : State) (va : Int64) (vb : Int64) (h0 : Heap) (n0 : Nat) (v : Option Value) (h : Heap) (L : List Loc) : Prop := (∃ z : Int64, v = some (.long z) ∧ (z = if va < vb then vb else va)) ∧ Fr n0 L ∧ h = h0
set_option maxRecDepth 65536 in
set_option maxHeartbeats 40000000 in
theorem rm_max (l : Launch) (Z : State) (a0 : Array Value) (hw : ∀ d ∈ tables_1, d.before a0 Z = true) (ws : List Jvm.Cond) (va : Int64) (vb : Int64) (h0 : Heap) (n0 : Nat) (Z0 : n0 ≤ h0.size) :
    MetFree l (⟨"java/lang/Math", "max", "(JJ)J"⟩ : MethodName) (head1 (Jvm.Cond.code (⟨"java/lang/Math", "max", "(JJ)J"⟩ : MethodName) jdk_29_method_66_code 4 (some .long) :: ws) ({ frames := 0, cells := 0, slots := 0, locals := 0 } : Room)) (fun a U => a = #[(.long va), (.long vb)] ∧ Z.Warmed39 U.vm ∧ U.heap = h0) (fun _ _ _ _ _ => True) (fun _ U o U' => ∃ v L, o = .returned v ∧ Q_max Z va vb h0 n0 v U'.heap L ∧ FrameEnd U o U' L ({ frames := 0, cells := 0, slots := 0, locals := 0 } : Room).cells ({ frames := 0, cells := 0, slots := 0, locals := 0 } : Room).slots) := by
  refine MetFree.of_bodySF (Jvm.Free.JP.mathPlain rfl (by decide +kernel)) hisR ?_
  intro p e s m args below meth c s₁ Bd hml0 hP hK
  obtain ⟨rfl, hZ, hh⟩ := hP
  have hx := Bd.exec
  have hby := Bd.bytes
  have hml : c.maxLocals = 4 := hml0
  have hown : s.vm.findClass "java/lang/Math" = some m.cls := findClass_of_methodNamed Bd.named
  have hnm := (name_of_methodNamed Bd.named Bd.method).1
  have X0 : Stand p l e ({ frames := 0, cells := 0, slots := 0, locals := 0 } : Room) s m #[(.long va), (.long vb)] below meth c s₁ [] 0 0 := Stand.of_body Bd
  have e0 : s₁.heap = h0 := by rw [← hh, Bd.state]; rfl
  have N0 := Fr.nil n0
  have pre0 : ∀ t, Steps p.tables e below (s₁.setTop (mkF m 0 #[.val (.long va), .second, .val (.long vb), .second] [])) t → Steps p.tables e below (s₁.setTop (entryFrame m #[(.long va), (.long vb)] 4)) t := fun t k => castTop (ef_max m va vb) k
  by_cases h3_1 : va < vb
  · obtain ⟨fs, hr, hrun, hended, hW, hsame⟩ := X0.leave (v := some (.long vb)) (fun h => by rw [Bd.returns] at h; cases h)
    refine ⟨_, _, pre0 _ ?_, hrun, hended, _, _, rfl, ?_, ⟨_, rfl⟩, hW, hsame.mono (by decide) (by decide)⟩
    · show Steps p.tables e below (s₁.setTop (mkF m 0 #[.val (.long va), .second, .val (.long vb), .second] [])) _
      refine XS.lloadN X0.here hx rfl (hb hby d_jdk_29_method_66_code_0) rfl ?_
      show Steps p.tables e below (s₁.setTop (mkF m 1 #[.val (.long va), .second, .val (.long vb), .second] [(.long va)])) _
      refine XS.lloadN X0.here hx rfl (hb hby d_jdk_29_method_66_code_1) rfl ?_
      show Steps p.tables e below (s₁.setTop (mkF m 2 #[.val (.long va), .second, .val (.long vb), .second] [(.long vb), (.long va)])) _
      refine XS.lcmp X0.here hx rfl (hb hby d_jdk_29_method_66_code_2) rfl ?_
      show Steps p.tables e below (s₁.setTop (mkF m 3 #[.val (.long va), .second, .val (.long vb), .second] [(.int (lcmpW va vb))])) _
      refine XS.ifYes X0.here hx rfl (pc0 := 3) (pc' := 10) rfl (hb hby d_jdk_29_method_66_code_3) rfl ((if0 _ _).trans (tlt ((lw_lt _ _).mpr h3_1)).1) (by decide) (by decide) ?_
      show Steps p.tables e below (s₁.setTop (mkF m 10 #[.val (.long va), .second, .val (.long vb), .second] [])) _
      refine XS.lloadN X0.here hx rfl (hb hby d_jdk_29_method_66_code_10) rfl ?_
      show Steps p.tables e below (s₁.setTop (mkF m 11 #[.val (.long va), .second, .val (.long vb), .second] [(.long vb)])) _
      exact X0.lreturnOut hx Bd.returns (hb hby d_jdk_29_method_66_code_11) hr
    · show Q_max Z va vb h0 n0 _ s₁.heap _
      rw [e0]
      exact ⟨⟨_, rfl, by simp [h3_1]⟩, N0, rfl⟩
  · obtain ⟨fs, hr, hrun, hended, hW, hsame⟩ := X0.leave (v := some (.long va)) (fun h => by rw [Bd.returns] at h; cases h)
    refine ⟨_, _, pre0 _ ?_, hrun, hended, _, _, rfl, ?_, ⟨_, rfl⟩, hW, hsame.mono (by decide) (by decide)⟩
    · show Steps p.tables e below (s₁.setTop (mkF m 0 #[.val (.long va), .second, .val (.long vb), .second] [])) _
      refine XS.lloadN X0.here hx rfl (hb hby d_jdk_29_method_66_code_0) rfl ?_
      show Steps p.tables e below (s₁.setTop (mkF m 1 #[.val (.long va), .second, .val (.long vb), .second] [(.long va)])) _
      refine XS.lloadN X0.here hx rfl (hb hby d_jdk_29_method_66_code_1) rfl ?_
      show Steps p.tables e below (s₁.setTop (mkF m 2 #[.val (.long va), .second, .val (.long vb), .second] [(.long vb), (.long va)])) _
      refine XS.lcmp X0.here hx rfl (hb hby d_jdk_29_method_66_code_2) rfl ?_
      show Steps p.tables e below (s₁.setTop (mkF m 3 #[.val (.long va), .second, .val (.long vb), .second] [(.int (lcmpW va vb))])) _
      refine XS.ifNo X0.here hx rfl (hb hby d_jdk_29_method_66_code_3) rfl ((if0 _ _).trans (flt (fun q => h3_1 ((lw_lt _ _).mp q))).1) ?_
      show Steps p.tables e below (s₁.setTop (mkF m 6 #[.val (.long va), .second, .val (.long vb), .second] [])) _
      refine XS.lloadN X0.here hx rfl (hb hby d_jdk_29_method_66_code_6) rfl ?_
      show Steps p.tables e below (s₁.setTop (mkF m 7 #[.val (.long va), .second, .val (.long vb), .second] [(.long va)])) _
      refine XS.goto X0.here hx rfl (pc0 := 7) (pc' := 11) rfl (hb hby d_jdk_29_method_66_code_7) (by decide) (by decide) ?_
      show Steps p.tables e below (s₁.setTop (mkF m 11 #[.val (.long va), .second, .val (.long vb), .second] [(.long va)])) _
      exact X0.lreturnOut hx Bd.returns (hb hby d_jdk_29_method_66_code_11) hr
    · show Q_max Z va vb h0 n0 _ s₁.heap _
      rw [e0]
      exact ⟨⟨_, rfl, by simp [h3_1]⟩, N0, rfl⟩
theorem pn_0 : plainName "dev/leasehold/server/ValueMemory" = true := by first | (simp [plainName, overriddenIn]; done) | decide +kernel
theorem d_prog_139_method_1_code_0 : decode prog_139_method_1_code 0 = .ok (.aload_n 0, 1) := by decide +kernel
theorem d_prog_139_method_1_code_1 : decode prog_139_method_1_code 1 = .ok (.invokespecial 1, 3) := by decide +kernel
theorem d_prog_139_method_1_code_4 : decode prog_139_method_1_code 4 = .ok (.aload_n 0, 1) := by decide +kernel
theorem d_prog_139_method_1_code_5 : decode prog_139_method_1_code 5 = .ok (.lload_n 1, 1) := by decide +kernel
theorem d_prog_139_method_1_code_6 : decode prog_139_method_1_code 6 = .ok (.putfield 7, 3) := by decide +kernel
theorem d_prog_139_method_1_code_9 : decode prog_139_method_1_code 9 = .ok (.return_, 1) := by decide +kernel
theorem ef_ini (m : MethodId) (ra : Addr) (va : Int64) : entryFrame m #[(.ref ra), (.long va)] 3 = mkF m 0 #[.val (.ref ra), .val (.long va), .second] [] := by first | (simp [entryFrame, mkF, argsToLocals, Value.category]; done) | rfl
def Q_ini (Z : State) (ra : Addr) (va : Int64) (w_limit : Int64) (w_latest : Int64) (w_older : Int64) (h0 : Heap) (n0 : Nat) (v : Option Value) (h : Heap) (L : List Loc) : Prop := v = none ∧ Fr n0 L ∧ Keep h0 h [ra] ∧ (Fld Z h ra "dev/leasehold/server/ValueMemory" "limit" "J" (.long va)) ∧ (Fld Z h ra "dev/leasehold/server/ValueMemory" "latest" "J" (.long w_latest)) ∧ (Fld Z h ra "dev/leasehold/server/ValueMemory" "older" "J" (.long w_older))
set_option maxRecDepth 65536 in
set_option maxHeartbeats 40000000 in
theorem rm_ini (l : Launch) (Z : State) (a0 : Array Value) (hw : ∀ d ∈ tables_1, d.before a0 Z = true) (ws : List Jvm.Cond) (ra : Addr) (va : Int64) (w_limit : Int64) (w_latest : Int64) (w_older : Int64) (h0 : Heap) (n0 : Nat) (Z0 : n0 ≤ h0.size) (E_ra : Exa Z h0 ra "dev/leasehold/server/ValueMemory") (F_limit : Fld Z h0 ra "dev/leasehold/server/ValueMemory" "limit" "J" (.long w_limit)) (F_latest : Fld Z h0 ra "dev/leasehold/server/ValueMemory" "latest" "J" (.long w_latest)) (F_older : Fld Z h0 ra "dev/leasehold/server/ValueMemory" "older" "J" (.long w_older)) (g_ra : n0 ≤ ra) :
    MetFree l (⟨"dev/leasehold/server/ValueMemory", "<init>", "(J)V"⟩ : MethodName) (head1 (Jvm.Cond.code (⟨"dev/leasehold/server/ValueMemory", "<init>", "(J)V"⟩ : MethodName) prog_139_method_1_code 3 none :: ws) ({ frames := 1, cells := 0, slots := 0, locals := 12 } : Room)) (fun a U => a = #[(.ref ra), (.long va)] ∧ Z.Warmed39 U.vm ∧ U.heap = h0) (fun _ _ _ _ _ => True) (fun _ U o U' => ∃ v L, o = .returned v ∧ Q_ini Z ra va w_limit w_latest w_older h0 n0 v U'.heap L ∧ FrameEnd U o U' L ({ frames := 1, cells := 0, slots := 0, locals := 12 } : Room).cells ({ frames := 1, cells := 0, slots := 0, locals := 12 } : Room).slots) := by
  refine MetFree.of_bodySF (plainFor_of_name pn_0) hisR ?_
  intro p e s m args below meth c s₁ Bd hml0 hP hK
  obtain ⟨rfl, hZ, hh⟩ := hP
  have hx := Bd.exec
  have hby := Bd.bytes
  have hml : c.maxLocals = 3 := hml0
  have hown : s.vm.findClass "dev/leasehold/server/ValueMemory" = some m.cls := findClass_of_methodNamed Bd.named
  have hnm := (name_of_methodNamed Bd.named Bd.method).1
  have X0 : Stand p l e ({ frames := 1, cells := 0, slots := 0, locals := 12 } : Room) s m #[(.ref ra), (.long va)] below meth c s₁ [] 0 0 := Stand.of_body Bd
  have e0 : s₁.heap = h0 := by rw [← hh, Bd.state]; rfl
  have N0 := Fr.nil n0
  have pre0 : ∀ t, Steps p.tables e below (s₁.setTop (mkF m 0 #[.val (.ref ra), .val (.long va), .second] [])) t → Steps p.tables e below (s₁.setTop (entryFrame m #[(.ref ra), (.long va)] 3)) t := fun t k => castTop (ef_ini m ra va) k
  have kp0 : Keep h0 h0 [ra] := Keep.refl h0 _
  obtain ⟨T2, X2, e2, st2⟩ := initO X0 hx hZ hown (hw _ (List.mem_of_getElem? (i := 12) rfl)) (hw _ (List.mem_of_getElem? (i := 13) rfl)) (hw _ (List.mem_of_getElem? (i := 14) rfl)) e0 (g := (mkF m 1 #[.val (.ref ra), .val (.long va), .second] [(.ref ra)])) rfl (by rw [hml]; rfl) rfl (hb hby d_prog_139_method_1_code_1) (by decide) (W := 0) (by show 2 * 0 + _ ≤ _; exact Nat.le_of_eq rfl) (by decide)
  obtain ⟨T3, h3, X3, e3, W3, st3⟩ := putF X2 hx hZ hown (host := "") (Or.inl (hw _ (List.mem_of_getElem? (i := 15) rfl))) Via.refl e2 F_limit E_ra (Or.inr ⟨(hw _ (List.mem_of_getElem? (i := 16) rfl)), rfl, hnm⟩) (hw _ (List.mem_of_getElem? (i := 7) rfl)) (ty := .long) (by decide) rfl rfl (g := (mkF m 6 #[.val (.ref ra), .val (.long va), .second] [(.long va), (.ref ra)])) rfl rfl (hb hby d_prog_139_method_1_code_6)
  have E_ra_3 := E_ra.wr W3
  have F_latest_3 := F_latest.other W3 (Or.inr (slot_ne (Or.inl (hw _ (List.mem_of_getElem? (i := 23) rfl))) (Or.inr (hw _ (List.mem_of_getElem? (i := 16) rfl))) (by decide) (t := .long) (t' := .long) (by decide) (by decide)))
  have F_older_3 := F_older.other W3 (Or.inr (slot_ne (Or.inl (hw _ (List.mem_of_getElem? (i := 35) rfl))) (Or.inr (hw _ (List.mem_of_getElem? (i := 16) rfl))) (by decide) (t := .long) (t' := .long) (by decide) (by decide)))
  have Fd_limit_ra_3 := F_limit.same W3
  have Z3 : n0 ≤ h3.size := Nat.le_trans Z0 (Keep.of_wr W3).1
  have kp3 := kp0.wr W3 (Or.inl (List.mem_of_getElem? (i := 0) rfl))
  have N3 := Fr.snoc X3 N0 g_ra
  obtain ⟨fs, hr, hrun, hended, hW, hsame⟩ := X3.leave (v := none) (fun _ => rfl)
  refine ⟨_, _, pre0 _ ?_, hrun, hended, _, _, rfl, ?_, ⟨_, rfl⟩, hW, hsame.mono (by decide) (by decide)⟩
  · show Steps p.tables e below (s₁.setTop (mkF m 0 #[.val (.ref ra), .val (.long va), .second] [])) _
    refine XS.aloadN X0.here hx rfl (hb hby d_prog_139_method_1_code_0) rfl rfl ?_
    show Steps p.tables e below (s₁.setTop (mkF m 1 #[.val (.ref ra), .val (.long va), .second] [(.ref ra)])) _
    refine st2 _ ?_
    show Steps p.tables e below (T2.setTop (mkF m 4 #[.val (.ref ra), .val (.long va), .second] [])) _
    refine XS.aloadN X2.here hx rfl (hb hby d_prog_139_method_1_code_4) rfl rfl ?_
    show Steps p.tables e below (T2.setTop (mkF m 5 #[.val (.ref ra), .val (.long va), .second] [(.ref ra)])) _
    refine XS.lloadN X2.here hx rfl (hb hby d_prog_139_method_1_code_5) rfl ?_
    show Steps p.tables e below (T2.setTop (mkF m 6 #[.val (.ref ra), .val (.long va), .second] [(.long va), (.ref ra)])) _
    refine st3 _ ?_
    show Steps p.tables e below (T3.setTop (mkF m 9 #[.val (.ref ra), .val (.long va), .second] [])) _
    exact X3.returnOut hx Bd.returns (hb hby d_prog_139_method_1_code_9) hr
  · show Q_ini Z ra va w_limit w_latest w_older h0 n0 _ T3.heap _
    rw [e3]
    exact ⟨rfl, N3, kp3, Fd_limit_ra_3, F_latest_3, F_older_3⟩
theorem d_prog_139_method_4_code_0 : decode prog_139_method_4_code 0 = .ok (.aload_n 0, 1) := by decide +kernel
theorem d_prog_139_method_4_code_1 : decode prog_139_method_4_code 1 = .ok (.dup, 1) := by decide +kernel
theorem d_prog_139_method_4_code_2 : decode prog_139_method_4_code 2 = .ok (.getfield 30, 3) := by decide +kernel
theorem d_prog_139_method_4_code_5 : decode prog_139_method_4_code 5 = .ok (.lload_n 3, 1) := by decide +kernel
theorem d_prog_139_method_4_code_6 : decode prog_139_method_4_code 6 = .ok (.lload_n 1, 1) := by decide +kernel
theorem d_prog_139_method_4_code_7 : decode prog_139_method_4_code 7 = .ok (.lsub, 1) := by decide +kernel
theorem d_prog_139_method_4_code_8 : decode prog_139_method_4_code 8 = .ok (.ladd, 1) := by decide +kernel
theorem d_prog_139_method_4_code_9 : decode prog_139_method_4_code 9 = .ok (.putfield 30, 3) := by decide +kernel
theorem d_prog_139_method_4_code_12 : decode prog_139_method_4_code 12 = .ok (.return_, 1) := by decide +kernel
theorem ef_rep (m : MethodId) (ra : Addr) (va : Int64) (vb : Int64) : entryFrame m #[(.ref ra), (.long va), (.long vb)] 5 = mkF m 0 #[.val (.ref ra), .val (.long va), .second, .val (.long vb), .second] [] := by first | (simp [entryFrame, mkF, argsToLocals, Value.category]; done) | rfl
def Q_rep (Z : State) (ra : Addr) (va : Int64) (vb : Int64) (w_limit : Int64) (w_latest : Int64) (w_older : Int64) (h0 : Heap) (n0 : Nat) (v : Option Value) (h : Heap) (L : List Loc) : Prop := v = none ∧ Fr n0 L ∧ Keep h0 h [ra] ∧ (Fld Z h ra "dev/leasehold/server/ValueMemory" "limit" "J" (.long w_limit)) ∧ (Fld Z h ra "dev/leasehold/server/ValueMemory" "latest" "J" (.long (w_latest + (vb - va)))) ∧ (Fld Z h ra "dev/leasehold/server/ValueMemory" "older" "J" (.long w_older))
set_option maxRecDepth 65536 in
set_option maxHeartbeats 40000000 in
theorem rm_rep (l : Launch) (Z : State) (a0 : Array Value) (hw : ∀ d ∈ tables_1, d.before a0 Z = true) (ws : List Jvm.Cond) (ra : Addr) (va : Int64) (vb : Int64) (w_limit : Int64) (w_latest : Int64) (w_older : Int64) (h0 : Heap) (n0 : Nat) (Z0 : n0 ≤ h0.size) (E_ra : Exa Z h0 ra "dev/leasehold/server/ValueMemory") (F_limit : Fld Z h0 ra "dev/leasehold/server/ValueMemory" "limit" "J" (.long w_limit)) (F_latest : Fld Z h0 ra "dev/leasehold/server/ValueMemory" "latest" "J" (.long w_latest)) (F_older : Fld Z h0 ra "dev/leasehold/server/ValueMemory" "older" "J" (.long w_older)) (g_ra : n0 ≤ ra) :
    MetFree l (⟨"dev/leasehold/server/ValueMemory", "replaceLatest", "(JJ)V"⟩ : MethodName) (head1 (Jvm.Cond.code (⟨"dev/leasehold/server/ValueMemory", "replaceLatest", "(JJ)V"⟩ : MethodName) prog_139_method_4_code 5 none :: ws) ({ frames := 0, cells := 0, slots := 0, locals := 0 } : Room)) (fun a U => a = #[(.ref ra), (.long va), (.long vb)] ∧ Z.Warmed39 U.vm ∧ U.heap = h0) (fun _ _ _ _ _ => True) (fun _ U o U' => ∃ v L, o = .returned v ∧ Q_rep Z ra va vb w_limit w_latest w_older h0 n0 v U'.heap L ∧ FrameEnd U o U' L ({ frames := 0, cells := 0, slots := 0, locals := 0 } : Room).cells ({ frames := 0, cells := 0, slots := 0, locals := 0 } : Room).slots) := by
  refine MetFree.of_bodySF (plainFor_of_name pn_0) hisR ?_
  intro p e s m args below meth c s₁ Bd hml0 hP hK
  obtain ⟨rfl, hZ, hh⟩ := hP
  have hx := Bd.exec
  have hby := Bd.bytes
  have hml : c.maxLocals = 5 := hml0
  have hown : s.vm.findClass "dev/leasehold/server/ValueMemory" = some m.cls := findClass_of_methodNamed Bd.named
  have hnm := (name_of_methodNamed Bd.named Bd.method).1
  have X0 : Stand p l e ({ frames := 0, cells := 0, slots := 0, locals := 0 } : Room) s m #[(.ref ra), (.long va), (.long vb)] below meth c s₁ [] 0 0 := Stand.of_body Bd
  have e0 : s₁.heap = h0 := by rw [← hh, Bd.state]; rfl
  have N0 := Fr.nil n0
  have pre0 : ∀ t, Steps p.tables e below (s₁.setTop (mkF m 0 #[.val (.ref ra), .val (.long va), .second, .val (.long vb), .second] [])) t → Steps p.tables e below (s₁.setTop (entryFrame m #[(.ref ra), (.long va), (.long vb)] 5)) t := fun t k => castTop (ef_rep m ra va vb) k
  have kp0 : Keep h0 h0 [ra] := Keep.refl h0 _
  obtain ⟨T4, X4, e4, st4⟩ := getF X0 hx hZ hown (host := "") (Or.inl (hw _ (List.mem_of_getElem? (i := 22) rfl))) Via.refl e0 F_latest (g := (mkF m 2 #[.val (.ref ra), .val (.long va), .second, .val (.long vb), .second] [(.ref ra), (.ref ra)])) rfl rfl (hb hby d_prog_139_method_4_code_2)
  obtain ⟨T5, h5, X5, e5, W5, st5⟩ := putF X4 hx hZ hown (host := "") (Or.inl (hw _ (List.mem_of_getElem? (i := 22) rfl))) Via.refl e4 F_latest E_ra (Or.inl (hw _ (List.mem_of_getElem? (i := 23) rfl))) (hw _ (List.mem_of_getElem? (i := 7) rfl)) (ty := .long) (by decide) rfl rfl (g := (mkF m 9 #[.val (.ref ra), .val (.long va), .second, .val (.long vb), .second] [(.long (w_latest + (vb - va))), (.ref ra)])) rfl rfl (hb hby d_prog_139_method_4_code_9)
  have E_ra_5 := E_ra.wr W5
  have F_limit_5 := F_limit.other W5 (Or.inr (slot_ne (Or.inr (hw _ (List.mem_of_getElem? (i := 16) rfl))) (Or.inl (hw _ (List.mem_of_getElem? (i := 23) rfl))) (by decide) (t := .long) (t' := .long) (by decide) (by decide)))
  have F_older_5 := F_older.other W5 (Or.inr (slot_ne (Or.inl (hw _ (List.mem_of_getElem? (i := 35) rfl))) (Or.inl (hw _ (List.mem_of_getElem? (i := 23) rfl))) (by decide) (t := .long) (t' := .long) (by decide) (by decide)))
  have Fd_latest_ra_5 := F_latest.same W5
  have Z5 : n0 ≤ h5.size := Nat.le_trans Z0 (Keep.of_wr W5).1
  have kp5 := kp0.wr W5 (Or.inl (List.mem_of_getElem? (i := 0) rfl))
  have N5 := Fr.snoc X5 N0 g_ra
  obtain ⟨fs, hr, hrun, hended, hW, hsame⟩ := X5.leave (v := none) (fun _ => rfl)
  refine ⟨_, _, pre0 _ ?_, hrun, hended, _, _, rfl, ?_, ⟨_, rfl⟩, hW, hsame.mono (by decide) (by decide)⟩
  · show Steps p.tables e below (s₁.setTop (mkF m 0 #[.val (.ref ra), .val (.long va), .second, .val (.long vb), .second] [])) _
    refine XS.aloadN X0.here hx rfl (hb hby d_prog_139_method_4_code_0) rfl rfl ?_
    show Steps p.tables e below (s₁.setTop (mkF m 1 #[.val (.ref ra), .val (.long va), .second, .val (.long vb), .second] [(.ref ra)])) _
    refine XS.dup X0.here hx rfl (hb hby d_prog_139_method_4_code_1) rfl rfl ?_
    show Steps p.tables e below (s₁.setTop (mkF m 2 #[.val (.ref ra), .val (.long va), .second, .val (.long vb), .second] [(.ref ra), (.ref ra)])) _
    refine st4 _ ?_
    show Steps p.tables e below (T4.setTop (mkF m 5 #[.val (.ref ra), .val (.long va), .second, .val (.long vb), .second] [(.long w_latest), (.ref ra)])) _
    refine XS.lloadN X4.here hx rfl (hb hby d_prog_139_method_4_code_5) rfl ?_
    show Steps p.tables e below (T4.setTop (mkF m 6 #[.val (.ref ra), .val (.long va), .second, .val (.long vb), .second] [(.long vb), (.long w_latest), (.ref ra)])) _
    refine XS.lloadN X4.here hx rfl (hb hby d_prog_139_method_4_code_6) rfl ?_
    show Steps p.tables e below (T4.setTop (mkF m 7 #[.val (.ref ra), .val (.long va), .second, .val (.long vb), .second] [(.long va), (.long vb), (.long w_latest), (.ref ra)])) _
    refine XS.lsub X4.here hx rfl (hb hby d_prog_139_method_4_code_7) rfl ?_
    show Steps p.tables e below (T4.setTop (mkF m 8 #[.val (.ref ra), .val (.long va), .second, .val (.long vb), .second] [(.long (vb - va)), (.long w_latest), (.ref ra)])) _
    refine XS.ladd X4.here hx rfl (hb hby d_prog_139_method_4_code_8) rfl ?_
    show Steps p.tables e below (T4.setTop (mkF m 9 #[.val (.ref ra), .val (.long va), .second, .val (.long vb), .second] [(.long (w_latest + (vb - va))), (.ref ra)])) _
    refine st5 _ ?_
    show Steps p.tables e below (T5.setTop (mkF m 12 #[.val (.ref ra), .val (.long va), .second, .val (.long vb), .second] [])) _
    exact X5.returnOut hx Bd.returns (hb hby d_prog_139_method_4_code_12) hr
  · show Q_rep Z ra va vb w_limit w_latest w_older h0 n0 _ T5.heap _
    rw [e5]
    exact ⟨rfl, N5, kp5, F_limit_5, Fd_latest_ra_5, F_older_5⟩
theorem d_prog_139_method_5_code_0 : decode prog_139_method_5_code 0 = .ok (.aload_n 0, 1) := by decide +kernel
theorem d_prog_139_method_5_code_1 : decode prog_139_method_5_code 1 = .ok (.dup, 1) := by decide +kernel
theorem d_prog_139_method_5_code_2 : decode prog_139_method_5_code 2 = .ok (.getfield 33, 3) := by decide +kernel
theorem d_prog_139_method_5_code_5 : decode prog_139_method_5_code 5 = .ok (.lload_n 1, 1) := by decide +kernel
theorem d_prog_139_method_5_code_6 : decode prog_139_method_5_code 6 = .ok (.ladd, 1) := by decide +kernel
theorem d_prog_139_method_5_code_7 : decode prog_139_method_5_code 7 = .ok (.putfield 33, 3) := by decide +kernel
theorem d_prog_139_method_5_code_10 : decode prog_139_method_5_code 10 = .ok (.return_, 1) := by decide +kernel
theorem ef_add (m : MethodId) (ra : Addr) (va : Int64) : entryFrame m #[(.ref ra), (.long va)] 3 = mkF m 0 #[.val (.ref ra), .val (.long va), .second] [] := by first | (simp [entryFrame, mkF, argsToLocals, Value.category]; done) | rfl
def Q_add (Z : State) (ra : Addr) (va : Int64) (w_limit : Int64) (w_latest : Int64) (w_older : Int64) (h0 : Heap) (n0 : Nat) (v : Option Value) (h : Heap) (L : List Loc) : Prop := v = none ∧ Fr n0 L ∧ Keep h0 h [ra] ∧ (Fld Z h ra "dev/leasehold/server/ValueMemory" "limit" "J" (.long w_limit)) ∧ (Fld Z h ra "dev/leasehold/server/ValueMemory" "latest" "J" (.long w_latest)) ∧ (Fld Z h ra "dev/leasehold/server/ValueMemory" "older" "J" (.long (w_older + va)))
set_option maxRecDepth 65536 in
set_option maxHeartbeats 40000000 in
theorem rm_add (l : Launch) (Z : State) (a0 : Array Value) (hw : ∀ d ∈ tables_1, d.before a0 Z = true) (ws : List Jvm.Cond) (ra : Addr) (va : Int64) (w_limit : Int64) (w_latest : Int64) (w_older : Int64) (h0 : Heap) (n0 : Nat) (Z0 : n0 ≤ h0.size) (E_ra : Exa Z h0 ra "dev/leasehold/server/ValueMemory") (F_limit : Fld Z h0 ra "dev/leasehold/server/ValueMemory" "limit" "J" (.long w_limit)) (F_latest : Fld Z h0 ra "dev/leasehold/server/ValueMemory" "latest" "J" (.long w_latest)) (F_older : Fld Z h0 ra "dev/leasehold/server/ValueMemory" "older" "J" (.long w_older)) (g_ra : n0 ≤ ra) :
    MetFree l (⟨"dev/leasehold/server/ValueMemory", "addOlder", "(J)V"⟩ : MethodName) (head1 (Jvm.Cond.code (⟨"dev/leasehold/server/ValueMemory", "addOlder", "(J)V"⟩ : MethodName) prog_139_method_5_code 3 none :: ws) ({ frames := 0, cells := 0, slots := 0, locals := 0 } : Room)) (fun a U => a = #[(.ref ra), (.long va)] ∧ Z.Warmed39 U.vm ∧ U.heap = h0) (fun _ _ _ _ _ => True) (fun _ U o U' => ∃ v L, o = .returned v ∧ Q_add Z ra va w_limit w_latest w_older h0 n0 v U'.heap L ∧ FrameEnd U o U' L ({ frames := 0, cells := 0, slots := 0, locals := 0 } : Room).cells ({ frames := 0, cells := 0, slots := 0, locals := 0 } : Room).slots) := by
  refine MetFree.of_bodySF (plainFor_of_name pn_0) hisR ?_
  intro p e s m args below meth c s₁ Bd hml0 hP hK
  obtain ⟨rfl, hZ, hh⟩ := hP
  have hx := Bd.exec
  have hby := Bd.bytes
  have hml : c.maxLocals = 3 := hml0
  have hown : s.vm.findClass "dev/leasehold/server/ValueMemory" = some m.cls := findClass_of_methodNamed Bd.named
  have hnm := (name_of_methodNamed Bd.named Bd.method).1
  have X0 : Stand p l e ({ frames := 0, cells := 0, slots := 0, locals := 0 } : Room) s m #[(.ref ra), (.long va)] below meth c s₁ [] 0 0 := Stand.of_body Bd
  have e0 : s₁.heap = h0 := by rw [← hh, Bd.state]; rfl
  have N0 := Fr.nil n0
  have pre0 : ∀ t, Steps p.tables e below (s₁.setTop (mkF m 0 #[.val (.ref ra), .val (.long va), .second] [])) t → Steps p.tables e below (s₁.setTop (entryFrame m #[(.ref ra), (.long va)] 3)) t := fun t k => castTop (ef_add m ra va) k
  have kp0 : Keep h0 h0 [ra] := Keep.refl h0 _
  obtain ⟨T6, X6, e6, st6⟩ := getF X0 hx hZ hown (host := "") (Or.inl (hw _ (List.mem_of_getElem? (i := 34) rfl))) Via.refl e0 F_older (g := (mkF m 2 #[.val (.ref ra), .val (.long va), .second] [(.ref ra), (.ref ra)])) rfl rfl (hb hby d_prog_139_method_5_code_2)
  obtain ⟨T7, h7, X7, e7, W7, st7⟩ := putF X6 hx hZ hown (host := "") (Or.inl (hw _ (List.mem_of_getElem? (i := 34) rfl))) Via.refl e6 F_older E_ra (Or.inl (hw _ (List.mem_of_getElem? (i := 35) rfl))) (hw _ (List.mem_of_getElem? (i := 7) rfl)) (ty := .long) (by decide) rfl rfl (g := (mkF m 7 #[.val (.ref ra), .val (.long va), .second] [(.long (w_older + va)), (.ref ra)])) rfl rfl (hb hby d_prog_139_method_5_code_7)
  have E_ra_7 := E_ra.wr W7
  have F_limit_7 := F_limit.other W7 (Or.inr (slot_ne (Or.inr (hw _ (List.mem_of_getElem? (i := 16) rfl))) (Or.inl (hw _ (List.mem_of_getElem? (i := 35) rfl))) (by decide) (t := .long) (t' := .long) (by decide) (by decide)))
  have F_latest_7 := F_latest.other W7 (Or.inr (slot_ne (Or.inl (hw _ (List.mem_of_getElem? (i := 23) rfl))) (Or.inl (hw _ (List.mem_of_getElem? (i := 35) rfl))) (by decide) (t := .long) (t' := .long) (by decide) (by decide)))
  have Fd_older_ra_7 := F_older.same W7
  have Z7 : n0 ≤ h7.size := Nat.le_trans Z0 (Keep.of_wr W7).1
  have kp7 := kp0.wr W7 (Or.inl (List.mem_of_getElem? (i := 0) rfl))
  have N7 := Fr.snoc X7 N0 g_ra
  obtain ⟨fs, hr, hrun, hended, hW, hsame⟩ := X7.leave (v := none) (fun _ => rfl)
  refine ⟨_, _, pre0 _ ?_, hrun, hended, _, _, rfl, ?_, ⟨_, rfl⟩, hW, hsame.mono (by decide) (by decide)⟩
  · show Steps p.tables e below (s₁.setTop (mkF m 0 #[.val (.ref ra), .val (.long va), .second] [])) _
    refine XS.aloadN X0.here hx rfl (hb hby d_prog_139_method_5_code_0) rfl rfl ?_
    show Steps p.tables e below (s₁.setTop (mkF m 1 #[.val (.ref ra), .val (.long va), .second] [(.ref ra)])) _
    refine XS.dup X0.here hx rfl (hb hby d_prog_139_method_5_code_1) rfl rfl ?_
    show Steps p.tables e below (s₁.setTop (mkF m 2 #[.val (.ref ra), .val (.long va), .second] [(.ref ra), (.ref ra)])) _
    refine st6 _ ?_
    show Steps p.tables e below (T6.setTop (mkF m 5 #[.val (.ref ra), .val (.long va), .second] [(.long w_older), (.ref ra)])) _
    refine XS.lloadN X6.here hx rfl (hb hby d_prog_139_method_5_code_5) rfl ?_
    show Steps p.tables e below (T6.setTop (mkF m 6 #[.val (.ref ra), .val (.long va), .second] [(.long va), (.long w_older), (.ref ra)])) _
    refine XS.ladd X6.here hx rfl (hb hby d_prog_139_method_5_code_6) rfl ?_
    show Steps p.tables e below (T6.setTop (mkF m 7 #[.val (.ref ra), .val (.long va), .second] [(.long (w_older + va)), (.ref ra)])) _
    refine st7 _ ?_
    show Steps p.tables e below (T7.setTop (mkF m 10 #[.val (.ref ra), .val (.long va), .second] [])) _
    exact X7.returnOut hx Bd.returns (hb hby d_prog_139_method_5_code_10) hr
  · show Q_add Z ra va w_limit w_latest w_older h0 n0 _ T7.heap _
    rw [e7]
    exact ⟨rfl, N7, kp7, F_limit_7, F_latest_7, Fd_older_ra_7⟩
theorem d_prog_139_method_3_code_0 : decode prog_139_method_3_code 0 = .ok (.lload_n 3, 1) := by decide +kernel
theorem d_prog_139_method_3_code_1 : decode prog_139_method_3_code 1 = .ok (.lload_n 1, 1) := by decide +kernel
theorem d_prog_139_method_3_code_2 : decode prog_139_method_3_code 2 = .ok (.lcmp, 1) := by decide +kernel
theorem d_prog_139_method_3_code_3 : decode prog_139_method_3_code 3 = .ok (.ifCond .le 19, 3) := by decide +kernel
theorem d_prog_139_method_3_code_6 : decode prog_139_method_3_code 6 = .ok (.aload_n 0, 1) := by decide +kernel
theorem d_prog_139_method_3_code_7 : decode prog_139_method_3_code 7 = .ok (.getfield 30, 3) := by decide +kernel
theorem d_prog_139_method_3_code_10 : decode prog_139_method_3_code 10 = .ok (.lload_n 1, 1) := by decide +kernel
theorem d_prog_139_method_3_code_11 : decode prog_139_method_3_code 11 = .ok (.lsub, 1) := by decide +kernel
theorem d_prog_139_method_3_code_12 : decode prog_139_method_3_code 12 = .ok (.lload_n 3, 1) := by decide +kernel
theorem d_prog_139_method_3_code_13 : decode prog_139_method_3_code 13 = .ok (.ladd, 1) := by decide +kernel
theorem d_prog_139_method_3_code_14 : decode prog_139_method_3_code 14 = .ok (.aload_n 0, 1) := by decide +kernel
theorem d_prog_139_method_3_code_15 : decode prog_139_method_3_code 15 = .ok (.getfield 7, 3) := by decide +kernel
theorem d_prog_139_method_3_code_18 : decode prog_139_method_3_code 18 = .ok (.lcmp, 1) := by decide +kernel
theorem d_prog_139_method_3_code_19 : decode prog_139_method_3_code 19 = .ok (.ifCond .gt 7, 3) := by decide +kernel
theorem d_prog_139_method_3_code_26 : decode prog_139_method_3_code 26 = .ok (.iconst 0, 1) := by decide +kernel
theorem d_prog_139_method_3_code_27 : decode prog_139_method_3_code 27 = .ok (.ireturn, 1) := by decide +kernel
theorem d_prog_139_method_3_code_22 : decode prog_139_method_3_code 22 = .ok (.iconst 1, 1) := by decide +kernel
theorem d_prog_139_method_3_code_23 : decode prog_139_method_3_code 23 = .ok (.goto 4, 3) := by decide +kernel
theorem ef_adm (m : MethodId) (ra : Addr) (va : Int64) (vb : Int64) : entryFrame m #[(.ref ra), (.long va), (.long vb)] 5 = mkF m 0 #[.val (.ref ra), .val (.long va), .second, .val (.long vb), .second] [] := by first | (simp [entryFrame, mkF, argsToLocals, Value.category]; done) | rfl
def Q_adm (Z : State) (ra : Addr) (va : Int64) (vb : Int64) (w_limit : Int64) (w_latest : Int64) (w_older : Int64) (h0 : Heap) (n0 : Nat) (v : Option Value) (h : Heap) (L : List Loc) : Prop := (∃ z : Int32, v = some (.int z) ∧ (z = if va < vb then (if w_limit < ((w_latest - va) + vb) then 0 else 1) else 1)) ∧ Fr n0 L ∧ h = h0
set_option maxRecDepth 65536 in
set_option maxHeartbeats 40000000 in
theorem rm_adm (l : Launch) (Z : State) (a0 : Array Value) (hw : ∀ d ∈ tables_1, d.before a0 Z = true) (ws : List Jvm.Cond) (ra : Addr) (va : Int64) (vb : Int64) (w_limit : Int64) (w_latest : Int64) (w_older : Int64) (h0 : Heap) (n0 : Nat) (Z0 : n0 ≤ h0.size) (E_ra : Exa Z h0 ra "dev/leasehold/server/ValueMemory") (F_limit : Fld Z h0 ra "dev/leasehold/server/ValueMemory" "limit" "J" (.long w_limit)) (F_latest : Fld Z h0 ra "dev/leasehold/server/ValueMemory" "latest" "J" (.long w_latest)) (F_older : Fld Z h0 ra "dev/leasehold/server/ValueMemory" "older" "J" (.long w_older)) :
    MetFree l (⟨"dev/leasehold/server/ValueMemory", "admits", "(JJ)Z"⟩ : MethodName) (head1 (Jvm.Cond.code (⟨"dev/leasehold/server/ValueMemory", "admits", "(JJ)Z"⟩ : MethodName) prog_139_method_3_code 5 (some .boolean) :: ws) ({ frames := 0, cells := 0, slots := 0, locals := 0 } : Room)) (fun a U => a = #[(.ref ra), (.long va), (.long vb)] ∧ Z.Warmed39 U.vm ∧ U.heap = h0) (fun _ _ _ _ _ => True) (fun _ U o U' => ∃ v L, o = .returned v ∧ Q_adm Z ra va vb w_limit w_latest w_older h0 n0 v U'.heap L ∧ FrameEnd U o U' L ({ frames := 0, cells := 0, slots := 0, locals := 0 } : Room).cells ({ frames := 0, cells := 0, slots := 0, locals := 0 } : Room).slots) := by
  refine MetFree.of_bodySF (plainFor_of_name pn_0) hisR ?_
  intro p e s m args below meth c s₁ Bd hml0 hP hK
  obtain ⟨rfl, hZ, hh⟩ := hP
  have hx := Bd.exec
  have hby := Bd.bytes
  have hml : c.maxLocals = 5 := hml0
  have hown : s.vm.findClass "dev/leasehold/server/ValueMemory" = some m.cls := findClass_of_methodNamed Bd.named
  have hnm := (name_of_methodNamed Bd.named Bd.method).1
  have X0 : Stand p l e ({ frames := 0, cells := 0, slots := 0, locals := 0 } : Room) s m #[(.ref ra), (.long va), (.long vb)] below meth c s₁ [] 0 0 := Stand.of_body Bd
  have e0 : s₁.heap = h0 := by rw [← hh, Bd.state]; rfl
  have N0 := Fr.nil n0
  have pre0 : ∀ t, Steps p.tables e below (s₁.setTop (mkF m 0 #[.val (.ref ra), .val (.long va), .second, .val (.long vb), .second] [])) t → Steps p.tables e below (s₁.setTop (entryFrame m #[(.ref ra), (.long va), (.long vb)] 5)) t := fun t k => castTop (ef_adm m ra va vb) k
  by_cases h3_8 : va < vb
  · obtain ⟨T9, X9, e9, st9⟩ := getF X0 hx hZ hown (host := "") (Or.inl (hw _ (List.mem_of_getElem? (i := 22) rfl))) Via.refl e0 F_latest (g := (mkF m 7 #[.val (.ref ra), .val (.long va), .second, .val (.long vb), .second] [(.ref ra)])) rfl rfl (hb hby d_prog_139_method_3_code_7)
    obtain ⟨T10, X10, e10, st10⟩ := getF X9 hx hZ hown (host := "") (Or.inl (hw _ (List.mem_of_getElem? (i := 15) rfl))) Via.refl e9 F_limit (g := (mkF m 15 #[.val (.ref ra), .val (.long va), .second, .val (.long vb), .second] [(.ref ra), (.long ((w_latest - va) + vb))])) rfl rfl (hb hby d_prog_139_method_3_code_15)
    by_cases h19_11 : w_limit < ((w_latest - va) + vb)
    · obtain ⟨fs, hr, hrun, hended, hW, hsame⟩ := X10.leave (v := some (.int (0 : Int32))) (fun h => by rw [Bd.returns] at h; cases h)
      refine ⟨_, _, pre0 _ ?_, hrun, hended, _, _, rfl, ?_, ⟨_, rfl⟩, hW, hsame.mono (by decide) (by decide)⟩
      · show Steps p.tables e below (s₁.setTop (mkF m 0 #[.val (.ref ra), .val (.long va), .second, .val (.long vb), .second] [])) _
        refine XS.lloadN X0.here hx rfl (hb hby d_prog_139_method_3_code_0) rfl ?_
        show Steps p.tables e below (s₁.setTop (mkF m 1 #[.val (.ref ra), .val (.long va), .second, .val (.long vb), .second] [(.long vb)])) _
        refine XS.lloadN X0.here hx rfl (hb hby d_prog_139_method_3_code_1) rfl ?_
        show Steps p.tables e below (s₁.setTop (mkF m 2 #[.val (.ref ra), .val (.long va), .second, .val (.long vb), .second] [(.long va), (.long vb)])) _
        refine XS.lcmp X0.here hx rfl (hb hby d_prog_139_method_3_code_2) rfl ?_
        show Steps p.tables e below (s₁.setTop (mkF m 3 #[.val (.ref ra), .val (.long va), .second, .val (.long vb), .second] [(.int (lcmpW vb va))])) _
        refine XS.ifNo X0.here hx rfl (hb hby d_prog_139_method_3_code_3) rfl ((if0 _ _).trans (tlt ((lw_gt _ _).mpr h3_8)).2.2.2) ?_
        show Steps p.tables e below (s₁.setTop (mkF m 6 #[.val (.ref ra), .val (.long va), .second, .val (.long vb), .second] [])) _
        refine XS.aloadN X0.here hx rfl (hb hby d_prog_139_method_3_code_6) rfl rfl ?_
        show Steps p.tables e below (s₁.setTop (mkF m 7 #[.val (.ref ra), .val (.long va), .second, .val (.long vb), .second] [(.ref ra)])) _
        refine st9 _ ?_
        show Steps p.tables e below (T9.setTop (mkF m 10 #[.val (.ref ra), .val (.long va), .second, .val (.long vb), .second] [(.long w_latest)])) _
        refine XS.lloadN X9.here hx rfl (hb hby d_prog_139_method_3_code_10) rfl ?_
        show Steps p.tables e below (T9.setTop (mkF m 11 #[.val (.ref ra), .val (.long va), .second, .val (.long vb), .second] [(.long va), (.long w_latest)])) _
        refine XS.lsub X9.here hx rfl (hb hby d_prog_139_method_3_code_11) rfl ?_
        show Steps p.tables e below (T9.setTop (mkF m 12 #[.val (.ref ra), .val (.long va), .second, .val (.long vb), .second] [(.long (w_latest - va))])) _
        refine XS.lloadN X9.here hx rfl (hb hby d_prog_139_method_3_code_12) rfl ?_
        show Steps p.tables e below (T9.setTop (mkF m 13 #[.val (.ref ra), .val (.long va), .second, .val (.long vb), .second] [(.long vb), (.long (w_latest - va))])) _
        refine XS.ladd X9.here hx rfl (hb hby d_prog_139_method_3_code_13) rfl ?_
        show Steps p.tables e below (T9.setTop (mkF m 14 #[.val (.ref ra), .val (.long va), .second, .val (.long vb), .second] [(.long ((w_latest - va) + vb))])) _
        refine XS.aloadN X9.here hx rfl (hb hby d_prog_139_method_3_code_14) rfl rfl ?_
        show Steps p.tables e below (T9.setTop (mkF m 15 #[.val (.ref ra), .val (.long va), .second, .val (.long vb), .second] [(.ref ra), (.long ((w_latest - va) + vb))])) _
        refine st10 _ ?_
        show Steps p.tables e below (T10.setTop (mkF m 18 #[.val (.ref ra), .val (.long va), .second, .val (.long vb), .second] [(.long w_limit), (.long ((w_latest - va) + vb))])) _
        refine XS.lcmp X10.here hx rfl (hb hby d_prog_139_method_3_code_18) rfl ?_
        show Steps p.tables e below (T10.setTop (mkF m 19 #[.val (.ref ra), .val (.long va), .second, .val (.long vb), .second] [(.int (lcmpW ((w_latest - va) + vb) w_limit))])) _
        refine XS.ifYes X10.here hx rfl (pc0 := 19) (pc' := 26) rfl (hb hby d_prog_139_method_3_code_19) rfl ((if0 _ _).trans (tlt ((lw_gt _ _).mpr h19_11)).2.2.1) (by decide) (by decide) ?_
        show Steps p.tables e below (T10.setTop (mkF m 26 #[.val (.ref ra), .val (.long va), .second, .val (.long vb), .second] [])) _
        refine XS.iconst X10.here hx rfl (hb hby d_prog_139_method_3_code_26) ?_
        show Steps p.tables e below (T10.setTop (mkF m 27 #[.val (.ref ra), .val (.long va), .second, .val (.long vb), .second] [(.int (0 : Int32))])) _
        exact retN X10 hx (t := .boolean) Bd.returns (by simp) (hb hby d_prog_139_method_3_code_27) hr
      · show Q_adm Z ra va vb w_limit w_latest w_older h0 n0 _ T10.heap _
        rw [e10]
        exact ⟨⟨_, rfl, by simp [h3_8, h19_11]⟩, N0, rfl⟩
    · obtain ⟨fs, hr, hrun, hended, hW, hsame⟩ := X10.leave (v := some (.int (1 : Int32))) (fun h => by rw [Bd.returns] at h; cases h)
      refine ⟨_, _, pre0 _ ?_, hrun, hended, _, _, rfl, ?_, ⟨_, rfl⟩, hW, hsame.mono (by decide) (by decide)⟩
      · show Steps p.tables e below (s₁.setTop (mkF m 0 #[.val (.ref ra), .val (.long va), .second, .val (.long vb), .second] [])) _
        refine XS.lloadN X0.here hx rfl (hb hby d_prog_139_method_3_code_0) rfl ?_
        show Steps p.tables e below (s₁.setTop (mkF m 1 #[.val (.ref ra), .val (.long va), .second, .val (.long vb), .second] [(.long vb)])) _
        refine XS.lloadN X0.here hx rfl (hb hby d_prog_139_method_3_code_1) rfl ?_
        show Steps p.tables e below (s₁.setTop (mkF m 2 #[.val (.ref ra), .val (.long va), .second, .val (.long vb), .second] [(.long va), (.long vb)])) _
        refine XS.lcmp X0.here hx rfl (hb hby d_prog_139_method_3_code_2) rfl ?_
        show Steps p.tables e below (s₁.setTop (mkF m 3 #[.val (.ref ra), .val (.long va), .second, .val (.long vb), .second] [(.int (lcmpW vb va))])) _
        refine XS.ifNo X0.here hx rfl (hb hby d_prog_139_method_3_code_3) rfl ((if0 _ _).trans (tlt ((lw_gt _ _).mpr h3_8)).2.2.2) ?_
        show Steps p.tables e below (s₁.setTop (mkF m 6 #[.val (.ref ra), .val (.long va), .second, .val (.long vb), .second] [])) _
        refine XS.aloadN X0.here hx rfl (hb hby d_prog_139_method_3_code_6) rfl rfl ?_
        show Steps p.tables e below (s₁.setTop (mkF m 7 #[.val (.ref ra), .val (.long va), .second, .val (.long vb), .second] [(.ref ra)])) _
        refine st9 _ ?_
        show Steps p.tables e below (T9.setTop (mkF m 10 #[.val (.ref ra), .val (.long va), .second, .val (.long vb), .second] [(.long w_latest)])) _
        refine XS.lloadN X9.here hx rfl (hb hby d_prog_139_method_3_code_10) rfl ?_
        show Steps p.tables e below (T9.setTop (mkF m 11 #[.val (.ref ra), .val (.long va), .second, .val (.long vb), .second] [(.long va), (.long w_latest)])) _
        refine XS.lsub X9.here hx rfl (hb hby d_prog_139_method_3_code_11) rfl ?_
        show Steps p.tables e below (T9.setTop (mkF m 12 #[.val (.ref ra), .val (.long va), .second, .val (.long vb), .second] [(.long (w_latest - va))])) _
        refine XS.lloadN X9.here hx rfl (hb hby d_prog_139_method_3_code_12) rfl ?_
        show Steps p.tables e below (T9.setTop (mkF m 13 #[.val (.ref ra), .val (.long va), .second, .val (.long vb), .second] [(.long vb), (.long (w_latest - va))])) _
        refine XS.ladd X9.here hx rfl (hb hby d_prog_139_method_3_code_13) rfl ?_
        show Steps p.tables e below (T9.setTop (mkF m 14 #[.val (.ref ra), .val (.long va), .second, .val (.long vb), .second] [(.long ((w_latest - va) + vb))])) _
        refine XS.aloadN X9.here hx rfl (hb hby d_prog_139_method_3_code_14) rfl rfl ?_
        show Steps p.tables e below (T9.setTop (mkF m 15 #[.val (.ref ra), .val (.long va), .second, .val (.long vb), .second] [(.ref ra), (.long ((w_latest - va) + vb))])) _
        refine st10 _ ?_
        show Steps p.tables e below (T10.setTop (mkF m 18 #[.val (.ref ra), .val (.long va), .second, .val (.long vb), .second] [(.long w_limit), (.long ((w_latest - va) + vb))])) _
        refine XS.lcmp X10.here hx rfl (hb hby d_prog_139_method_3_code_18) rfl ?_
        show Steps p.tables e below (T10.setTop (mkF m 19 #[.val (.ref ra), .val (.long va), .second, .val (.long vb), .second] [(.int (lcmpW ((w_latest - va) + vb) w_limit))])) _
        refine XS.ifNo X10.here hx rfl (hb hby d_prog_139_method_3_code_19) rfl ((if0 _ _).trans (flt (fun q => h19_11 ((lw_gt _ _).mp q))).2.2.1) ?_
        show Steps p.tables e below (T10.setTop (mkF m 22 #[.val (.ref ra), .val (.long va), .second, .val (.long vb), .second] [])) _
        refine XS.iconst X10.here hx rfl (hb hby d_prog_139_method_3_code_22) ?_
        show Steps p.tables e below (T10.setTop (mkF m 23 #[.val (.ref ra), .val (.long va), .second, .val (.long vb), .second] [(.int (1 : Int32))])) _
        refine XS.goto X10.here hx rfl (pc0 := 23) (pc' := 27) rfl (hb hby d_prog_139_method_3_code_23) (by decide) (by decide) ?_
        show Steps p.tables e below (T10.setTop (mkF m 27 #[.val (.ref ra), .val (.long va), .second, .val (.long vb), .second] [(.int (1 : Int32))])) _
        exact retN X10 hx (t := .boolean) Bd.returns (by simp) (hb hby d_prog_139_method_3_code_27) hr
      · show Q_adm Z ra va vb w_limit w_latest w_older h0 n0 _ T10.heap _
        rw [e10]
        exact ⟨⟨_, rfl, by simp [h3_8, h19_11]⟩, N0, rfl⟩
  · obtain ⟨fs, hr, hrun, hended, hW, hsame⟩ := X0.leave (v := some (.int (1 : Int32))) (fun h => by rw [Bd.returns] at h; cases h)
    refine ⟨_, _, pre0 _ ?_, hrun, hended, _, _, rfl, ?_, ⟨_, rfl⟩, hW, hsame.mono (by decide) (by decide)⟩
    · show Steps p.tables e below (s₁.setTop (mkF m 0 #[.val (.ref ra), .val (.long va), .second, .val (.long vb), .second] [])) _
      refine XS.lloadN X0.here hx rfl (hb hby d_prog_139_method_3_code_0) rfl ?_
      show Steps p.tables e below (s₁.setTop (mkF m 1 #[.val (.ref ra), .val (.long va), .second, .val (.long vb), .second] [(.long vb)])) _
      refine XS.lloadN X0.here hx rfl (hb hby d_prog_139_method_3_code_1) rfl ?_
      show Steps p.tables e below (s₁.setTop (mkF m 2 #[.val (.ref ra), .val (.long va), .second, .val (.long vb), .second] [(.long va), (.long vb)])) _
      refine XS.lcmp X0.here hx rfl (hb hby d_prog_139_method_3_code_2) rfl ?_
      show Steps p.tables e below (s₁.setTop (mkF m 3 #[.val (.ref ra), .val (.long va), .second, .val (.long vb), .second] [(.int (lcmpW vb va))])) _
      refine XS.ifYes X0.here hx rfl (pc0 := 3) (pc' := 22) rfl (hb hby d_prog_139_method_3_code_3) rfl ((if0 _ _).trans (flt (fun q => h3_8 ((lw_gt _ _).mp q))).2.2.2) (by decide) (by decide) ?_
      show Steps p.tables e below (s₁.setTop (mkF m 22 #[.val (.ref ra), .val (.long va), .second, .val (.long vb), .second] [])) _
      refine XS.iconst X0.here hx rfl (hb hby d_prog_139_method_3_code_22) ?_
      show Steps p.tables e below (s₁.setTop (mkF m 23 #[.val (.ref ra), .val (.long va), .second, .val (.long vb), .second] [(.int (1 : Int32))])) _
      refine XS.goto X0.here hx rfl (pc0 := 23) (pc' := 27) rfl (hb hby d_prog_139_method_3_code_23) (by decide) (by decide) ?_
      show Steps p.tables e below (s₁.setTop (mkF m 27 #[.val (.ref ra), .val (.long va), .second, .val (.long vb), .second] [(.int (1 : Int32))])) _
      exact retN X0 hx (t := .boolean) Bd.returns (by simp) (hb hby d_prog_139_method_3_code_27) hr
    · show Q_adm Z ra va vb w_limit w_latest w_older h0 n0 _ s₁.heap _
      rw [e0]
      exact ⟨⟨_, rfl, by simp [h3_8]⟩, N0, rfl⟩
theorem d_prog_139_method_7_code_0 : decode prog_139_method_7_code 0 = .ok (.aload_n 0, 1) := by decide +kernel
theorem d_prog_139_method_7_code_1 : decode prog_139_method_7_code 1 = .ok (.getfield 33, 3) := by decide +kernel
theorem d_prog_139_method_7_code_4 : decode prog_139_method_7_code 4 = .ok (.lconst 0, 1) := by decide +kernel
theorem d_prog_139_method_7_code_5 : decode prog_139_method_7_code 5 = .ok (.lcmp, 1) := by decide +kernel
theorem d_prog_139_method_7_code_6 : decode prog_139_method_7_code 6 = .ok (.ifCond .le 24, 3) := by decide +kernel
theorem d_prog_139_method_7_code_9 : decode prog_139_method_7_code 9 = .ok (.aload_n 0, 1) := by decide +kernel
theorem d_prog_139_method_7_code_10 : decode prog_139_method_7_code 10 = .ok (.getfield 30, 3) := by decide +kernel
theorem d_prog_139_method_7_code_13 : decode prog_139_method_7_code 13 = .ok (.aload_n 0, 1) := by decide +kernel
theorem d_prog_139_method_7_code_14 : decode prog_139_method_7_code 14 = .ok (.getfield 33, 3) := by decide +kernel
theorem d_prog_139_method_7_code_17 : decode prog_139_method_7_code 17 = .ok (.ladd, 1) := by decide +kernel
theorem d_prog_139_method_7_code_18 : decode prog_139_method_7_code 18 = .ok (.aload_n 0, 1) := by decide +kernel
theorem d_prog_139_method_7_code_19 : decode prog_139_method_7_code 19 = .ok (.getfield 7, 3) := by decide +kernel
theorem d_prog_139_method_7_code_22 : decode prog_139_method_7_code 22 = .ok (.lcmp, 1) := by decide +kernel
theorem d_prog_139_method_7_code_23 : decode prog_139_method_7_code 23 = .ok (.ifCond .le 7, 3) := by decide +kernel
theorem d_prog_139_method_7_code_26 : decode prog_139_method_7_code 26 = .ok (.iconst 1, 1) := by decide +kernel
theorem d_prog_139_method_7_code_27 : decode prog_139_method_7_code 27 = .ok (.goto 4, 3) := by decide +kernel
theorem d_prog_139_method_7_code_31 : decode prog_139_method_7_code 31 = .ok (.ireturn, 1) := by decide +kernel
theorem d_prog_139_method_7_code_30 : decode prog_139_method_7_code 30 = .ok (.iconst 0, 1) := by decide +kernel
theorem ef_ovf (m : MethodId) (ra : Addr) : entryFrame m #[(.ref ra)] 1 = mkF m 0 #[.val (.ref ra)] [] := by first | (simp [entryFrame, mkF, argsToLocals, Value.category]; done) | rfl
def Q_ovf (Z : State) (ra : Addr) (w_limit : Int64) (w_latest : Int64) (w_older : Int64) (h0 : Heap) (n0 : Nat) (v : Option Value) (h : Heap) (L : List Loc) : Prop := (∃ z : Int32, v = some (.int z) ∧ (z = if 0 < w_older then (if w_limit < (w_latest + w_older) then 1 else 0) else 0)) ∧ Fr n0 L ∧ h = h0
set_option maxRecDepth 65536 in
set_option maxHeartbeats 40000000 in
theorem rm_ovf (l : Launch) (Z : State) (a0 : Array Value) (hw : ∀ d ∈ tables_1, d.before a0 Z = true) (ws : List Jvm.Cond) (ra : Addr) (w_limit : Int64) (w_latest : Int64) (w_older : Int64) (h0 : Heap) (n0 : Nat) (Z0 : n0 ≤ h0.size) (E_ra : Exa Z h0 ra "dev/leasehold/server/ValueMemory") (F_limit : Fld Z h0 ra "dev/leasehold/server/ValueMemory" "limit" "J" (.long w_limit)) (F_latest : Fld Z h0 ra "dev/leasehold/server/ValueMemory" "latest" "J" (.long w_latest)) (F_older : Fld Z h0 ra "dev/leasehold/server/ValueMemory" "older" "J" (.long w_older)) :
    MetFree l (⟨"dev/leasehold/server/ValueMemory", "olderOverflow", "()Z"⟩ : MethodName) (head1 (Jvm.Cond.code (⟨"dev/leasehold/server/ValueMemory", "olderOverflow", "()Z"⟩ : MethodName) prog_139_method_7_code 1 (some .boolean) :: ws) ({ frames := 0, cells := 0, slots := 0, locals := 0 } : Room)) (fun a U => a = #[(.ref ra)] ∧ Z.Warmed39 U.vm ∧ U.heap = h0) (fun _ _ _ _ _ => True) (fun _ U o U' => ∃ v L, o = .returned v ∧ Q_ovf Z ra w_limit w_latest w_older h0 n0 v U'.heap L ∧ FrameEnd U o U' L ({ frames := 0, cells := 0, slots := 0, locals := 0 } : Room).cells ({ frames := 0, cells := 0, slots := 0, locals := 0 } : Room).slots) := by
  refine MetFree.of_bodySF (plainFor_of_name pn_0) hisR ?_
  intro p e s m args below meth c s₁ Bd hml0 hP hK
  obtain ⟨rfl, hZ, hh⟩ := hP
  have hx := Bd.exec
  have hby := Bd.bytes
  have hml : c.maxLocals = 1 := hml0
  have hown : s.vm.findClass "dev/leasehold/server/ValueMemory" = some m.cls := findClass_of_methodNamed Bd.named
  have hnm := (name_of_methodNamed Bd.named Bd.method).1
  have X0 : Stand p l e ({ frames := 0, cells := 0, slots := 0, locals := 0 } : Room) s m #[(.ref ra)] below meth c s₁ [] 0 0 := Stand.of_body Bd
  have e0 : s₁.heap = h0 := by rw [← hh, Bd.state]; rfl
  have N0 := Fr.nil n0
  have pre0 : ∀ t, Steps p.tables e below (s₁.setTop (mkF m 0 #[.val (.ref ra)] [])) t → Steps p.tables e below (s₁.setTop (entryFrame m #[(.ref ra)] 1)) t := fun t k => castTop (ef_ovf m ra) k
  obtain ⟨T12, X12, e12, st12⟩ := getF X0 hx hZ hown (host := "") (Or.inl (hw _ (List.mem_of_getElem? (i := 34) rfl))) Via.refl e0 F_older (g := (mkF m 1 #[.val (.ref ra)] [(.ref ra)])) rfl rfl (hb hby d_prog_139_method_7_code_1)
  by_cases h6_13 : (0 : Int64) < w_older
  · obtain ⟨T14, X14, e14, st14⟩ := getF X12 hx hZ hown (host := "") (Or.inl (hw _ (List.mem_of_getElem? (i := 22) rfl))) Via.refl e12 F_latest (g := (mkF m 10 #[.val (.ref ra)] [(.ref ra)])) rfl rfl (hb hby d_prog_139_method_7_code_10)
    obtain ⟨T15, X15, e15, st15⟩ := getF X14 hx hZ hown (host := "") (Or.inl (hw _ (List.mem_of_getElem? (i := 34) rfl))) Via.refl e14 F_older (g := (mkF m 14 #[.val (.ref ra)] [(.ref ra), (.long w_latest)])) rfl rfl (hb hby d_prog_139_method_7_code_14)
    obtain ⟨T16, X16, e16, st16⟩ := getF X15 hx hZ hown (host := "") (Or.inl (hw _ (List.mem_of_getElem? (i := 15) rfl))) Via.refl e15 F_limit (g := (mkF m 19 #[.val (.ref ra)] [(.ref ra), (.long (w_latest + w_older))])) rfl rfl (hb hby d_prog_139_method_7_code_19)
    by_cases h23_17 : w_limit < (w_latest + w_older)
    · obtain ⟨fs, hr, hrun, hended, hW, hsame⟩ := X16.leave (v := some (.int (1 : Int32))) (fun h => by rw [Bd.returns] at h; cases h)
      refine ⟨_, _, pre0 _ ?_, hrun, hended, _, _, rfl, ?_, ⟨_, rfl⟩, hW, hsame.mono (by decide) (by decide)⟩
      · show Steps p.tables e below (s₁.setTop (mkF m 0 #[.val (.ref ra)] [])) _
        refine XS.aloadN X0.here hx rfl (hb hby d_prog_139_method_7_code_0) rfl rfl ?_
        show Steps p.tables e below (s₁.setTop (mkF m 1 #[.val (.ref ra)] [(.ref ra)])) _
        refine st12 _ ?_
        show Steps p.tables e below (T12.setTop (mkF m 4 #[.val (.ref ra)] [(.long w_older)])) _
        refine XS.lconst X12.here hx rfl (hb hby d_prog_139_method_7_code_4) ?_
        show Steps p.tables e below (T12.setTop (mkF m 5 #[.val (.ref ra)] [(.long (0 : Int64)), (.long w_older)])) _
        refine XS.lcmp X12.here hx rfl (hb hby d_prog_139_method_7_code_5) rfl ?_
        show Steps p.tables e below (T12.setTop (mkF m 6 #[.val (.ref ra)] [(.int (lcmpW w_older (0 : Int64)))])) _
        refine XS.ifNo X12.here hx rfl (hb hby d_prog_139_method_7_code_6) rfl ((if0 _ _).trans (tlt ((lw_gt _ _).mpr h6_13)).2.2.2) ?_
        show Steps p.tables e below (T12.setTop (mkF m 9 #[.val (.ref ra)] [])) _
        refine XS.aloadN X12.here hx rfl (hb hby d_prog_139_method_7_code_9) rfl rfl ?_
        show Steps p.tables e below (T12.setTop (mkF m 10 #[.val (.ref ra)] [(.ref ra)])) _
        refine st14 _ ?_
        show Steps p.tables e below (T14.setTop (mkF m 13 #[.val (.ref ra)] [(.long w_latest)])) _
        refine XS.aloadN X14.here hx rfl (hb hby d_prog_139_method_7_code_13) rfl rfl ?_
        show Steps p.tables e below (T14.setTop (mkF m 14 #[.val (.ref ra)] [(.ref ra), (.long w_latest)])) _
        refine st15 _ ?_
        show Steps p.tables e below (T15.setTop (mkF m 17 #[.val (.ref ra)] [(.long w_older), (.long w_latest)])) _
        refine XS.ladd X15.here hx rfl (hb hby d_prog_139_method_7_code_17) rfl ?_
        show Steps p.tables e below (T15.setTop (mkF m 18 #[.val (.ref ra)] [(.long (w_latest + w_older))])) _
        refine XS.aloadN X15.here hx rfl (hb hby d_prog_139_method_7_code_18) rfl rfl ?_
        show Steps p.tables e below (T15.setTop (mkF m 19 #[.val (.ref ra)] [(.ref ra), (.long (w_latest + w_older))])) _
        refine st16 _ ?_
        show Steps p.tables e below (T16.setTop (mkF m 22 #[.val (.ref ra)] [(.long w_limit), (.long (w_latest + w_older))])) _
        refine XS.lcmp X16.here hx rfl (hb hby d_prog_139_method_7_code_22) rfl ?_
        show Steps p.tables e below (T16.setTop (mkF m 23 #[.val (.ref ra)] [(.int (lcmpW (w_latest + w_older) w_limit))])) _
        refine XS.ifNo X16.here hx rfl (hb hby d_prog_139_method_7_code_23) rfl ((if0 _ _).trans (tlt ((lw_gt _ _).mpr h23_17)).2.2.2) ?_
        show Steps p.tables e below (T16.setTop (mkF m 26 #[.val (.ref ra)] [])) _
        refine XS.iconst X16.here hx rfl (hb hby d_prog_139_method_7_code_26) ?_
        show Steps p.tables e below (T16.setTop (mkF m 27 #[.val (.ref ra)] [(.int (1 : Int32))])) _
        refine XS.goto X16.here hx rfl (pc0 := 27) (pc' := 31) rfl (hb hby d_prog_139_method_7_code_27) (by decide) (by decide) ?_
        show Steps p.tables e below (T16.setTop (mkF m 31 #[.val (.ref ra)] [(.int (1 : Int32))])) _
        exact retN X16 hx (t := .boolean) Bd.returns (by simp) (hb hby d_prog_139_method_7_code_31) hr
      · show Q_ovf Z ra w_limit w_latest w_older h0 n0 _ T16.heap _
        rw [e16]
        exact ⟨⟨_, rfl, by simp [h6_13, h23_17]⟩, N0, rfl⟩
    · obtain ⟨fs, hr, hrun, hended, hW, hsame⟩ := X16.leave (v := some (.int (0 : Int32))) (fun h => by rw [Bd.returns] at h; cases h)
      refine ⟨_, _, pre0 _ ?_, hrun, hended, _, _, rfl, ?_, ⟨_, rfl⟩, hW, hsame.mono (by decide) (by decide)⟩
      · show Steps p.tables e below (s₁.setTop (mkF m 0 #[.val (.ref ra)] [])) _
        refine XS.aloadN X0.here hx rfl (hb hby d_prog_139_method_7_code_0) rfl rfl ?_
        show Steps p.tables e below (s₁.setTop (mkF m 1 #[.val (.ref ra)] [(.ref ra)])) _
        refine st12 _ ?_
        show Steps p.tables e below (T12.setTop (mkF m 4 #[.val (.ref ra)] [(.long w_older)])) _
        refine XS.lconst X12.here hx rfl (hb hby d_prog_139_method_7_code_4) ?_
        show Steps p.tables e below (T12.setTop (mkF m 5 #[.val (.ref ra)] [(.long (0 : Int64)), (.long w_older)])) _
        refine XS.lcmp X12.here hx rfl (hb hby d_prog_139_method_7_code_5) rfl ?_
        show Steps p.tables e below (T12.setTop (mkF m 6 #[.val (.ref ra)] [(.int (lcmpW w_older (0 : Int64)))])) _
        refine XS.ifNo X12.here hx rfl (hb hby d_prog_139_method_7_code_6) rfl ((if0 _ _).trans (tlt ((lw_gt _ _).mpr h6_13)).2.2.2) ?_
        show Steps p.tables e below (T12.setTop (mkF m 9 #[.val (.ref ra)] [])) _
        refine XS.aloadN X12.here hx rfl (hb hby d_prog_139_method_7_code_9) rfl rfl ?_
        show Steps p.tables e below (T12.setTop (mkF m 10 #[.val (.ref ra)] [(.ref ra)])) _
        refine st14 _ ?_
        show Steps p.tables e below (T14.setTop (mkF m 13 #[.val (.ref ra)] [(.long w_latest)])) _
        refine XS.aloadN X14.here hx rfl (hb hby d_prog_139_method_7_code_13) rfl rfl ?_
        show Steps p.tables e below (T14.setTop (mkF m 14 #[.val (.ref ra)] [(.ref ra), (.long w_latest)])) _
        refine st15 _ ?_
        show Steps p.tables e below (T15.setTop (mkF m 17 #[.val (.ref ra)] [(.long w_older), (.long w_latest)])) _
        refine XS.ladd X15.here hx rfl (hb hby d_prog_139_method_7_code_17) rfl ?_
        show Steps p.tables e below (T15.setTop (mkF m 18 #[.val (.ref ra)] [(.long (w_latest + w_older))])) _
        refine XS.aloadN X15.here hx rfl (hb hby d_prog_139_method_7_code_18) rfl rfl ?_
        show Steps p.tables e below (T15.setTop (mkF m 19 #[.val (.ref ra)] [(.ref ra), (.long (w_latest + w_older))])) _
        refine st16 _ ?_
        show Steps p.tables e below (T16.setTop (mkF m 22 #[.val (.ref ra)] [(.long w_limit), (.long (w_latest + w_older))])) _
        refine XS.lcmp X16.here hx rfl (hb hby d_prog_139_method_7_code_22) rfl ?_
        show Steps p.tables e below (T16.setTop (mkF m 23 #[.val (.ref ra)] [(.int (lcmpW (w_latest + w_older) w_limit))])) _
        refine XS.ifYes X16.here hx rfl (pc0 := 23) (pc' := 30) rfl (hb hby d_prog_139_method_7_code_23) rfl ((if0 _ _).trans (flt (fun q => h23_17 ((lw_gt _ _).mp q))).2.2.2) (by decide) (by decide) ?_
        show Steps p.tables e below (T16.setTop (mkF m 30 #[.val (.ref ra)] [])) _
        refine XS.iconst X16.here hx rfl (hb hby d_prog_139_method_7_code_30) ?_
        show Steps p.tables e below (T16.setTop (mkF m 31 #[.val (.ref ra)] [(.int (0 : Int32))])) _
        exact retN X16 hx (t := .boolean) Bd.returns (by simp) (hb hby d_prog_139_method_7_code_31) hr
      · show Q_ovf Z ra w_limit w_latest w_older h0 n0 _ T16.heap _
        rw [e16]
        exact ⟨⟨_, rfl, by simp [h6_13, h23_17]⟩, N0, rfl⟩
  · obtain ⟨fs, hr, hrun, hended, hW, hsame⟩ := X12.leave (v := some (.int (0 : Int32))) (fun h => by rw [Bd.returns] at h; cases h)
    refine ⟨_, _, pre0 _ ?_, hrun, hended, _, _, rfl, ?_, ⟨_, rfl⟩, hW, hsame.mono (by decide) (by decide)⟩
    · show Steps p.tables e below (s₁.setTop (mkF m 0 #[.val (.ref ra)] [])) _
      refine XS.aloadN X0.here hx rfl (hb hby d_prog_139_method_7_code_0) rfl rfl ?_
      show Steps p.tables e below (s₁.setTop (mkF m 1 #[.val (.ref ra)] [(.ref ra)])) _
      refine st12 _ ?_
      show Steps p.tables e below (T12.setTop (mkF m 4 #[.val (.ref ra)] [(.long w_older)])) _
      refine XS.lconst X12.here hx rfl (hb hby d_prog_139_method_7_code_4) ?_
      show Steps p.tables e below (T12.setTop (mkF m 5 #[.val (.ref ra)] [(.long (0 : Int64)), (.long w_older)])) _
      refine XS.lcmp X12.here hx rfl (hb hby d_prog_139_method_7_code_5) rfl ?_
      show Steps p.tables e below (T12.setTop (mkF m 6 #[.val (.ref ra)] [(.int (lcmpW w_older (0 : Int64)))])) _
      refine XS.ifYes X12.here hx rfl (pc0 := 6) (pc' := 30) rfl (hb hby d_prog_139_method_7_code_6) rfl ((if0 _ _).trans (flt (fun q => h6_13 ((lw_gt _ _).mp q))).2.2.2) (by decide) (by decide) ?_
      show Steps p.tables e below (T12.setTop (mkF m 30 #[.val (.ref ra)] [])) _
      refine XS.iconst X12.here hx rfl (hb hby d_prog_139_method_7_code_30) ?_
      show Steps p.tables e below (T12.setTop (mkF m 31 #[.val (.ref ra)] [(.int (0 : Int32))])) _
      exact retN X12 hx (t := .boolean) Bd.returns (by simp) (hb hby d_prog_139_method_7_code_31) hr
    · show Q_ovf Z ra w_limit w_latest w_older h0 n0 _ T12.heap _
      rw [e12]
      exact ⟨⟨_, rfl, by simp [h6_13]⟩, N0, rfl⟩
theorem own_a (vf vt ve vl : Int64) : (if vf < vt then (if vl < ((((0 : Int64) + ((vf + ve) - (0 : Int64))) - vf) + vt) then (0 : Int32) else 1) else 1) = if vf < vt then (if vl < (ve + vt) then (0 : Int32) else 1) else 1 := by
  have e : (((0 : Int64) + ((vf + ve) - (0 : Int64))) - vf) = ve := by rw [Int64.sub_zero, Int64.zero_add, Int64.add_comm vf ve, Int64.add_sub_cancel]
  rw [e]
theorem own_o (vf ve vl : Int64) : (if (0 : Int64) < ((0 : Int64) + (1 : Int64)) then (if vl < (((0 : Int64) + ((vf + ve) - (0 : Int64))) + ((0 : Int64) + (1 : Int64))) then (1 : Int32) else 0) else 0) = if vl < ((vf + ve) + (1 : Int64)) then (1 : Int32) else 0 := by
  rw [if_pos (by decide), Int64.sub_zero, Int64.zero_add, Int64.zero_add]
theorem pn_1 : plainName "dev/leasehold/server/ValueMemoryAdmitsPinLaw" = true := by first | (simp [plainName, overriddenIn]; done) | decide +kernel
theorem pd_0 : parseMethodDescriptor "(J)V" = some ⟨[.long], none⟩ := by decide +kernel
theorem pd_1 : parseMethodDescriptor "(JJ)V" = some ⟨[.long, .long], none⟩ := by decide +kernel
theorem pd_2 : parseMethodDescriptor "(JJ)Z" = some ⟨[.long, .long], some .boolean⟩ := by decide +kernel
theorem pd_3 : parseMethodDescriptor "()Z" = some ⟨[], some .boolean⟩ := by decide +kernel
theorem pd_4 : parseMethodDescriptor "(JJ)J" = some ⟨[.long, .long], some .long⟩ := by decide +kernel
theorem ef_law (m : MethodId) (vf : Int64) (vt : Int64) (ve : Int64) (vl : Int64) (vm : Int32) : entryFrame m #[(.long vf), (.long vt), (.long ve), (.long vl), (.int vm)] maxLocals = mkF m 0 #[.val (.long vf), .second, .val (.long vt), .second, .val (.long ve), .second, .val (.long vl), .second, .val (.int vm), .unset, .unset, .unset, .unset, .unset, .unset, .unset, .unset, .unset, .unset, .unset, .unset] [] := by first | (simp [entryFrame, mkF, argsToLocals, Value.category, maxLocals]; done) | rfl
def Q_law (Z : State) (vf : Int64) (vt : Int64) (ve : Int64) (vl : Int64) (vm : Int32) (h0 : Heap) (n0 : Nat) (v : Option Value) (h : Heap) (L : List Loc) : Prop := v = some (.int 1) ∧ Fr n0 L
set_option maxRecDepth 65536 in
set_option maxHeartbeats 40000000 in
theorem rm_law (l : Launch) (Z : State) (a0 : Array Value) (hw : ∀ d ∈ tables_1, d.before a0 Z = true) (ws : List Jvm.Cond) (vf : Int64) (vt : Int64) (ve : Int64) (vl : Int64) (vm : Int32) (h0 : Heap) (n0 : Nat) (Z0 : n0 ≤ h0.size) :
    MetFree l x (head1 (Jvm.Cond.code x code maxLocals ret :: ws) room_1) (fun a U => a = #[(.long vf), (.long vt), (.long ve), (.long vl), (.int vm)] ∧ Z.Warmed39 U.vm ∧ U.heap = h0) (fun _ _ _ _ _ => True) (fun _ U o U' => ∃ v L, o = .returned v ∧ Q_law Z vf vt ve vl vm h0 n0 v U'.heap L ∧ FrameEnd U o U' L room_1.cells room_1.slots) := by
  refine MetFree.of_bodySF (plainFor_of_name pn_1) hisR ?_
  intro p e s m args below meth c s₁ Bd hml0 hP hK
  obtain ⟨rfl, hZ, hh⟩ := hP
  have hx := Bd.exec
  have hby := Bd.bytes
  have hml : c.maxLocals = 21 := hml0
  have hown : s.vm.findClass "dev/leasehold/server/ValueMemoryAdmitsPinLaw" = some m.cls := findClass_of_methodNamed Bd.named
  have hnm := (name_of_methodNamed Bd.named Bd.method).1
  have X0 : Stand p l e room_1 s m #[(.long vf), (.long vt), (.long ve), (.long vl), (.int vm)] below meth c s₁ [] 0 0 := Stand.of_body Bd
  have e0 : s₁.heap = h0 := by rw [← hh, Bd.state]; rfl
  have N0 := Fr.nil n0
  have pre0 : ∀ t, Steps p.tables e below (s₁.setTop (mkF m 0 #[.val (.long vf), .second, .val (.long vt), .second, .val (.long ve), .second, .val (.long vl), .second, .val (.int vm), .unset, .unset, .unset, .unset, .unset, .unset, .unset, .unset, .unset, .unset, .unset, .unset] [])) t → Steps p.tables e below (s₁.setTop (entryFrame m #[(.long vf), (.long vt), (.long ve), (.long vl), (.int vm)] maxLocals)) t := fun t k => castTop (ef_law m vf vt ve vl vm) k
  by_cases h26_18 : (vm &&& (1 : Int32)) = (0 : Int32)
  · obtain ⟨T19, h19, X19, e19, E19, A19, D19, -, st19⟩ := newO X0 hx hZ hown (hw _ (List.mem_of_getElem? (i := 6) rfl)) (hw _ (List.mem_of_getElem? (i := 7) rfl)) (hw _ (List.mem_of_getElem? (i := 8) rfl)) e0 (g := (mkF m 64 #[.val (.long vf), .second, .val (.long vt), .second, .val (.long ve), .second, .val (.long vl), .second, .val (.int vm), .val (.long (vf &&& (1099511627775 : Int64))), .second, .val (.long (vt &&& (1099511627775 : Int64))), .second, .val (.long (ve &&& (1099511627775 : Int64))), .second, .val (.long (vl &&& (1099511627775 : Int64))), .second, .unset, .unset, .unset, .unset] [])) rfl (hb hby at_64) (by decide) (by decide)
    obtain ⟨b19, g19⟩ : ∃ z, z = h0.size := ⟨_, rfl⟩
    rw [← g19] at A19 D19 st19
    have g_b19 : n0 ≤ b19 := Nat.le_trans Z0 (Nat.le_of_eq g19.symm)
    have Z19 : n0 ≤ h19.size := Nat.le_trans Z0 E19.1
    have Ex_b19_19 := A19
    have Fd_limit_b19_19 : Fld Z h19 b19 "dev/leasehold/server/ValueMemory" "limit" "J" (.long (0 : Int64)) := D19 (Or.inr (hw _ (List.mem_of_getElem? (i := 16) rfl))) (ty := .long) (by decide)
    have Fd_latest_b19_19 : Fld Z h19 b19 "dev/leasehold/server/ValueMemory" "latest" "J" (.long (0 : Int64)) := D19 (Or.inl (hw _ (List.mem_of_getElem? (i := 23) rfl))) (ty := .long) (by decide)
    have Fd_older_b19_19 : Fld Z h19 b19 "dev/leasehold/server/ValueMemory" "older" "J" (.long (0 : Int64)) := D19 (Or.inl (hw _ (List.mem_of_getElem? (i := 35) rfl))) (ty := .long) (by decide)
    obtain ⟨_, _, ⟨T20, L20, k20, n20⟩, -, X20, ⟨Lc20, hQ20, l20, y20, z20⟩, st20⟩ := X19.specialBack hx (y := (⟨"dev/leasehold/server/ValueMemory", "<init>", "(J)V"⟩ : MethodName)) rfl hown (mvT hZ (hw _ (List.mem_of_getElem? (i := 9) rfl))) (mvT hZ (hw _ (List.mem_of_getElem? (i := 10) rfl))) (mvT hZ (hw _ (List.mem_of_getElem? (i := 11) rfl))) (by decide) (backOf (W := 1) (rm_ini l Z a0 hw [] b19 (vl &&& (1099511627775 : Int64)) (0 : Int64) (0 : Int64) (0 : Int64) h19 n0 Z19 Ex_b19_19 Fd_limit_b19_19 Fd_latest_b19_19 Fd_older_b19_19 g_b19) hZ (hw _ (List.mem_of_getElem? (i := 11) rfl)) (hw _ (List.mem_of_getElem? (i := 8) rfl)) (by decide) (by decide)) (g := (mkF m 70 #[.val (.long vf), .second, .val (.long vt), .second, .val (.long ve), .second, .val (.long vl), .second, .val (.int vm), .val (.long (vf &&& (1099511627775 : Int64))), .second, .val (.long (vt &&& (1099511627775 : Int64))), .second, .val (.long (ve &&& (1099511627775 : Int64))), .second, .val (.long (vl &&& (1099511627775 : Int64))), .second, .unset, .unset, .unset, .unset] [(.long (vl &&& (1099511627775 : Int64))), (.ref b19), (.ref b19)])) rfl (by rw [hml]; rfl) (Steps.refl _) (a := b19) (argsL := [(.long (vl &&& (1099511627775 : Int64)))]) (rest := [(.ref b19)]) (lenOf pd_0 rfl) rfl (by show 2 * 0 + _ ≤ _; exact Nat.le_of_eq rfl) (hb hby at_70) (fun _ _ => ⟨rfl, e19, (by decide : 1 + 0 ≤ _), (by decide : 3 + 0 ≤ _)⟩)
    dsimp only [Pt.U, Pt.locs, Pt.cells, Pt.slots] at X20 l20 y20 z20 st20 hQ20
    subst l20 y20 z20
    obtain ⟨rfl, N20q, K20, Fq_limit_20, Fq_latest_20, Fq_older_20⟩ := hQ20
    have N20 := Fr.app N0 N20q
    have Ex_b19_20 := Ex_b19_19.keep K20
    have Z20 : n0 ≤ T20.heap.size := Nat.le_trans Z19 K20.1
    obtain ⟨cq21, kq21, q21a, q21b, q21c⟩ := isOf hZ rfl Ex_b19_20
    obtain ⟨_, _, ⟨T21, L21, k21, n21⟩, -, X21, ⟨Lc21, hQ21, l21, y21, z21⟩, st21⟩ := X20.virtualBack hx (y := (⟨"dev/leasehold/server/ValueMemory", "replaceLatest", "(JJ)V"⟩ : MethodName)) (z := (⟨"dev/leasehold/server/ValueMemory", "replaceLatest", "(JJ)V"⟩ : MethodName)) hown (mvT hZ (hw _ (List.mem_of_getElem? (i := 17) rfl))) (mvT hZ (hw _ (List.mem_of_getElem? (i := 18) rfl))) (notFace_of_selects (args := #[]) (mvT hZ (hw _ (List.mem_of_getElem? (i := 20) rfl)))) (mvT hZ (hw _ (List.mem_of_getElem? (i := 20) rfl))) (mvT hZ (hw _ (List.mem_of_getElem? (i := 19) rfl))) (by decide) (backOf (W := 0) (rm_rep l Z a0 hw [] b19 (0 : Int64) ((vf &&& (1099511627775 : Int64)) + (ve &&& (1099511627775 : Int64))) (vl &&& (1099511627775 : Int64)) (0 : Int64) (0 : Int64) T20.heap n0 Z20 Ex_b19_20 Fq_limit_20 Fq_latest_20 Fq_older_20 g_b19) hZ (hw _ (List.mem_of_getElem? (i := 21) rfl)) (hw _ (List.mem_of_getElem? (i := 8) rfl)) (by decide) (by decide)) q21a q21c (g := (mkF m 83 #[.val (.long vf), .second, .val (.long vt), .second, .val (.long ve), .second, .val (.long vl), .second, .val (.int vm), .val (.long (vf &&& (1099511627775 : Int64))), .second, .val (.long (vt &&& (1099511627775 : Int64))), .second, .val (.long (ve &&& (1099511627775 : Int64))), .second, .val (.long (vl &&& (1099511627775 : Int64))), .second, .val (.ref b19), .unset, .unset, .unset] [(.long ((vf &&& (1099511627775 : Int64)) + (ve &&& (1099511627775 : Int64)))), (.long (0 : Int64)), (.ref b19)])) rfl (by rw [hml]; rfl) (Steps.refl _) (argsL := [(.long (0 : Int64)), (.long ((vf &&& (1099511627775 : Int64)) + (ve &&& (1099511627775 : Int64))))]) (rest := []) (lenOf pd_1 rfl) rfl (by show 2 * 0 + _ ≤ _; exact Nat.le_of_eq rfl) (hb hby at_83) (fun _ _ => ⟨rfl, rfl, (by decide : 1 + 0 ≤ _), (by decide : 3 + 0 ≤ _)⟩)
    dsimp only [Pt.U, Pt.locs, Pt.cells, Pt.slots] at X21 l21 y21 z21 st21 hQ21
    subst l21 y21 z21
    obtain ⟨rfl, N21q, K21, Fq_limit_21, Fq_latest_21, Fq_older_21⟩ := hQ21
    have N21 := Fr.app N20 N21q
    have Ex_b19_21 := Ex_b19_20.keep K21
    have Z21 : n0 ≤ T21.heap.size := Nat.le_trans Z20 K21.1
    obtain ⟨cq22, kq22, q22a, q22b, q22c⟩ := isOf hZ rfl Ex_b19_21
    obtain ⟨_, _, ⟨T22, L22, k22, n22⟩, -, X22, ⟨Lc22, hQ22, l22, y22, z22⟩, st22⟩ := X21.virtualBack hx (y := (⟨"dev/leasehold/server/ValueMemory", "admits", "(JJ)Z"⟩ : MethodName)) (z := (⟨"dev/leasehold/server/ValueMemory", "admits", "(JJ)Z"⟩ : MethodName)) hown (mvT hZ (hw _ (List.mem_of_getElem? (i := 24) rfl))) (mvT hZ (hw _ (List.mem_of_getElem? (i := 25) rfl))) (notFace_of_selects (args := #[]) (mvT hZ (hw _ (List.mem_of_getElem? (i := 27) rfl)))) (mvT hZ (hw _ (List.mem_of_getElem? (i := 27) rfl))) (mvT hZ (hw _ (List.mem_of_getElem? (i := 26) rfl))) (by decide) (backOf (W := 0) (rm_adm l Z a0 hw [] b19 (vf &&& (1099511627775 : Int64)) (vt &&& (1099511627775 : Int64)) (vl &&& (1099511627775 : Int64)) ((0 : Int64) + (((vf &&& (1099511627775 : Int64)) + (ve &&& (1099511627775 : Int64))) - (0 : Int64))) (0 : Int64) T21.heap n0 Z21 Ex_b19_21 Fq_limit_21 Fq_latest_21 Fq_older_21) hZ (hw _ (List.mem_of_getElem? (i := 28) rfl)) (hw _ (List.mem_of_getElem? (i := 8) rfl)) (by decide) (by decide)) q22a q22c (g := (mkF m 92 #[.val (.long vf), .second, .val (.long vt), .second, .val (.long ve), .second, .val (.long vl), .second, .val (.int vm), .val (.long (vf &&& (1099511627775 : Int64))), .second, .val (.long (vt &&& (1099511627775 : Int64))), .second, .val (.long (ve &&& (1099511627775 : Int64))), .second, .val (.long (vl &&& (1099511627775 : Int64))), .second, .val (.ref b19), .unset, .unset, .unset] [(.long (vt &&& (1099511627775 : Int64))), (.long (vf &&& (1099511627775 : Int64))), (.ref b19)])) rfl (by rw [hml]; rfl) (Steps.refl _) (argsL := [(.long (vf &&& (1099511627775 : Int64))), (.long (vt &&& (1099511627775 : Int64)))]) (rest := []) (lenOf pd_2 rfl) rfl (by show 2 * 0 + _ ≤ _; exact Nat.le_of_eq rfl) (hb hby at_92) (fun _ _ => ⟨rfl, rfl, (by decide : 1 + 0 ≤ _), (by decide : 3 + 0 ≤ _)⟩)
    dsimp only [Pt.U, Pt.locs, Pt.cells, Pt.slots] at X22 l22 y22 z22 st22 hQ22
    subst l22 y22 z22
    obtain ⟨⟨r22, rfl, hr22⟩, N22q, e22⟩ := hQ22
    have N22 := Fr.app N21 N22q
    obtain ⟨z23, hz23⟩ : ∃ z : Int32, z = if (vf &&& (1099511627775 : Int64)) < (vt &&& (1099511627775 : Int64)) then (if (vl &&& (1099511627775 : Int64)) < ((ve &&& (1099511627775 : Int64)) + (vt &&& (1099511627775 : Int64))) then (0 : Int32) else 1) else 1 := ⟨_, rfl⟩
    have seg23 : ∀ t, Steps p.tables e below (T22.setTop (mkF m 129 #[.val (.long vf), .second, .val (.long vt), .second, .val (.long ve), .second, .val (.long vl), .second, .val (.int vm), .val (.long (vf &&& (1099511627775 : Int64))), .second, .val (.long (vt &&& (1099511627775 : Int64))), .second, .val (.long (ve &&& (1099511627775 : Int64))), .second, .val (.long (vl &&& (1099511627775 : Int64))), .second, .val (.ref b19), .val (.int r22), .val (.int z23), .unset] [])) t → Steps p.tables e below (T22.setTop (mkF m 97 #[.val (.long vf), .second, .val (.long vt), .second, .val (.long ve), .second, .val (.long vl), .second, .val (.int vm), .val (.long (vf &&& (1099511627775 : Int64))), .second, .val (.long (vt &&& (1099511627775 : Int64))), .second, .val (.long (ve &&& (1099511627775 : Int64))), .second, .val (.long (vl &&& (1099511627775 : Int64))), .second, .val (.ref b19), .val (.int r22), .unset, .unset] [])) t := by
      intro t kt
      show Steps p.tables e below (T22.setTop (mkF m 97 #[.val (.long vf), .second, .val (.long vt), .second, .val (.long ve), .second, .val (.long vl), .second, .val (.int vm), .val (.long (vf &&& (1099511627775 : Int64))), .second, .val (.long (vt &&& (1099511627775 : Int64))), .second, .val (.long (ve &&& (1099511627775 : Int64))), .second, .val (.long (vl &&& (1099511627775 : Int64))), .second, .val (.ref b19), .val (.int r22), .unset, .unset] [])) _
      refine XS.lload X22.here hx rfl (hb hby at_97) rfl ?_
      show Steps p.tables e below (T22.setTop (mkF m 99 #[.val (.long vf), .second, .val (.long vt), .second, .val (.long ve), .second, .val (.long vl), .second, .val (.int vm), .val (.long (vf &&& (1099511627775 : Int64))), .second, .val (.long (vt &&& (1099511627775 : Int64))), .second, .val (.long (ve &&& (1099511627775 : Int64))), .second, .val (.long (vl &&& (1099511627775 : Int64))), .second, .val (.ref b19), .val (.int r22), .unset, .unset] [(.long (vt &&& (1099511627775 : Int64)))])) _
      refine XS.lload X22.here hx rfl (hb hby at_99) rfl ?_
      show Steps p.tables e below (T22.setTop (mkF m 101 #[.val (.long vf), .second, .val (.long vt), .second, .val (.long ve), .second, .val (.long vl), .second, .val (.int vm), .val (.long (vf &&& (1099511627775 : Int64))), .second, .val (.long (vt &&& (1099511627775 : Int64))), .second, .val (.long (ve &&& (1099511627775 : Int64))), .second, .val (.long (vl &&& (1099511627775 : Int64))), .second, .val (.ref b19), .val (.int r22), .unset, .unset] [(.long (vf &&& (1099511627775 : Int64))), (.long (vt &&& (1099511627775 : Int64)))])) _
      refine XS.lcmp X22.here hx rfl (hb hby at_101) rfl ?_
      show Steps p.tables e below (T22.setTop (mkF m 102 #[.val (.long vf), .second, .val (.long vt), .second, .val (.long ve), .second, .val (.long vl), .second, .val (.int vm), .val (.long (vf &&& (1099511627775 : Int64))), .second, .val (.long (vt &&& (1099511627775 : Int64))), .second, .val (.long (ve &&& (1099511627775 : Int64))), .second, .val (.long (vl &&& (1099511627775 : Int64))), .second, .val (.ref b19), .val (.int r22), .unset, .unset] [(.int (lcmpW (vt &&& (1099511627775 : Int64)) (vf &&& (1099511627775 : Int64))))])) _
      by_cases h102_24 : (vf &&& (1099511627775 : Int64)) < (vt &&& (1099511627775 : Int64))
      · refine XS.ifYes X22.here hx rfl (pc0 := 102) (pc' := 111) rfl (hb hby at_102) rfl ((if0 _ _).trans (tlt ((lw_gt _ _).mpr h102_24)).2.2.1) (by decide) (by decide) ?_
        show Steps p.tables e below (T22.setTop (mkF m 111 #[.val (.long vf), .second, .val (.long vt), .second, .val (.long ve), .second, .val (.long vl), .second, .val (.int vm), .val (.long (vf &&& (1099511627775 : Int64))), .second, .val (.long (vt &&& (1099511627775 : Int64))), .second, .val (.long (ve &&& (1099511627775 : Int64))), .second, .val (.long (vl &&& (1099511627775 : Int64))), .second, .val (.ref b19), .val (.int r22), .unset, .unset] [])) _
        refine XS.lload X22.here hx rfl (hb hby at_111) rfl ?_
        show Steps p.tables e below (T22.setTop (mkF m 113 #[.val (.long vf), .second, .val (.long vt), .second, .val (.long ve), .second, .val (.long vl), .second, .val (.int vm), .val (.long (vf &&& (1099511627775 : Int64))), .second, .val (.long (vt &&& (1099511627775 : Int64))), .second, .val (.long (ve &&& (1099511627775 : Int64))), .second, .val (.long (vl &&& (1099511627775 : Int64))), .second, .val (.ref b19), .val (.int r22), .unset, .unset] [(.long (ve &&& (1099511627775 : Int64)))])) _
        refine XS.lload X22.here hx rfl (hb hby at_113) rfl ?_
        show Steps p.tables e below (T22.setTop (mkF m 115 #[.val (.long vf), .second, .val (.long vt), .second, .val (.long ve), .second, .val (.long vl), .second, .val (.int vm), .val (.long (vf &&& (1099511627775 : Int64))), .second, .val (.long (vt &&& (1099511627775 : Int64))), .second, .val (.long (ve &&& (1099511627775 : Int64))), .second, .val (.long (vl &&& (1099511627775 : Int64))), .second, .val (.ref b19), .val (.int r22), .unset, .unset] [(.long (vt &&& (1099511627775 : Int64))), (.long (ve &&& (1099511627775 : Int64)))])) _
        refine XS.ladd X22.here hx rfl (hb hby at_115) rfl ?_
        show Steps p.tables e below (T22.setTop (mkF m 116 #[.val (.long vf), .second, .val (.long vt), .second, .val (.long ve), .second, .val (.long vl), .second, .val (.int vm), .val (.long (vf &&& (1099511627775 : Int64))), .second, .val (.long (vt &&& (1099511627775 : Int64))), .second, .val (.long (ve &&& (1099511627775 : Int64))), .second, .val (.long (vl &&& (1099511627775 : Int64))), .second, .val (.ref b19), .val (.int r22), .unset, .unset] [(.long ((ve &&& (1099511627775 : Int64)) + (vt &&& (1099511627775 : Int64))))])) _
        refine XS.lload X22.here hx rfl (hb hby at_116) rfl ?_
        show Steps p.tables e below (T22.setTop (mkF m 118 #[.val (.long vf), .second, .val (.long vt), .second, .val (.long ve), .second, .val (.long vl), .second, .val (.int vm), .val (.long (vf &&& (1099511627775 : Int64))), .second, .val (.long (vt &&& (1099511627775 : Int64))), .second, .val (.long (ve &&& (1099511627775 : Int64))), .second, .val (.long (vl &&& (1099511627775 : Int64))), .second, .val (.ref b19), .val (.int r22), .unset, .unset] [(.long (vl &&& (1099511627775 : Int64))), (.long ((ve &&& (1099511627775 : Int64)) + (vt &&& (1099511627775 : Int64))))])) _
        refine XS.lcmp X22.here hx rfl (hb hby at_118) rfl ?_
        show Steps p.tables e below (T22.setTop (mkF m 119 #[.val (.long vf), .second, .val (.long vt), .second, .val (.long ve), .second, .val (.long vl), .second, .val (.int vm), .val (.long (vf &&& (1099511627775 : Int64))), .second, .val (.long (vt &&& (1099511627775 : Int64))), .second, .val (.long (ve &&& (1099511627775 : Int64))), .second, .val (.long (vl &&& (1099511627775 : Int64))), .second, .val (.ref b19), .val (.int r22), .unset, .unset] [(.int (lcmpW ((ve &&& (1099511627775 : Int64)) + (vt &&& (1099511627775 : Int64))) (vl &&& (1099511627775 : Int64))))])) _
        by_cases h119_25 : (vl &&& (1099511627775 : Int64)) < ((ve &&& (1099511627775 : Int64)) + (vt &&& (1099511627775 : Int64)))
        · refine XS.ifYes X22.here hx rfl (pc0 := 119) (pc' := 126) rfl (hb hby at_119) rfl ((if0 _ _).trans (tlt ((lw_gt _ _).mpr h119_25)).2.2.1) (by decide) (by decide) ?_
          show Steps p.tables e below (T22.setTop (mkF m 126 #[.val (.long vf), .second, .val (.long vt), .second, .val (.long ve), .second, .val (.long vl), .second, .val (.int vm), .val (.long (vf &&& (1099511627775 : Int64))), .second, .val (.long (vt &&& (1099511627775 : Int64))), .second, .val (.long (ve &&& (1099511627775 : Int64))), .second, .val (.long (vl &&& (1099511627775 : Int64))), .second, .val (.ref b19), .val (.int r22), .unset, .unset] [])) _
          refine XS.iconst X22.here hx rfl (hb hby at_126) ?_
          show Steps p.tables e below (T22.setTop (mkF m 127 #[.val (.long vf), .second, .val (.long vt), .second, .val (.long ve), .second, .val (.long vl), .second, .val (.int vm), .val (.long (vf &&& (1099511627775 : Int64))), .second, .val (.long (vt &&& (1099511627775 : Int64))), .second, .val (.long (ve &&& (1099511627775 : Int64))), .second, .val (.long (vl &&& (1099511627775 : Int64))), .second, .val (.ref b19), .val (.int r22), .unset, .unset] [(.int (0 : Int32))])) _
          refine XS.istore X22.here hx rfl (hb hby at_127) rfl (l' := #[.val (.long vf), .second, .val (.long vt), .second, .val (.long ve), .second, .val (.long vl), .second, .val (.int vm), .val (.long (vf &&& (1099511627775 : Int64))), .second, .val (.long (vt &&& (1099511627775 : Int64))), .second, .val (.long (ve &&& (1099511627775 : Int64))), .second, .val (.long (vl &&& (1099511627775 : Int64))), .second, .val (.ref b19), .val (.int r22), .val (.int (0 : Int32)), .unset]) rfl ?_
          have qz23 : z23 = (0 : Int32) := hz23.trans (by simp [h26_18, h102_24, h119_25])
          rw [qz23] at kt
          exact kt
        · refine XS.ifNo X22.here hx rfl (hb hby at_119) rfl ((if0 _ _).trans (flt (fun q => h119_25 ((lw_gt _ _).mp q))).2.2.1) ?_
          show Steps p.tables e below (T22.setTop (mkF m 122 #[.val (.long vf), .second, .val (.long vt), .second, .val (.long ve), .second, .val (.long vl), .second, .val (.int vm), .val (.long (vf &&& (1099511627775 : Int64))), .second, .val (.long (vt &&& (1099511627775 : Int64))), .second, .val (.long (ve &&& (1099511627775 : Int64))), .second, .val (.long (vl &&& (1099511627775 : Int64))), .second, .val (.ref b19), .val (.int r22), .unset, .unset] [])) _
          refine XS.iconst X22.here hx rfl (hb hby at_122) ?_
          show Steps p.tables e below (T22.setTop (mkF m 123 #[.val (.long vf), .second, .val (.long vt), .second, .val (.long ve), .second, .val (.long vl), .second, .val (.int vm), .val (.long (vf &&& (1099511627775 : Int64))), .second, .val (.long (vt &&& (1099511627775 : Int64))), .second, .val (.long (ve &&& (1099511627775 : Int64))), .second, .val (.long (vl &&& (1099511627775 : Int64))), .second, .val (.ref b19), .val (.int r22), .unset, .unset] [(.int (1 : Int32))])) _
          refine XS.goto X22.here hx rfl (pc0 := 123) (pc' := 127) rfl (hb hby at_123) (by decide) (by decide) ?_
          show Steps p.tables e below (T22.setTop (mkF m 127 #[.val (.long vf), .second, .val (.long vt), .second, .val (.long ve), .second, .val (.long vl), .second, .val (.int vm), .val (.long (vf &&& (1099511627775 : Int64))), .second, .val (.long (vt &&& (1099511627775 : Int64))), .second, .val (.long (ve &&& (1099511627775 : Int64))), .second, .val (.long (vl &&& (1099511627775 : Int64))), .second, .val (.ref b19), .val (.int r22), .unset, .unset] [(.int (1 : Int32))])) _
          refine XS.istore X22.here hx rfl (hb hby at_127) rfl (l' := #[.val (.long vf), .second, .val (.long vt), .second, .val (.long ve), .second, .val (.long vl), .second, .val (.int vm), .val (.long (vf &&& (1099511627775 : Int64))), .second, .val (.long (vt &&& (1099511627775 : Int64))), .second, .val (.long (ve &&& (1099511627775 : Int64))), .second, .val (.long (vl &&& (1099511627775 : Int64))), .second, .val (.ref b19), .val (.int r22), .val (.int (1 : Int32)), .unset]) rfl ?_
          have qz23 : z23 = (1 : Int32) := hz23.trans (by simp [h26_18, h102_24, h119_25])
          rw [qz23] at kt
          exact kt
      · refine XS.ifNo X22.here hx rfl (hb hby at_102) rfl ((if0 _ _).trans (flt (fun q => h102_24 ((lw_gt _ _).mp q))).2.2.1) ?_
        show Steps p.tables e below (T22.setTop (mkF m 105 #[.val (.long vf), .second, .val (.long vt), .second, .val (.long ve), .second, .val (.long vl), .second, .val (.int vm), .val (.long (vf &&& (1099511627775 : Int64))), .second, .val (.long (vt &&& (1099511627775 : Int64))), .second, .val (.long (ve &&& (1099511627775 : Int64))), .second, .val (.long (vl &&& (1099511627775 : Int64))), .second, .val (.ref b19), .val (.int r22), .unset, .unset] [])) _
        refine XS.iconst X22.here hx rfl (hb hby at_105) ?_
        show Steps p.tables e below (T22.setTop (mkF m 106 #[.val (.long vf), .second, .val (.long vt), .second, .val (.long ve), .second, .val (.long vl), .second, .val (.int vm), .val (.long (vf &&& (1099511627775 : Int64))), .second, .val (.long (vt &&& (1099511627775 : Int64))), .second, .val (.long (ve &&& (1099511627775 : Int64))), .second, .val (.long (vl &&& (1099511627775 : Int64))), .second, .val (.ref b19), .val (.int r22), .unset, .unset] [(.int (1 : Int32))])) _
        refine XS.istore X22.here hx rfl (hb hby at_106) rfl (l' := #[.val (.long vf), .second, .val (.long vt), .second, .val (.long ve), .second, .val (.long vl), .second, .val (.int vm), .val (.long (vf &&& (1099511627775 : Int64))), .second, .val (.long (vt &&& (1099511627775 : Int64))), .second, .val (.long (ve &&& (1099511627775 : Int64))), .second, .val (.long (vl &&& (1099511627775 : Int64))), .second, .val (.ref b19), .val (.int r22), .val (.int (1 : Int32)), .unset]) rfl ?_
        show Steps p.tables e below (T22.setTop (mkF m 108 #[.val (.long vf), .second, .val (.long vt), .second, .val (.long ve), .second, .val (.long vl), .second, .val (.int vm), .val (.long (vf &&& (1099511627775 : Int64))), .second, .val (.long (vt &&& (1099511627775 : Int64))), .second, .val (.long (ve &&& (1099511627775 : Int64))), .second, .val (.long (vl &&& (1099511627775 : Int64))), .second, .val (.ref b19), .val (.int r22), .val (.int (1 : Int32)), .unset] [])) _
        refine XS.goto X22.here hx rfl (pc0 := 108) (pc' := 129) rfl (hb hby at_108) (by decide) (by decide) ?_
        have qz23 : z23 = (1 : Int32) := hz23.trans (by simp [h26_18, h102_24])
        rw [qz23] at kt
        exact kt
    obtain ⟨cq26, kq26, q26a, q26b, q26c⟩ := isOf hZ e22 Ex_b19_21
    obtain ⟨_, _, ⟨T26, L26, k26, n26⟩, -, X26, ⟨Lc26, hQ26, l26, y26, z26⟩, st26⟩ := X22.virtualBack hx (y := (⟨"dev/leasehold/server/ValueMemory", "addOlder", "(J)V"⟩ : MethodName)) (z := (⟨"dev/leasehold/server/ValueMemory", "addOlder", "(J)V"⟩ : MethodName)) hown (mvT hZ (hw _ (List.mem_of_getElem? (i := 29) rfl))) (mvT hZ (hw _ (List.mem_of_getElem? (i := 30) rfl))) (notFace_of_selects (args := #[]) (mvT hZ (hw _ (List.mem_of_getElem? (i := 32) rfl)))) (mvT hZ (hw _ (List.mem_of_getElem? (i := 32) rfl))) (mvT hZ (hw _ (List.mem_of_getElem? (i := 31) rfl))) (by decide) (backOf (W := 0) (rm_add l Z a0 hw [] b19 (1 : Int64) (vl &&& (1099511627775 : Int64)) ((0 : Int64) + (((vf &&& (1099511627775 : Int64)) + (ve &&& (1099511627775 : Int64))) - (0 : Int64))) (0 : Int64) T21.heap n0 Z21 Ex_b19_21 Fq_limit_21 Fq_latest_21 Fq_older_21 g_b19) hZ (hw _ (List.mem_of_getElem? (i := 33) rfl)) (hw _ (List.mem_of_getElem? (i := 8) rfl)) (by decide) (by decide)) q26a q26c (g := (mkF m 132 #[.val (.long vf), .second, .val (.long vt), .second, .val (.long ve), .second, .val (.long vl), .second, .val (.int vm), .val (.long (vf &&& (1099511627775 : Int64))), .second, .val (.long (vt &&& (1099511627775 : Int64))), .second, .val (.long (ve &&& (1099511627775 : Int64))), .second, .val (.long (vl &&& (1099511627775 : Int64))), .second, .val (.ref b19), .val (.int r22), .val (.int z23), .unset] [(.long (1 : Int64)), (.ref b19)])) rfl (by rw [hml]; rfl) (Steps.refl _) (argsL := [(.long (1 : Int64))]) (rest := []) (lenOf pd_0 rfl) rfl (by show 2 * 0 + _ ≤ _; exact Nat.le_of_eq rfl) (hb hby at_132) (fun _ _ => ⟨rfl, e22, (by decide : 1 + 0 ≤ _), (by decide : 3 + 0 ≤ _)⟩)
    dsimp only [Pt.U, Pt.locs, Pt.cells, Pt.slots] at X26 l26 y26 z26 st26 hQ26
    subst l26 y26 z26
    obtain ⟨rfl, N26q, K26, Fq_limit_26, Fq_latest_26, Fq_older_26⟩ := hQ26
    have N26 := Fr.app N22 N26q
    have Ex_b19_26 := Ex_b19_21.keep K26
    have Z26 : n0 ≤ T26.heap.size := Nat.le_trans Z21 K26.1
    obtain ⟨cq27, kq27, q27a, q27b, q27c⟩ := isOf hZ rfl Ex_b19_26
    obtain ⟨_, _, ⟨T27, L27, k27, n27⟩, -, X27, ⟨Lc27, hQ27, l27, y27, z27⟩, st27⟩ := X26.virtualBack hx (y := (⟨"dev/leasehold/server/ValueMemory", "olderOverflow", "()Z"⟩ : MethodName)) (z := (⟨"dev/leasehold/server/ValueMemory", "olderOverflow", "()Z"⟩ : MethodName)) hown (mvT hZ (hw _ (List.mem_of_getElem? (i := 36) rfl))) (mvT hZ (hw _ (List.mem_of_getElem? (i := 37) rfl))) (notFace_of_selects (args := #[]) (mvT hZ (hw _ (List.mem_of_getElem? (i := 39) rfl)))) (mvT hZ (hw _ (List.mem_of_getElem? (i := 39) rfl))) (mvT hZ (hw _ (List.mem_of_getElem? (i := 38) rfl))) (by decide) (backOf (W := 0) (rm_ovf l Z a0 hw [] b19 (vl &&& (1099511627775 : Int64)) ((0 : Int64) + (((vf &&& (1099511627775 : Int64)) + (ve &&& (1099511627775 : Int64))) - (0 : Int64))) ((0 : Int64) + (1 : Int64)) T26.heap n0 Z26 Ex_b19_26 Fq_limit_26 Fq_latest_26 Fq_older_26) hZ (hw _ (List.mem_of_getElem? (i := 40) rfl)) (hw _ (List.mem_of_getElem? (i := 8) rfl)) (by decide) (by decide)) q27a q27c (g := (mkF m 137 #[.val (.long vf), .second, .val (.long vt), .second, .val (.long ve), .second, .val (.long vl), .second, .val (.int vm), .val (.long (vf &&& (1099511627775 : Int64))), .second, .val (.long (vt &&& (1099511627775 : Int64))), .second, .val (.long (ve &&& (1099511627775 : Int64))), .second, .val (.long (vl &&& (1099511627775 : Int64))), .second, .val (.ref b19), .val (.int r22), .val (.int z23), .unset] [(.ref b19)])) rfl (by rw [hml]; rfl) (Steps.refl _) (argsL := []) (rest := []) (lenOf pd_3 rfl) rfl (by show 2 * 0 + _ ≤ _; exact Nat.le_of_eq rfl) (hb hby at_137) (fun _ _ => ⟨rfl, rfl, (by decide : 1 + 0 ≤ _), (by decide : 3 + 0 ≤ _)⟩)
    dsimp only [Pt.U, Pt.locs, Pt.cells, Pt.slots] at X27 l27 y27 z27 st27 hQ27
    subst l27 y27 z27
    obtain ⟨⟨r27, rfl, hr27⟩, N27q, e27⟩ := hQ27
    have N27 := Fr.app N26 N27q
    obtain ⟨z28, hz28⟩ : ∃ z : Int32, z = if (vl &&& (1099511627775 : Int64)) < (((vf &&& (1099511627775 : Int64)) + (ve &&& (1099511627775 : Int64))) + (1 : Int64)) then (1 : Int32) else 0 := ⟨_, rfl⟩
    have seg28 : ∀ t, Steps p.tables e below (T27.setTop (mkF m 158 #[.val (.long vf), .second, .val (.long vt), .second, .val (.long ve), .second, .val (.long vl), .second, .val (.int vm), .val (.long (vf &&& (1099511627775 : Int64))), .second, .val (.long (vt &&& (1099511627775 : Int64))), .second, .val (.long (ve &&& (1099511627775 : Int64))), .second, .val (.long (vl &&& (1099511627775 : Int64))), .second, .val (.ref b19), .val (.int r22), .val (.int z23), .unset] [(.int z28), (.int r27)])) t → Steps p.tables e below (T27.setTop (mkF m 140 #[.val (.long vf), .second, .val (.long vt), .second, .val (.long ve), .second, .val (.long vl), .second, .val (.int vm), .val (.long (vf &&& (1099511627775 : Int64))), .second, .val (.long (vt &&& (1099511627775 : Int64))), .second, .val (.long (ve &&& (1099511627775 : Int64))), .second, .val (.long (vl &&& (1099511627775 : Int64))), .second, .val (.ref b19), .val (.int r22), .val (.int z23), .unset] [(.int r27)])) t := by
      intro t kt
      show Steps p.tables e below (T27.setTop (mkF m 140 #[.val (.long vf), .second, .val (.long vt), .second, .val (.long ve), .second, .val (.long vl), .second, .val (.int vm), .val (.long (vf &&& (1099511627775 : Int64))), .second, .val (.long (vt &&& (1099511627775 : Int64))), .second, .val (.long (ve &&& (1099511627775 : Int64))), .second, .val (.long (vl &&& (1099511627775 : Int64))), .second, .val (.ref b19), .val (.int r22), .val (.int z23), .unset] [(.int r27)])) _
      refine XS.lload X27.here hx rfl (hb hby at_140) rfl ?_
      show Steps p.tables e below (T27.setTop (mkF m 142 #[.val (.long vf), .second, .val (.long vt), .second, .val (.long ve), .second, .val (.long vl), .second, .val (.int vm), .val (.long (vf &&& (1099511627775 : Int64))), .second, .val (.long (vt &&& (1099511627775 : Int64))), .second, .val (.long (ve &&& (1099511627775 : Int64))), .second, .val (.long (vl &&& (1099511627775 : Int64))), .second, .val (.ref b19), .val (.int r22), .val (.int z23), .unset] [(.long (vf &&& (1099511627775 : Int64))), (.int r27)])) _
      refine XS.lload X27.here hx rfl (hb hby at_142) rfl ?_
      show Steps p.tables e below (T27.setTop (mkF m 144 #[.val (.long vf), .second, .val (.long vt), .second, .val (.long ve), .second, .val (.long vl), .second, .val (.int vm), .val (.long (vf &&& (1099511627775 : Int64))), .second, .val (.long (vt &&& (1099511627775 : Int64))), .second, .val (.long (ve &&& (1099511627775 : Int64))), .second, .val (.long (vl &&& (1099511627775 : Int64))), .second, .val (.ref b19), .val (.int r22), .val (.int z23), .unset] [(.long (ve &&& (1099511627775 : Int64))), (.long (vf &&& (1099511627775 : Int64))), (.int r27)])) _
      refine XS.ladd X27.here hx rfl (hb hby at_144) rfl ?_
      show Steps p.tables e below (T27.setTop (mkF m 145 #[.val (.long vf), .second, .val (.long vt), .second, .val (.long ve), .second, .val (.long vl), .second, .val (.int vm), .val (.long (vf &&& (1099511627775 : Int64))), .second, .val (.long (vt &&& (1099511627775 : Int64))), .second, .val (.long (ve &&& (1099511627775 : Int64))), .second, .val (.long (vl &&& (1099511627775 : Int64))), .second, .val (.ref b19), .val (.int r22), .val (.int z23), .unset] [(.long ((vf &&& (1099511627775 : Int64)) + (ve &&& (1099511627775 : Int64)))), (.int r27)])) _
      refine XS.lconst X27.here hx rfl (hb hby at_145) ?_
      show Steps p.tables e below (T27.setTop (mkF m 146 #[.val (.long vf), .second, .val (.long vt), .second, .val (.long ve), .second, .val (.long vl), .second, .val (.int vm), .val (.long (vf &&& (1099511627775 : Int64))), .second, .val (.long (vt &&& (1099511627775 : Int64))), .second, .val (.long (ve &&& (1099511627775 : Int64))), .second, .val (.long (vl &&& (1099511627775 : Int64))), .second, .val (.ref b19), .val (.int r22), .val (.int z23), .unset] [(.long (1 : Int64)), (.long ((vf &&& (1099511627775 : Int64)) + (ve &&& (1099511627775 : Int64)))), (.int r27)])) _
      refine XS.ladd X27.here hx rfl (hb hby at_146) rfl ?_
      show Steps p.tables e below (T27.setTop (mkF m 147 #[.val (.long vf), .second, .val (.long vt), .second, .val (.long ve), .second, .val (.long vl), .second, .val (.int vm), .val (.long (vf &&& (1099511627775 : Int64))), .second, .val (.long (vt &&& (1099511627775 : Int64))), .second, .val (.long (ve &&& (1099511627775 : Int64))), .second, .val (.long (vl &&& (1099511627775 : Int64))), .second, .val (.ref b19), .val (.int r22), .val (.int z23), .unset] [(.long (((vf &&& (1099511627775 : Int64)) + (ve &&& (1099511627775 : Int64))) + (1 : Int64))), (.int r27)])) _
      refine XS.lload X27.here hx rfl (hb hby at_147) rfl ?_
      show Steps p.tables e below (T27.setTop (mkF m 149 #[.val (.long vf), .second, .val (.long vt), .second, .val (.long ve), .second, .val (.long vl), .second, .val (.int vm), .val (.long (vf &&& (1099511627775 : Int64))), .second, .val (.long (vt &&& (1099511627775 : Int64))), .second, .val (.long (ve &&& (1099511627775 : Int64))), .second, .val (.long (vl &&& (1099511627775 : Int64))), .second, .val (.ref b19), .val (.int r22), .val (.int z23), .unset] [(.long (vl &&& (1099511627775 : Int64))), (.long (((vf &&& (1099511627775 : Int64)) + (ve &&& (1099511627775 : Int64))) + (1 : Int64))), (.int r27)])) _
      refine XS.lcmp X27.here hx rfl (hb hby at_149) rfl ?_
      show Steps p.tables e below (T27.setTop (mkF m 150 #[.val (.long vf), .second, .val (.long vt), .second, .val (.long ve), .second, .val (.long vl), .second, .val (.int vm), .val (.long (vf &&& (1099511627775 : Int64))), .second, .val (.long (vt &&& (1099511627775 : Int64))), .second, .val (.long (ve &&& (1099511627775 : Int64))), .second, .val (.long (vl &&& (1099511627775 : Int64))), .second, .val (.ref b19), .val (.int r22), .val (.int z23), .unset] [(.int (lcmpW (((vf &&& (1099511627775 : Int64)) + (ve &&& (1099511627775 : Int64))) + (1 : Int64)) (vl &&& (1099511627775 : Int64)))), (.int r27)])) _
      by_cases h150_29 : (vl &&& (1099511627775 : Int64)) < (((vf &&& (1099511627775 : Int64)) + (ve &&& (1099511627775 : Int64))) + (1 : Int64))
      · refine XS.ifNo X27.here hx rfl (hb hby at_150) rfl ((if0 _ _).trans (tlt ((lw_gt _ _).mpr h150_29)).2.2.2) ?_
        show Steps p.tables e below (T27.setTop (mkF m 153 #[.val (.long vf), .second, .val (.long vt), .second, .val (.long ve), .second, .val (.long vl), .second, .val (.int vm), .val (.long (vf &&& (1099511627775 : Int64))), .second, .val (.long (vt &&& (1099511627775 : Int64))), .second, .val (.long (ve &&& (1099511627775 : Int64))), .second, .val (.long (vl &&& (1099511627775 : Int64))), .second, .val (.ref b19), .val (.int r22), .val (.int z23), .unset] [(.int r27)])) _
        refine XS.iconst X27.here hx rfl (hb hby at_153) ?_
        show Steps p.tables e below (T27.setTop (mkF m 154 #[.val (.long vf), .second, .val (.long vt), .second, .val (.long ve), .second, .val (.long vl), .second, .val (.int vm), .val (.long (vf &&& (1099511627775 : Int64))), .second, .val (.long (vt &&& (1099511627775 : Int64))), .second, .val (.long (ve &&& (1099511627775 : Int64))), .second, .val (.long (vl &&& (1099511627775 : Int64))), .second, .val (.ref b19), .val (.int r22), .val (.int z23), .unset] [(.int (1 : Int32)), (.int r27)])) _
        refine XS.goto X27.here hx rfl (pc0 := 154) (pc' := 158) rfl (hb hby at_154) (by decide) (by decide) ?_
        have qz28 : z28 = (1 : Int32) := hz28.trans (by simp [h26_18, h150_29])
        rw [qz28] at kt
        exact kt
      · refine XS.ifYes X27.here hx rfl (pc0 := 150) (pc' := 157) rfl (hb hby at_150) rfl ((if0 _ _).trans (flt (fun q => h150_29 ((lw_gt _ _).mp q))).2.2.2) (by decide) (by decide) ?_
        show Steps p.tables e below (T27.setTop (mkF m 157 #[.val (.long vf), .second, .val (.long vt), .second, .val (.long ve), .second, .val (.long vl), .second, .val (.int vm), .val (.long (vf &&& (1099511627775 : Int64))), .second, .val (.long (vt &&& (1099511627775 : Int64))), .second, .val (.long (ve &&& (1099511627775 : Int64))), .second, .val (.long (vl &&& (1099511627775 : Int64))), .second, .val (.ref b19), .val (.int r22), .val (.int z23), .unset] [(.int r27)])) _
        refine XS.iconst X27.here hx rfl (hb hby at_157) ?_
        have qz28 : z28 = (0 : Int32) := hz28.trans (by simp [h26_18, h150_29])
        rw [qz28] at kt
        exact kt
    obtain ⟨fs, hr, hrun, hended, hW, hsame⟩ := X27.leave (v := some (.int (1 : Int32))) (fun h => by rw [Bd.returns] at h; cases h)
    refine ⟨_, _, pre0 _ ?_, hrun, hended, _, _, rfl, ?_, ⟨_, rfl⟩, hW, hsame.mono (by decide) (by decide)⟩
    · show Steps p.tables e below (s₁.setTop (mkF m 0 #[.val (.long vf), .second, .val (.long vt), .second, .val (.long ve), .second, .val (.long vl), .second, .val (.int vm), .unset, .unset, .unset, .unset, .unset, .unset, .unset, .unset, .unset, .unset, .unset, .unset] [])) _
      refine XS.lloadN X0.here hx rfl (hb hby at_0) rfl ?_
      show Steps p.tables e below (s₁.setTop (mkF m 1 #[.val (.long vf), .second, .val (.long vt), .second, .val (.long ve), .second, .val (.long vl), .second, .val (.int vm), .unset, .unset, .unset, .unset, .unset, .unset, .unset, .unset, .unset, .unset, .unset, .unset] [(.long vf)])) _
      refine X0.ldc2Long hx hown (mvT hZ (hw _ (List.mem_of_getElem? (i := 0) rfl))) (g := (mkF m 1 #[.val (.long vf), .second, .val (.long vt), .second, .val (.long ve), .second, .val (.long vl), .second, .val (.int vm), .unset, .unset, .unset, .unset, .unset, .unset, .unset, .unset, .unset, .unset, .unset, .unset] [(.long vf)])) rfl (hb hby at_1) _ ?_
      show Steps p.tables e below (s₁.setTop (mkF m 4 #[.val (.long vf), .second, .val (.long vt), .second, .val (.long ve), .second, .val (.long vl), .second, .val (.int vm), .unset, .unset, .unset, .unset, .unset, .unset, .unset, .unset, .unset, .unset, .unset, .unset] [(.long (1099511627775 : Int64)), (.long vf)])) _
      refine XS.land X0.here hx rfl (hb hby at_4) rfl ?_
      show Steps p.tables e below (s₁.setTop (mkF m 5 #[.val (.long vf), .second, .val (.long vt), .second, .val (.long ve), .second, .val (.long vl), .second, .val (.int vm), .unset, .unset, .unset, .unset, .unset, .unset, .unset, .unset, .unset, .unset, .unset, .unset] [(.long (vf &&& (1099511627775 : Int64)))])) _
      refine XS.lstore X0.here hx rfl (hb hby at_5) rfl (l' := #[.val (.long vf), .second, .val (.long vt), .second, .val (.long ve), .second, .val (.long vl), .second, .val (.int vm), .val (.long (vf &&& (1099511627775 : Int64))), .second, .unset, .unset, .unset, .unset, .unset, .unset, .unset, .unset, .unset, .unset]) rfl ?_
      show Steps p.tables e below (s₁.setTop (mkF m 7 #[.val (.long vf), .second, .val (.long vt), .second, .val (.long ve), .second, .val (.long vl), .second, .val (.int vm), .val (.long (vf &&& (1099511627775 : Int64))), .second, .unset, .unset, .unset, .unset, .unset, .unset, .unset, .unset, .unset, .unset] [])) _
      refine XS.lloadN X0.here hx rfl (hb hby at_7) rfl ?_
      show Steps p.tables e below (s₁.setTop (mkF m 8 #[.val (.long vf), .second, .val (.long vt), .second, .val (.long ve), .second, .val (.long vl), .second, .val (.int vm), .val (.long (vf &&& (1099511627775 : Int64))), .second, .unset, .unset, .unset, .unset, .unset, .unset, .unset, .unset, .unset, .unset] [(.long vt)])) _
      refine X0.ldc2Long hx hown (mvT hZ (hw _ (List.mem_of_getElem? (i := 0) rfl))) (g := (mkF m 8 #[.val (.long vf), .second, .val (.long vt), .second, .val (.long ve), .second, .val (.long vl), .second, .val (.int vm), .val (.long (vf &&& (1099511627775 : Int64))), .second, .unset, .unset, .unset, .unset, .unset, .unset, .unset, .unset, .unset, .unset] [(.long vt)])) rfl (hb hby at_8) _ ?_
      show Steps p.tables e below (s₁.setTop (mkF m 11 #[.val (.long vf), .second, .val (.long vt), .second, .val (.long ve), .second, .val (.long vl), .second, .val (.int vm), .val (.long (vf &&& (1099511627775 : Int64))), .second, .unset, .unset, .unset, .unset, .unset, .unset, .unset, .unset, .unset, .unset] [(.long (1099511627775 : Int64)), (.long vt)])) _
      refine XS.land X0.here hx rfl (hb hby at_11) rfl ?_
      show Steps p.tables e below (s₁.setTop (mkF m 12 #[.val (.long vf), .second, .val (.long vt), .second, .val (.long ve), .second, .val (.long vl), .second, .val (.int vm), .val (.long (vf &&& (1099511627775 : Int64))), .second, .unset, .unset, .unset, .unset, .unset, .unset, .unset, .unset, .unset, .unset] [(.long (vt &&& (1099511627775 : Int64)))])) _
      refine XS.lstore X0.here hx rfl (hb hby at_12) rfl (l' := #[.val (.long vf), .second, .val (.long vt), .second, .val (.long ve), .second, .val (.long vl), .second, .val (.int vm), .val (.long (vf &&& (1099511627775 : Int64))), .second, .val (.long (vt &&& (1099511627775 : Int64))), .second, .unset, .unset, .unset, .unset, .unset, .unset, .unset, .unset]) rfl ?_
      show Steps p.tables e below (s₁.setTop (mkF m 14 #[.val (.long vf), .second, .val (.long vt), .second, .val (.long ve), .second, .val (.long vl), .second, .val (.int vm), .val (.long (vf &&& (1099511627775 : Int64))), .second, .val (.long (vt &&& (1099511627775 : Int64))), .second, .unset, .unset, .unset, .unset, .unset, .unset, .unset, .unset] [])) _
      refine XS.lload X0.here hx rfl (hb hby at_14) rfl ?_
      show Steps p.tables e below (s₁.setTop (mkF m 16 #[.val (.long vf), .second, .val (.long vt), .second, .val (.long ve), .second, .val (.long vl), .second, .val (.int vm), .val (.long (vf &&& (1099511627775 : Int64))), .second, .val (.long (vt &&& (1099511627775 : Int64))), .second, .unset, .unset, .unset, .unset, .unset, .unset, .unset, .unset] [(.long ve)])) _
      refine X0.ldc2Long hx hown (mvT hZ (hw _ (List.mem_of_getElem? (i := 0) rfl))) (g := (mkF m 16 #[.val (.long vf), .second, .val (.long vt), .second, .val (.long ve), .second, .val (.long vl), .second, .val (.int vm), .val (.long (vf &&& (1099511627775 : Int64))), .second, .val (.long (vt &&& (1099511627775 : Int64))), .second, .unset, .unset, .unset, .unset, .unset, .unset, .unset, .unset] [(.long ve)])) rfl (hb hby at_16) _ ?_
      show Steps p.tables e below (s₁.setTop (mkF m 19 #[.val (.long vf), .second, .val (.long vt), .second, .val (.long ve), .second, .val (.long vl), .second, .val (.int vm), .val (.long (vf &&& (1099511627775 : Int64))), .second, .val (.long (vt &&& (1099511627775 : Int64))), .second, .unset, .unset, .unset, .unset, .unset, .unset, .unset, .unset] [(.long (1099511627775 : Int64)), (.long ve)])) _
      refine XS.land X0.here hx rfl (hb hby at_19) rfl ?_
      show Steps p.tables e below (s₁.setTop (mkF m 20 #[.val (.long vf), .second, .val (.long vt), .second, .val (.long ve), .second, .val (.long vl), .second, .val (.int vm), .val (.long (vf &&& (1099511627775 : Int64))), .second, .val (.long (vt &&& (1099511627775 : Int64))), .second, .unset, .unset, .unset, .unset, .unset, .unset, .unset, .unset] [(.long (ve &&& (1099511627775 : Int64)))])) _
      refine XS.lstore X0.here hx rfl (hb hby at_20) rfl (l' := #[.val (.long vf), .second, .val (.long vt), .second, .val (.long ve), .second, .val (.long vl), .second, .val (.int vm), .val (.long (vf &&& (1099511627775 : Int64))), .second, .val (.long (vt &&& (1099511627775 : Int64))), .second, .val (.long (ve &&& (1099511627775 : Int64))), .second, .unset, .unset, .unset, .unset, .unset, .unset]) rfl ?_
      show Steps p.tables e below (s₁.setTop (mkF m 22 #[.val (.long vf), .second, .val (.long vt), .second, .val (.long ve), .second, .val (.long vl), .second, .val (.int vm), .val (.long (vf &&& (1099511627775 : Int64))), .second, .val (.long (vt &&& (1099511627775 : Int64))), .second, .val (.long (ve &&& (1099511627775 : Int64))), .second, .unset, .unset, .unset, .unset, .unset, .unset] [])) _
      refine XS.iload X0.here hx rfl (hb hby at_22) rfl ?_
      show Steps p.tables e below (s₁.setTop (mkF m 24 #[.val (.long vf), .second, .val (.long vt), .second, .val (.long ve), .second, .val (.long vl), .second, .val (.int vm), .val (.long (vf &&& (1099511627775 : Int64))), .second, .val (.long (vt &&& (1099511627775 : Int64))), .second, .val (.long (ve &&& (1099511627775 : Int64))), .second, .unset, .unset, .unset, .unset, .unset, .unset] [(.int vm)])) _
      refine XS.iconst X0.here hx rfl (hb hby at_24) ?_
      show Steps p.tables e below (s₁.setTop (mkF m 25 #[.val (.long vf), .second, .val (.long vt), .second, .val (.long ve), .second, .val (.long vl), .second, .val (.int vm), .val (.long (vf &&& (1099511627775 : Int64))), .second, .val (.long (vt &&& (1099511627775 : Int64))), .second, .val (.long (ve &&& (1099511627775 : Int64))), .second, .unset, .unset, .unset, .unset, .unset, .unset] [(.int (1 : Int32)), (.int vm)])) _
      refine XS.iand X0.here hx rfl (hb hby at_25) rfl ?_
      show Steps p.tables e below (s₁.setTop (mkF m 26 #[.val (.long vf), .second, .val (.long vt), .second, .val (.long ve), .second, .val (.long vl), .second, .val (.int vm), .val (.long (vf &&& (1099511627775 : Int64))), .second, .val (.long (vt &&& (1099511627775 : Int64))), .second, .val (.long (ve &&& (1099511627775 : Int64))), .second, .unset, .unset, .unset, .unset, .unset, .unset] [(.int (vm &&& (1 : Int32)))])) _
      refine XS.ifYes X0.here hx rfl (pc0 := 26) (pc' := 56) rfl (hb hby at_26) rfl ((if0 _ _).trans (teq h26_18).1) (by decide) (by decide) ?_
      show Steps p.tables e below (s₁.setTop (mkF m 56 #[.val (.long vf), .second, .val (.long vt), .second, .val (.long ve), .second, .val (.long vl), .second, .val (.int vm), .val (.long (vf &&& (1099511627775 : Int64))), .second, .val (.long (vt &&& (1099511627775 : Int64))), .second, .val (.long (ve &&& (1099511627775 : Int64))), .second, .unset, .unset, .unset, .unset, .unset, .unset] [])) _
      refine XS.lload X0.here hx rfl (hb hby at_56) rfl ?_
      show Steps p.tables e below (s₁.setTop (mkF m 58 #[.val (.long vf), .second, .val (.long vt), .second, .val (.long ve), .second, .val (.long vl), .second, .val (.int vm), .val (.long (vf &&& (1099511627775 : Int64))), .second, .val (.long (vt &&& (1099511627775 : Int64))), .second, .val (.long (ve &&& (1099511627775 : Int64))), .second, .unset, .unset, .unset, .unset, .unset, .unset] [(.long vl)])) _
      refine X0.ldc2Long hx hown (mvT hZ (hw _ (List.mem_of_getElem? (i := 0) rfl))) (g := (mkF m 58 #[.val (.long vf), .second, .val (.long vt), .second, .val (.long ve), .second, .val (.long vl), .second, .val (.int vm), .val (.long (vf &&& (1099511627775 : Int64))), .second, .val (.long (vt &&& (1099511627775 : Int64))), .second, .val (.long (ve &&& (1099511627775 : Int64))), .second, .unset, .unset, .unset, .unset, .unset, .unset] [(.long vl)])) rfl (hb hby at_58) _ ?_
      show Steps p.tables e below (s₁.setTop (mkF m 61 #[.val (.long vf), .second, .val (.long vt), .second, .val (.long ve), .second, .val (.long vl), .second, .val (.int vm), .val (.long (vf &&& (1099511627775 : Int64))), .second, .val (.long (vt &&& (1099511627775 : Int64))), .second, .val (.long (ve &&& (1099511627775 : Int64))), .second, .unset, .unset, .unset, .unset, .unset, .unset] [(.long (1099511627775 : Int64)), (.long vl)])) _
      refine XS.land X0.here hx rfl (hb hby at_61) rfl ?_
      show Steps p.tables e below (s₁.setTop (mkF m 62 #[.val (.long vf), .second, .val (.long vt), .second, .val (.long ve), .second, .val (.long vl), .second, .val (.int vm), .val (.long (vf &&& (1099511627775 : Int64))), .second, .val (.long (vt &&& (1099511627775 : Int64))), .second, .val (.long (ve &&& (1099511627775 : Int64))), .second, .unset, .unset, .unset, .unset, .unset, .unset] [(.long (vl &&& (1099511627775 : Int64)))])) _
      refine XS.lstore X0.here hx rfl (hb hby at_62) rfl (l' := #[.val (.long vf), .second, .val (.long vt), .second, .val (.long ve), .second, .val (.long vl), .second, .val (.int vm), .val (.long (vf &&& (1099511627775 : Int64))), .second, .val (.long (vt &&& (1099511627775 : Int64))), .second, .val (.long (ve &&& (1099511627775 : Int64))), .second, .val (.long (vl &&& (1099511627775 : Int64))), .second, .unset, .unset, .unset, .unset]) rfl ?_
      show Steps p.tables e below (s₁.setTop (mkF m 64 #[.val (.long vf), .second, .val (.long vt), .second, .val (.long ve), .second, .val (.long vl), .second, .val (.int vm), .val (.long (vf &&& (1099511627775 : Int64))), .second, .val (.long (vt &&& (1099511627775 : Int64))), .second, .val (.long (ve &&& (1099511627775 : Int64))), .second, .val (.long (vl &&& (1099511627775 : Int64))), .second, .unset, .unset, .unset, .unset] [])) _
      refine st19 _ ?_
      show Steps p.tables e below (T19.setTop (mkF m 67 #[.val (.long vf), .second, .val (.long vt), .second, .val (.long ve), .second, .val (.long vl), .second, .val (.int vm), .val (.long (vf &&& (1099511627775 : Int64))), .second, .val (.long (vt &&& (1099511627775 : Int64))), .second, .val (.long (ve &&& (1099511627775 : Int64))), .second, .val (.long (vl &&& (1099511627775 : Int64))), .second, .unset, .unset, .unset, .unset] [(.ref b19)])) _
      refine XS.dup X19.here hx rfl (hb hby at_67) rfl rfl ?_
      show Steps p.tables e below (T19.setTop (mkF m 68 #[.val (.long vf), .second, .val (.long vt), .second, .val (.long ve), .second, .val (.long vl), .second, .val (.int vm), .val (.long (vf &&& (1099511627775 : Int64))), .second, .val (.long (vt &&& (1099511627775 : Int64))), .second, .val (.long (ve &&& (1099511627775 : Int64))), .second, .val (.long (vl &&& (1099511627775 : Int64))), .second, .unset, .unset, .unset, .unset] [(.ref b19), (.ref b19)])) _
      refine XS.lload X19.here hx rfl (hb hby at_68) rfl ?_
      show Steps p.tables e below (T19.setTop (mkF m 70 #[.val (.long vf), .second, .val (.long vt), .second, .val (.long ve), .second, .val (.long vl), .second, .val (.int vm), .val (.long (vf &&& (1099511627775 : Int64))), .second, .val (.long (vt &&& (1099511627775 : Int64))), .second, .val (.long (ve &&& (1099511627775 : Int64))), .second, .val (.long (vl &&& (1099511627775 : Int64))), .second, .unset, .unset, .unset, .unset] [(.long (vl &&& (1099511627775 : Int64))), (.ref b19), (.ref b19)])) _
      refine st20.trans ?_
      show Steps p.tables e below (T20.setTop (mkF m 73 #[.val (.long vf), .second, .val (.long vt), .second, .val (.long ve), .second, .val (.long vl), .second, .val (.int vm), .val (.long (vf &&& (1099511627775 : Int64))), .second, .val (.long (vt &&& (1099511627775 : Int64))), .second, .val (.long (ve &&& (1099511627775 : Int64))), .second, .val (.long (vl &&& (1099511627775 : Int64))), .second, .unset, .unset, .unset, .unset] [(.ref b19)])) _
      refine XS.astore X20.here hx rfl (hb hby at_73) rfl rfl (l' := #[.val (.long vf), .second, .val (.long vt), .second, .val (.long ve), .second, .val (.long vl), .second, .val (.int vm), .val (.long (vf &&& (1099511627775 : Int64))), .second, .val (.long (vt &&& (1099511627775 : Int64))), .second, .val (.long (ve &&& (1099511627775 : Int64))), .second, .val (.long (vl &&& (1099511627775 : Int64))), .second, .val (.ref b19), .unset, .unset, .unset]) rfl ?_
      show Steps p.tables e below (T20.setTop (mkF m 75 #[.val (.long vf), .second, .val (.long vt), .second, .val (.long ve), .second, .val (.long vl), .second, .val (.int vm), .val (.long (vf &&& (1099511627775 : Int64))), .second, .val (.long (vt &&& (1099511627775 : Int64))), .second, .val (.long (ve &&& (1099511627775 : Int64))), .second, .val (.long (vl &&& (1099511627775 : Int64))), .second, .val (.ref b19), .unset, .unset, .unset] [])) _
      refine XS.aload X20.here hx rfl (hb hby at_75) rfl rfl ?_
      show Steps p.tables e below (T20.setTop (mkF m 77 #[.val (.long vf), .second, .val (.long vt), .second, .val (.long ve), .second, .val (.long vl), .second, .val (.int vm), .val (.long (vf &&& (1099511627775 : Int64))), .second, .val (.long (vt &&& (1099511627775 : Int64))), .second, .val (.long (ve &&& (1099511627775 : Int64))), .second, .val (.long (vl &&& (1099511627775 : Int64))), .second, .val (.ref b19), .unset, .unset, .unset] [(.ref b19)])) _
      refine XS.lconst X20.here hx rfl (hb hby at_77) ?_
      show Steps p.tables e below (T20.setTop (mkF m 78 #[.val (.long vf), .second, .val (.long vt), .second, .val (.long ve), .second, .val (.long vl), .second, .val (.int vm), .val (.long (vf &&& (1099511627775 : Int64))), .second, .val (.long (vt &&& (1099511627775 : Int64))), .second, .val (.long (ve &&& (1099511627775 : Int64))), .second, .val (.long (vl &&& (1099511627775 : Int64))), .second, .val (.ref b19), .unset, .unset, .unset] [(.long (0 : Int64)), (.ref b19)])) _
      refine XS.lload X20.here hx rfl (hb hby at_78) rfl ?_
      show Steps p.tables e below (T20.setTop (mkF m 80 #[.val (.long vf), .second, .val (.long vt), .second, .val (.long ve), .second, .val (.long vl), .second, .val (.int vm), .val (.long (vf &&& (1099511627775 : Int64))), .second, .val (.long (vt &&& (1099511627775 : Int64))), .second, .val (.long (ve &&& (1099511627775 : Int64))), .second, .val (.long (vl &&& (1099511627775 : Int64))), .second, .val (.ref b19), .unset, .unset, .unset] [(.long (vf &&& (1099511627775 : Int64))), (.long (0 : Int64)), (.ref b19)])) _
      refine XS.lload X20.here hx rfl (hb hby at_80) rfl ?_
      show Steps p.tables e below (T20.setTop (mkF m 82 #[.val (.long vf), .second, .val (.long vt), .second, .val (.long ve), .second, .val (.long vl), .second, .val (.int vm), .val (.long (vf &&& (1099511627775 : Int64))), .second, .val (.long (vt &&& (1099511627775 : Int64))), .second, .val (.long (ve &&& (1099511627775 : Int64))), .second, .val (.long (vl &&& (1099511627775 : Int64))), .second, .val (.ref b19), .unset, .unset, .unset] [(.long (ve &&& (1099511627775 : Int64))), (.long (vf &&& (1099511627775 : Int64))), (.long (0 : Int64)), (.ref b19)])) _
      refine XS.ladd X20.here hx rfl (hb hby at_82) rfl ?_
      show Steps p.tables e below (T20.setTop (mkF m 83 #[.val (.long vf), .second, .val (.long vt), .second, .val (.long ve), .second, .val (.long vl), .second, .val (.int vm), .val (.long (vf &&& (1099511627775 : Int64))), .second, .val (.long (vt &&& (1099511627775 : Int64))), .second, .val (.long (ve &&& (1099511627775 : Int64))), .second, .val (.long (vl &&& (1099511627775 : Int64))), .second, .val (.ref b19), .unset, .unset, .unset] [(.long ((vf &&& (1099511627775 : Int64)) + (ve &&& (1099511627775 : Int64)))), (.long (0 : Int64)), (.ref b19)])) _
      refine st21.trans ?_
      show Steps p.tables e below (T21.setTop (mkF m 86 #[.val (.long vf), .second, .val (.long vt), .second, .val (.long ve), .second, .val (.long vl), .second, .val (.int vm), .val (.long (vf &&& (1099511627775 : Int64))), .second, .val (.long (vt &&& (1099511627775 : Int64))), .second, .val (.long (ve &&& (1099511627775 : Int64))), .second, .val (.long (vl &&& (1099511627775 : Int64))), .second, .val (.ref b19), .unset, .unset, .unset] [])) _
      refine XS.aload X21.here hx rfl (hb hby at_86) rfl rfl ?_
      show Steps p.tables e below (T21.setTop (mkF m 88 #[.val (.long vf), .second, .val (.long vt), .second, .val (.long ve), .second, .val (.long vl), .second, .val (.int vm), .val (.long (vf &&& (1099511627775 : Int64))), .second, .val (.long (vt &&& (1099511627775 : Int64))), .second, .val (.long (ve &&& (1099511627775 : Int64))), .second, .val (.long (vl &&& (1099511627775 : Int64))), .second, .val (.ref b19), .unset, .unset, .unset] [(.ref b19)])) _
      refine XS.lload X21.here hx rfl (hb hby at_88) rfl ?_
      show Steps p.tables e below (T21.setTop (mkF m 90 #[.val (.long vf), .second, .val (.long vt), .second, .val (.long ve), .second, .val (.long vl), .second, .val (.int vm), .val (.long (vf &&& (1099511627775 : Int64))), .second, .val (.long (vt &&& (1099511627775 : Int64))), .second, .val (.long (ve &&& (1099511627775 : Int64))), .second, .val (.long (vl &&& (1099511627775 : Int64))), .second, .val (.ref b19), .unset, .unset, .unset] [(.long (vf &&& (1099511627775 : Int64))), (.ref b19)])) _
      refine XS.lload X21.here hx rfl (hb hby at_90) rfl ?_
      show Steps p.tables e below (T21.setTop (mkF m 92 #[.val (.long vf), .second, .val (.long vt), .second, .val (.long ve), .second, .val (.long vl), .second, .val (.int vm), .val (.long (vf &&& (1099511627775 : Int64))), .second, .val (.long (vt &&& (1099511627775 : Int64))), .second, .val (.long (ve &&& (1099511627775 : Int64))), .second, .val (.long (vl &&& (1099511627775 : Int64))), .second, .val (.ref b19), .unset, .unset, .unset] [(.long (vt &&& (1099511627775 : Int64))), (.long (vf &&& (1099511627775 : Int64))), (.ref b19)])) _
      refine st22.trans ?_
      show Steps p.tables e below (T22.setTop (mkF m 95 #[.val (.long vf), .second, .val (.long vt), .second, .val (.long ve), .second, .val (.long vl), .second, .val (.int vm), .val (.long (vf &&& (1099511627775 : Int64))), .second, .val (.long (vt &&& (1099511627775 : Int64))), .second, .val (.long (ve &&& (1099511627775 : Int64))), .second, .val (.long (vl &&& (1099511627775 : Int64))), .second, .val (.ref b19), .unset, .unset, .unset] [(.int r22)])) _
      refine XS.istore X22.here hx rfl (hb hby at_95) rfl (l' := #[.val (.long vf), .second, .val (.long vt), .second, .val (.long ve), .second, .val (.long vl), .second, .val (.int vm), .val (.long (vf &&& (1099511627775 : Int64))), .second, .val (.long (vt &&& (1099511627775 : Int64))), .second, .val (.long (ve &&& (1099511627775 : Int64))), .second, .val (.long (vl &&& (1099511627775 : Int64))), .second, .val (.ref b19), .val (.int r22), .unset, .unset]) rfl ?_
      show Steps p.tables e below (T22.setTop (mkF m 97 #[.val (.long vf), .second, .val (.long vt), .second, .val (.long ve), .second, .val (.long vl), .second, .val (.int vm), .val (.long (vf &&& (1099511627775 : Int64))), .second, .val (.long (vt &&& (1099511627775 : Int64))), .second, .val (.long (ve &&& (1099511627775 : Int64))), .second, .val (.long (vl &&& (1099511627775 : Int64))), .second, .val (.ref b19), .val (.int r22), .unset, .unset] [])) _
      refine seg23 _ ?_
      show Steps p.tables e below (T22.setTop (mkF m 129 #[.val (.long vf), .second, .val (.long vt), .second, .val (.long ve), .second, .val (.long vl), .second, .val (.int vm), .val (.long (vf &&& (1099511627775 : Int64))), .second, .val (.long (vt &&& (1099511627775 : Int64))), .second, .val (.long (ve &&& (1099511627775 : Int64))), .second, .val (.long (vl &&& (1099511627775 : Int64))), .second, .val (.ref b19), .val (.int r22), .val (.int z23), .unset] [])) _
      refine XS.aload X22.here hx rfl (hb hby at_129) rfl rfl ?_
      show Steps p.tables e below (T22.setTop (mkF m 131 #[.val (.long vf), .second, .val (.long vt), .second, .val (.long ve), .second, .val (.long vl), .second, .val (.int vm), .val (.long (vf &&& (1099511627775 : Int64))), .second, .val (.long (vt &&& (1099511627775 : Int64))), .second, .val (.long (ve &&& (1099511627775 : Int64))), .second, .val (.long (vl &&& (1099511627775 : Int64))), .second, .val (.ref b19), .val (.int r22), .val (.int z23), .unset] [(.ref b19)])) _
      refine XS.lconst X22.here hx rfl (hb hby at_131) ?_
      show Steps p.tables e below (T22.setTop (mkF m 132 #[.val (.long vf), .second, .val (.long vt), .second, .val (.long ve), .second, .val (.long vl), .second, .val (.int vm), .val (.long (vf &&& (1099511627775 : Int64))), .second, .val (.long (vt &&& (1099511627775 : Int64))), .second, .val (.long (ve &&& (1099511627775 : Int64))), .second, .val (.long (vl &&& (1099511627775 : Int64))), .second, .val (.ref b19), .val (.int r22), .val (.int z23), .unset] [(.long (1 : Int64)), (.ref b19)])) _
      refine st26.trans ?_
      show Steps p.tables e below (T26.setTop (mkF m 135 #[.val (.long vf), .second, .val (.long vt), .second, .val (.long ve), .second, .val (.long vl), .second, .val (.int vm), .val (.long (vf &&& (1099511627775 : Int64))), .second, .val (.long (vt &&& (1099511627775 : Int64))), .second, .val (.long (ve &&& (1099511627775 : Int64))), .second, .val (.long (vl &&& (1099511627775 : Int64))), .second, .val (.ref b19), .val (.int r22), .val (.int z23), .unset] [])) _
      refine XS.aload X26.here hx rfl (hb hby at_135) rfl rfl ?_
      show Steps p.tables e below (T26.setTop (mkF m 137 #[.val (.long vf), .second, .val (.long vt), .second, .val (.long ve), .second, .val (.long vl), .second, .val (.int vm), .val (.long (vf &&& (1099511627775 : Int64))), .second, .val (.long (vt &&& (1099511627775 : Int64))), .second, .val (.long (ve &&& (1099511627775 : Int64))), .second, .val (.long (vl &&& (1099511627775 : Int64))), .second, .val (.ref b19), .val (.int r22), .val (.int z23), .unset] [(.ref b19)])) _
      refine st27.trans ?_
      show Steps p.tables e below (T27.setTop (mkF m 140 #[.val (.long vf), .second, .val (.long vt), .second, .val (.long ve), .second, .val (.long vl), .second, .val (.int vm), .val (.long (vf &&& (1099511627775 : Int64))), .second, .val (.long (vt &&& (1099511627775 : Int64))), .second, .val (.long (ve &&& (1099511627775 : Int64))), .second, .val (.long (vl &&& (1099511627775 : Int64))), .second, .val (.ref b19), .val (.int r22), .val (.int z23), .unset] [(.int r27)])) _
      refine seg28 _ ?_
      show Steps p.tables e below (T27.setTop (mkF m 158 #[.val (.long vf), .second, .val (.long vt), .second, .val (.long ve), .second, .val (.long vl), .second, .val (.int vm), .val (.long (vf &&& (1099511627775 : Int64))), .second, .val (.long (vt &&& (1099511627775 : Int64))), .second, .val (.long (ve &&& (1099511627775 : Int64))), .second, .val (.long (vl &&& (1099511627775 : Int64))), .second, .val (.ref b19), .val (.int r22), .val (.int z23), .unset] [(.int z28), (.int r27)])) _
      refine XS.icmpNo X27.here hx rfl (hb hby at_158) rfl (teq (hr27.trans ((own_o _ _ _).trans hz28.symm) : r27 = z28)).2 ?_
      show Steps p.tables e below (T27.setTop (mkF m 161 #[.val (.long vf), .second, .val (.long vt), .second, .val (.long ve), .second, .val (.long vl), .second, .val (.int vm), .val (.long (vf &&& (1099511627775 : Int64))), .second, .val (.long (vt &&& (1099511627775 : Int64))), .second, .val (.long (ve &&& (1099511627775 : Int64))), .second, .val (.long (vl &&& (1099511627775 : Int64))), .second, .val (.ref b19), .val (.int r22), .val (.int z23), .unset] [])) _
      refine XS.iconst X27.here hx rfl (hb hby at_161) ?_
      show Steps p.tables e below (T27.setTop (mkF m 162 #[.val (.long vf), .second, .val (.long vt), .second, .val (.long ve), .second, .val (.long vl), .second, .val (.int vm), .val (.long (vf &&& (1099511627775 : Int64))), .second, .val (.long (vt &&& (1099511627775 : Int64))), .second, .val (.long (ve &&& (1099511627775 : Int64))), .second, .val (.long (vl &&& (1099511627775 : Int64))), .second, .val (.ref b19), .val (.int r22), .val (.int z23), .unset] [(.int (1 : Int32))])) _
      refine XS.goto X27.here hx rfl (pc0 := 162) (pc' := 166) rfl (hb hby at_162) (by decide) (by decide) ?_
      show Steps p.tables e below (T27.setTop (mkF m 166 #[.val (.long vf), .second, .val (.long vt), .second, .val (.long ve), .second, .val (.long vl), .second, .val (.int vm), .val (.long (vf &&& (1099511627775 : Int64))), .second, .val (.long (vt &&& (1099511627775 : Int64))), .second, .val (.long (ve &&& (1099511627775 : Int64))), .second, .val (.long (vl &&& (1099511627775 : Int64))), .second, .val (.ref b19), .val (.int r22), .val (.int z23), .unset] [(.int (1 : Int32))])) _
      refine XS.istore X27.here hx rfl (hb hby at_166) rfl (l' := #[.val (.long vf), .second, .val (.long vt), .second, .val (.long ve), .second, .val (.long vl), .second, .val (.int vm), .val (.long (vf &&& (1099511627775 : Int64))), .second, .val (.long (vt &&& (1099511627775 : Int64))), .second, .val (.long (ve &&& (1099511627775 : Int64))), .second, .val (.long (vl &&& (1099511627775 : Int64))), .second, .val (.ref b19), .val (.int r22), .val (.int z23), .val (.int (1 : Int32))]) rfl ?_
      show Steps p.tables e below (T27.setTop (mkF m 168 #[.val (.long vf), .second, .val (.long vt), .second, .val (.long ve), .second, .val (.long vl), .second, .val (.int vm), .val (.long (vf &&& (1099511627775 : Int64))), .second, .val (.long (vt &&& (1099511627775 : Int64))), .second, .val (.long (ve &&& (1099511627775 : Int64))), .second, .val (.long (vl &&& (1099511627775 : Int64))), .second, .val (.ref b19), .val (.int r22), .val (.int z23), .val (.int (1 : Int32))] [])) _
      refine XS.iload X27.here hx rfl (hb hby at_168) rfl ?_
      show Steps p.tables e below (T27.setTop (mkF m 170 #[.val (.long vf), .second, .val (.long vt), .second, .val (.long ve), .second, .val (.long vl), .second, .val (.int vm), .val (.long (vf &&& (1099511627775 : Int64))), .second, .val (.long (vt &&& (1099511627775 : Int64))), .second, .val (.long (ve &&& (1099511627775 : Int64))), .second, .val (.long (vl &&& (1099511627775 : Int64))), .second, .val (.ref b19), .val (.int r22), .val (.int z23), .val (.int (1 : Int32))] [(.int r22)])) _
      refine XS.iload X27.here hx rfl (hb hby at_170) rfl ?_
      show Steps p.tables e below (T27.setTop (mkF m 172 #[.val (.long vf), .second, .val (.long vt), .second, .val (.long ve), .second, .val (.long vl), .second, .val (.int vm), .val (.long (vf &&& (1099511627775 : Int64))), .second, .val (.long (vt &&& (1099511627775 : Int64))), .second, .val (.long (ve &&& (1099511627775 : Int64))), .second, .val (.long (vl &&& (1099511627775 : Int64))), .second, .val (.ref b19), .val (.int r22), .val (.int z23), .val (.int (1 : Int32))] [(.int z23), (.int r22)])) _
      refine XS.icmpNo X27.here hx rfl (hb hby at_172) rfl (teq (hr22.trans ((own_a _ _ _ _).trans hz23.symm) : r22 = z23)).2 ?_
      show Steps p.tables e below (T27.setTop (mkF m 175 #[.val (.long vf), .second, .val (.long vt), .second, .val (.long ve), .second, .val (.long vl), .second, .val (.int vm), .val (.long (vf &&& (1099511627775 : Int64))), .second, .val (.long (vt &&& (1099511627775 : Int64))), .second, .val (.long (ve &&& (1099511627775 : Int64))), .second, .val (.long (vl &&& (1099511627775 : Int64))), .second, .val (.ref b19), .val (.int r22), .val (.int z23), .val (.int (1 : Int32))] [])) _
      refine XS.iload X27.here hx rfl (hb hby at_175) rfl ?_
      show Steps p.tables e below (T27.setTop (mkF m 177 #[.val (.long vf), .second, .val (.long vt), .second, .val (.long ve), .second, .val (.long vl), .second, .val (.int vm), .val (.long (vf &&& (1099511627775 : Int64))), .second, .val (.long (vt &&& (1099511627775 : Int64))), .second, .val (.long (ve &&& (1099511627775 : Int64))), .second, .val (.long (vl &&& (1099511627775 : Int64))), .second, .val (.ref b19), .val (.int r22), .val (.int z23), .val (.int (1 : Int32))] [(.int (1 : Int32))])) _
      refine XS.ifNo X27.here hx rfl (hb hby at_177) rfl ((if0 _ _).trans (feq (by decide : ¬ ((1 : Int32) = (0 : Int32)))).1) ?_
      show Steps p.tables e below (T27.setTop (mkF m 180 #[.val (.long vf), .second, .val (.long vt), .second, .val (.long ve), .second, .val (.long vl), .second, .val (.int vm), .val (.long (vf &&& (1099511627775 : Int64))), .second, .val (.long (vt &&& (1099511627775 : Int64))), .second, .val (.long (ve &&& (1099511627775 : Int64))), .second, .val (.long (vl &&& (1099511627775 : Int64))), .second, .val (.ref b19), .val (.int r22), .val (.int z23), .val (.int (1 : Int32))] [])) _
      refine XS.iconst X27.here hx rfl (hb hby at_180) ?_
      show Steps p.tables e below (T27.setTop (mkF m 181 #[.val (.long vf), .second, .val (.long vt), .second, .val (.long ve), .second, .val (.long vl), .second, .val (.int vm), .val (.long (vf &&& (1099511627775 : Int64))), .second, .val (.long (vt &&& (1099511627775 : Int64))), .second, .val (.long (ve &&& (1099511627775 : Int64))), .second, .val (.long (vl &&& (1099511627775 : Int64))), .second, .val (.ref b19), .val (.int r22), .val (.int z23), .val (.int (1 : Int32))] [(.int (1 : Int32))])) _
      refine XS.goto X27.here hx rfl (pc0 := 181) (pc' := 185) rfl (hb hby at_181) (by decide) (by decide) ?_
      show Steps p.tables e below (T27.setTop (mkF m 185 #[.val (.long vf), .second, .val (.long vt), .second, .val (.long ve), .second, .val (.long vl), .second, .val (.int vm), .val (.long (vf &&& (1099511627775 : Int64))), .second, .val (.long (vt &&& (1099511627775 : Int64))), .second, .val (.long (ve &&& (1099511627775 : Int64))), .second, .val (.long (vl &&& (1099511627775 : Int64))), .second, .val (.ref b19), .val (.int r22), .val (.int z23), .val (.int (1 : Int32))] [(.int (1 : Int32))])) _
      exact retN X27 hx (t := .boolean) Bd.returns (by simp) (hb hby at_185) hr
    · show Q_law Z vf vt ve vl vm h0 n0 _ T27.heap _
      rw [e27]
      exact ⟨rfl, N27⟩
  · obtain ⟨_, _, ⟨T30, L30, k30, n30⟩, -, X30, ⟨Lc30, hQ30, l30, y30, z30⟩, st30⟩ := Jvm.LawKit.callS X0 hx (y := (⟨"java/lang/Math", "max", "(JJ)J"⟩ : MethodName)) hown (mvT hZ (hw _ (List.mem_of_getElem? (i := 2) rfl))) (mvT hZ (hw _ (List.mem_of_getElem? (i := 3) rfl))) (mvT hZ (hw _ (List.mem_of_getElem? (i := 4) rfl))) (mvT hZ (hw _ (List.mem_of_getElem? (i := 5) rfl))) (by decide) (backOf (W := 0) (rm_max l Z a0 hw [] (0 : Int64) ((((ve &&& (1099511627775 : Int64)) + (vt &&& (1099511627775 : Int64))) + (((vm >>> ((1 : Int32) &&& 31)) &&& (7 : Int32)).toInt64)) - (4 : Int64)) h0 n0 Z0 ) hZ (hw _ (List.mem_of_getElem? (i := 5) rfl)) (hw _ (List.mem_of_getElem? (i := 4) rfl)) (by decide) (by decide)) (g := (mkF m 48 #[.val (.long vf), .second, .val (.long vt), .second, .val (.long ve), .second, .val (.long vl), .second, .val (.int vm), .val (.long (vf &&& (1099511627775 : Int64))), .second, .val (.long (vt &&& (1099511627775 : Int64))), .second, .val (.long (ve &&& (1099511627775 : Int64))), .second, .unset, .unset, .unset, .unset, .unset, .unset] [(.long ((((ve &&& (1099511627775 : Int64)) + (vt &&& (1099511627775 : Int64))) + (((vm >>> ((1 : Int32) &&& 31)) &&& (7 : Int32)).toInt64)) - (4 : Int64))), (.long (0 : Int64))])) rfl (by rw [hml]; rfl) (argsL := [(.long (0 : Int64)), (.long ((((ve &&& (1099511627775 : Int64)) + (vt &&& (1099511627775 : Int64))) + (((vm >>> ((1 : Int32) &&& 31)) &&& (7 : Int32)).toInt64)) - (4 : Int64)))]) (rest := []) (lenOf pd_4 rfl) rfl (by show 2 * 0 + _ ≤ _; exact Nat.le_of_eq rfl) (hb hby at_48) (fun _ _ => ⟨rfl, e0, (by decide : 0 + 0 ≤ _), (by decide : 0 + 0 ≤ _)⟩)
    dsimp only [Pt.U, Pt.locs, Pt.cells, Pt.slots] at X30 l30 y30 z30 st30 hQ30
    subst l30 y30 z30
    obtain ⟨⟨r30, rfl, hr30⟩, N30q, e30⟩ := hQ30
    have N30 := Fr.app N0 N30q
    obtain ⟨T31, h31, X31, e31, E31, A31, D31, -, st31⟩ := newO X30 hx hZ hown (hw _ (List.mem_of_getElem? (i := 6) rfl)) (hw _ (List.mem_of_getElem? (i := 7) rfl)) (hw _ (List.mem_of_getElem? (i := 8) rfl)) e30 (g := (mkF m 64 #[.val (.long vf), .second, .val (.long vt), .second, .val (.long ve), .second, .val (.long vl), .second, .val (.int vm), .val (.long (vf &&& (1099511627775 : Int64))), .second, .val (.long (vt &&& (1099511627775 : Int64))), .second, .val (.long (ve &&& (1099511627775 : Int64))), .second, .val (.long r30), .second, .unset, .unset, .unset, .unset] [])) rfl (hb hby at_64) (by decide) (by decide)
    obtain ⟨b31, g31⟩ : ∃ z, z = h0.size := ⟨_, rfl⟩
    rw [← g31] at A31 D31 st31
    have g_b31 : n0 ≤ b31 := Nat.le_trans Z0 (Nat.le_of_eq g31.symm)
    have Z31 : n0 ≤ h31.size := Nat.le_trans Z0 E31.1
    have Ex_b31_31 := A31
    have Fd_limit_b31_31 : Fld Z h31 b31 "dev/leasehold/server/ValueMemory" "limit" "J" (.long (0 : Int64)) := D31 (Or.inr (hw _ (List.mem_of_getElem? (i := 16) rfl))) (ty := .long) (by decide)
    have Fd_latest_b31_31 : Fld Z h31 b31 "dev/leasehold/server/ValueMemory" "latest" "J" (.long (0 : Int64)) := D31 (Or.inl (hw _ (List.mem_of_getElem? (i := 23) rfl))) (ty := .long) (by decide)
    have Fd_older_b31_31 : Fld Z h31 b31 "dev/leasehold/server/ValueMemory" "older" "J" (.long (0 : Int64)) := D31 (Or.inl (hw _ (List.mem_of_getElem? (i := 35) rfl))) (ty := .long) (by decide)
    obtain ⟨_, _, ⟨T32, L32, k32, n32⟩, -, X32, ⟨Lc32, hQ32, l32, y32, z32⟩, st32⟩ := X31.specialBack hx (y := (⟨"dev/leasehold/server/ValueMemory", "<init>", "(J)V"⟩ : MethodName)) rfl hown (mvT hZ (hw _ (List.mem_of_getElem? (i := 9) rfl))) (mvT hZ (hw _ (List.mem_of_getElem? (i := 10) rfl))) (mvT hZ (hw _ (List.mem_of_getElem? (i := 11) rfl))) (by decide) (backOf (W := 1) (rm_ini l Z a0 hw [] b31 r30 (0 : Int64) (0 : Int64) (0 : Int64) h31 n0 Z31 Ex_b31_31 Fd_limit_b31_31 Fd_latest_b31_31 Fd_older_b31_31 g_b31) hZ (hw _ (List.mem_of_getElem? (i := 11) rfl)) (hw _ (List.mem_of_getElem? (i := 8) rfl)) (by decide) (by decide)) (g := (mkF m 70 #[.val (.long vf), .second, .val (.long vt), .second, .val (.long ve), .second, .val (.long vl), .second, .val (.int vm), .val (.long (vf &&& (1099511627775 : Int64))), .second, .val (.long (vt &&& (1099511627775 : Int64))), .second, .val (.long (ve &&& (1099511627775 : Int64))), .second, .val (.long r30), .second, .unset, .unset, .unset, .unset] [(.long r30), (.ref b31), (.ref b31)])) rfl (by rw [hml]; rfl) (Steps.refl _) (a := b31) (argsL := [(.long r30)]) (rest := [(.ref b31)]) (lenOf pd_0 rfl) rfl (by show 2 * 0 + _ ≤ _; exact Nat.le_of_eq rfl) (hb hby at_70) (fun _ _ => ⟨rfl, e31, (by decide : 1 + 0 ≤ _), (by decide : 3 + 0 ≤ _)⟩)
    dsimp only [Pt.U, Pt.locs, Pt.cells, Pt.slots] at X32 l32 y32 z32 st32 hQ32
    subst l32 y32 z32
    obtain ⟨rfl, N32q, K32, Fq_limit_32, Fq_latest_32, Fq_older_32⟩ := hQ32
    have N32 := Fr.app N30 N32q
    have Ex_b31_32 := Ex_b31_31.keep K32
    have Z32 : n0 ≤ T32.heap.size := Nat.le_trans Z31 K32.1
    obtain ⟨cq33, kq33, q33a, q33b, q33c⟩ := isOf hZ rfl Ex_b31_32
    obtain ⟨_, _, ⟨T33, L33, k33, n33⟩, -, X33, ⟨Lc33, hQ33, l33, y33, z33⟩, st33⟩ := X32.virtualBack hx (y := (⟨"dev/leasehold/server/ValueMemory", "replaceLatest", "(JJ)V"⟩ : MethodName)) (z := (⟨"dev/leasehold/server/ValueMemory", "replaceLatest", "(JJ)V"⟩ : MethodName)) hown (mvT hZ (hw _ (List.mem_of_getElem? (i := 17) rfl))) (mvT hZ (hw _ (List.mem_of_getElem? (i := 18) rfl))) (notFace_of_selects (args := #[]) (mvT hZ (hw _ (List.mem_of_getElem? (i := 20) rfl)))) (mvT hZ (hw _ (List.mem_of_getElem? (i := 20) rfl))) (mvT hZ (hw _ (List.mem_of_getElem? (i := 19) rfl))) (by decide) (backOf (W := 0) (rm_rep l Z a0 hw [] b31 (0 : Int64) ((vf &&& (1099511627775 : Int64)) + (ve &&& (1099511627775 : Int64))) r30 (0 : Int64) (0 : Int64) T32.heap n0 Z32 Ex_b31_32 Fq_limit_32 Fq_latest_32 Fq_older_32 g_b31) hZ (hw _ (List.mem_of_getElem? (i := 21) rfl)) (hw _ (List.mem_of_getElem? (i := 8) rfl)) (by decide) (by decide)) q33a q33c (g := (mkF m 83 #[.val (.long vf), .second, .val (.long vt), .second, .val (.long ve), .second, .val (.long vl), .second, .val (.int vm), .val (.long (vf &&& (1099511627775 : Int64))), .second, .val (.long (vt &&& (1099511627775 : Int64))), .second, .val (.long (ve &&& (1099511627775 : Int64))), .second, .val (.long r30), .second, .val (.ref b31), .unset, .unset, .unset] [(.long ((vf &&& (1099511627775 : Int64)) + (ve &&& (1099511627775 : Int64)))), (.long (0 : Int64)), (.ref b31)])) rfl (by rw [hml]; rfl) (Steps.refl _) (argsL := [(.long (0 : Int64)), (.long ((vf &&& (1099511627775 : Int64)) + (ve &&& (1099511627775 : Int64))))]) (rest := []) (lenOf pd_1 rfl) rfl (by show 2 * 0 + _ ≤ _; exact Nat.le_of_eq rfl) (hb hby at_83) (fun _ _ => ⟨rfl, rfl, (by decide : 1 + 0 ≤ _), (by decide : 3 + 0 ≤ _)⟩)
    dsimp only [Pt.U, Pt.locs, Pt.cells, Pt.slots] at X33 l33 y33 z33 st33 hQ33
    subst l33 y33 z33
    obtain ⟨rfl, N33q, K33, Fq_limit_33, Fq_latest_33, Fq_older_33⟩ := hQ33
    have N33 := Fr.app N32 N33q
    have Ex_b31_33 := Ex_b31_32.keep K33
    have Z33 : n0 ≤ T33.heap.size := Nat.le_trans Z32 K33.1
    obtain ⟨cq34, kq34, q34a, q34b, q34c⟩ := isOf hZ rfl Ex_b31_33
    obtain ⟨_, _, ⟨T34, L34, k34, n34⟩, -, X34, ⟨Lc34, hQ34, l34, y34, z34⟩, st34⟩ := X33.virtualBack hx (y := (⟨"dev/leasehold/server/ValueMemory", "admits", "(JJ)Z"⟩ : MethodName)) (z := (⟨"dev/leasehold/server/ValueMemory", "admits", "(JJ)Z"⟩ : MethodName)) hown (mvT hZ (hw _ (List.mem_of_getElem? (i := 24) rfl))) (mvT hZ (hw _ (List.mem_of_getElem? (i := 25) rfl))) (notFace_of_selects (args := #[]) (mvT hZ (hw _ (List.mem_of_getElem? (i := 27) rfl)))) (mvT hZ (hw _ (List.mem_of_getElem? (i := 27) rfl))) (mvT hZ (hw _ (List.mem_of_getElem? (i := 26) rfl))) (by decide) (backOf (W := 0) (rm_adm l Z a0 hw [] b31 (vf &&& (1099511627775 : Int64)) (vt &&& (1099511627775 : Int64)) r30 ((0 : Int64) + (((vf &&& (1099511627775 : Int64)) + (ve &&& (1099511627775 : Int64))) - (0 : Int64))) (0 : Int64) T33.heap n0 Z33 Ex_b31_33 Fq_limit_33 Fq_latest_33 Fq_older_33) hZ (hw _ (List.mem_of_getElem? (i := 28) rfl)) (hw _ (List.mem_of_getElem? (i := 8) rfl)) (by decide) (by decide)) q34a q34c (g := (mkF m 92 #[.val (.long vf), .second, .val (.long vt), .second, .val (.long ve), .second, .val (.long vl), .second, .val (.int vm), .val (.long (vf &&& (1099511627775 : Int64))), .second, .val (.long (vt &&& (1099511627775 : Int64))), .second, .val (.long (ve &&& (1099511627775 : Int64))), .second, .val (.long r30), .second, .val (.ref b31), .unset, .unset, .unset] [(.long (vt &&& (1099511627775 : Int64))), (.long (vf &&& (1099511627775 : Int64))), (.ref b31)])) rfl (by rw [hml]; rfl) (Steps.refl _) (argsL := [(.long (vf &&& (1099511627775 : Int64))), (.long (vt &&& (1099511627775 : Int64)))]) (rest := []) (lenOf pd_2 rfl) rfl (by show 2 * 0 + _ ≤ _; exact Nat.le_of_eq rfl) (hb hby at_92) (fun _ _ => ⟨rfl, rfl, (by decide : 1 + 0 ≤ _), (by decide : 3 + 0 ≤ _)⟩)
    dsimp only [Pt.U, Pt.locs, Pt.cells, Pt.slots] at X34 l34 y34 z34 st34 hQ34
    subst l34 y34 z34
    obtain ⟨⟨r34, rfl, hr34⟩, N34q, e34⟩ := hQ34
    have N34 := Fr.app N33 N34q
    obtain ⟨z35, hz35⟩ : ∃ z : Int32, z = if (vf &&& (1099511627775 : Int64)) < (vt &&& (1099511627775 : Int64)) then (if r30 < ((ve &&& (1099511627775 : Int64)) + (vt &&& (1099511627775 : Int64))) then (0 : Int32) else 1) else 1 := ⟨_, rfl⟩
    have seg35 : ∀ t, Steps p.tables e below (T34.setTop (mkF m 129 #[.val (.long vf), .second, .val (.long vt), .second, .val (.long ve), .second, .val (.long vl), .second, .val (.int vm), .val (.long (vf &&& (1099511627775 : Int64))), .second, .val (.long (vt &&& (1099511627775 : Int64))), .second, .val (.long (ve &&& (1099511627775 : Int64))), .second, .val (.long r30), .second, .val (.ref b31), .val (.int r34), .val (.int z35), .unset] [])) t → Steps p.tables e below (T34.setTop (mkF m 97 #[.val (.long vf), .second, .val (.long vt), .second, .val (.long ve), .second, .val (.long vl), .second, .val (.int vm), .val (.long (vf &&& (1099511627775 : Int64))), .second, .val (.long (vt &&& (1099511627775 : Int64))), .second, .val (.long (ve &&& (1099511627775 : Int64))), .second, .val (.long r30), .second, .val (.ref b31), .val (.int r34), .unset, .unset] [])) t := by
      intro t kt
      show Steps p.tables e below (T34.setTop (mkF m 97 #[.val (.long vf), .second, .val (.long vt), .second, .val (.long ve), .second, .val (.long vl), .second, .val (.int vm), .val (.long (vf &&& (1099511627775 : Int64))), .second, .val (.long (vt &&& (1099511627775 : Int64))), .second, .val (.long (ve &&& (1099511627775 : Int64))), .second, .val (.long r30), .second, .val (.ref b31), .val (.int r34), .unset, .unset] [])) _
      refine XS.lload X34.here hx rfl (hb hby at_97) rfl ?_
      show Steps p.tables e below (T34.setTop (mkF m 99 #[.val (.long vf), .second, .val (.long vt), .second, .val (.long ve), .second, .val (.long vl), .second, .val (.int vm), .val (.long (vf &&& (1099511627775 : Int64))), .second, .val (.long (vt &&& (1099511627775 : Int64))), .second, .val (.long (ve &&& (1099511627775 : Int64))), .second, .val (.long r30), .second, .val (.ref b31), .val (.int r34), .unset, .unset] [(.long (vt &&& (1099511627775 : Int64)))])) _
      refine XS.lload X34.here hx rfl (hb hby at_99) rfl ?_
      show Steps p.tables e below (T34.setTop (mkF m 101 #[.val (.long vf), .second, .val (.long vt), .second, .val (.long ve), .second, .val (.long vl), .second, .val (.int vm), .val (.long (vf &&& (1099511627775 : Int64))), .second, .val (.long (vt &&& (1099511627775 : Int64))), .second, .val (.long (ve &&& (1099511627775 : Int64))), .second, .val (.long r30), .second, .val (.ref b31), .val (.int r34), .unset, .unset] [(.long (vf &&& (1099511627775 : Int64))), (.long (vt &&& (1099511627775 : Int64)))])) _
      refine XS.lcmp X34.here hx rfl (hb hby at_101) rfl ?_
      show Steps p.tables e below (T34.setTop (mkF m 102 #[.val (.long vf), .second, .val (.long vt), .second, .val (.long ve), .second, .val (.long vl), .second, .val (.int vm), .val (.long (vf &&& (1099511627775 : Int64))), .second, .val (.long (vt &&& (1099511627775 : Int64))), .second, .val (.long (ve &&& (1099511627775 : Int64))), .second, .val (.long r30), .second, .val (.ref b31), .val (.int r34), .unset, .unset] [(.int (lcmpW (vt &&& (1099511627775 : Int64)) (vf &&& (1099511627775 : Int64))))])) _
      by_cases h102_36 : (vf &&& (1099511627775 : Int64)) < (vt &&& (1099511627775 : Int64))
      · refine XS.ifYes X34.here hx rfl (pc0 := 102) (pc' := 111) rfl (hb hby at_102) rfl ((if0 _ _).trans (tlt ((lw_gt _ _).mpr h102_36)).2.2.1) (by decide) (by decide) ?_
        show Steps p.tables e below (T34.setTop (mkF m 111 #[.val (.long vf), .second, .val (.long vt), .second, .val (.long ve), .second, .val (.long vl), .second, .val (.int vm), .val (.long (vf &&& (1099511627775 : Int64))), .second, .val (.long (vt &&& (1099511627775 : Int64))), .second, .val (.long (ve &&& (1099511627775 : Int64))), .second, .val (.long r30), .second, .val (.ref b31), .val (.int r34), .unset, .unset] [])) _
        refine XS.lload X34.here hx rfl (hb hby at_111) rfl ?_
        show Steps p.tables e below (T34.setTop (mkF m 113 #[.val (.long vf), .second, .val (.long vt), .second, .val (.long ve), .second, .val (.long vl), .second, .val (.int vm), .val (.long (vf &&& (1099511627775 : Int64))), .second, .val (.long (vt &&& (1099511627775 : Int64))), .second, .val (.long (ve &&& (1099511627775 : Int64))), .second, .val (.long r30), .second, .val (.ref b31), .val (.int r34), .unset, .unset] [(.long (ve &&& (1099511627775 : Int64)))])) _
        refine XS.lload X34.here hx rfl (hb hby at_113) rfl ?_
        show Steps p.tables e below (T34.setTop (mkF m 115 #[.val (.long vf), .second, .val (.long vt), .second, .val (.long ve), .second, .val (.long vl), .second, .val (.int vm), .val (.long (vf &&& (1099511627775 : Int64))), .second, .val (.long (vt &&& (1099511627775 : Int64))), .second, .val (.long (ve &&& (1099511627775 : Int64))), .second, .val (.long r30), .second, .val (.ref b31), .val (.int r34), .unset, .unset] [(.long (vt &&& (1099511627775 : Int64))), (.long (ve &&& (1099511627775 : Int64)))])) _
        refine XS.ladd X34.here hx rfl (hb hby at_115) rfl ?_
        show Steps p.tables e below (T34.setTop (mkF m 116 #[.val (.long vf), .second, .val (.long vt), .second, .val (.long ve), .second, .val (.long vl), .second, .val (.int vm), .val (.long (vf &&& (1099511627775 : Int64))), .second, .val (.long (vt &&& (1099511627775 : Int64))), .second, .val (.long (ve &&& (1099511627775 : Int64))), .second, .val (.long r30), .second, .val (.ref b31), .val (.int r34), .unset, .unset] [(.long ((ve &&& (1099511627775 : Int64)) + (vt &&& (1099511627775 : Int64))))])) _
        refine XS.lload X34.here hx rfl (hb hby at_116) rfl ?_
        show Steps p.tables e below (T34.setTop (mkF m 118 #[.val (.long vf), .second, .val (.long vt), .second, .val (.long ve), .second, .val (.long vl), .second, .val (.int vm), .val (.long (vf &&& (1099511627775 : Int64))), .second, .val (.long (vt &&& (1099511627775 : Int64))), .second, .val (.long (ve &&& (1099511627775 : Int64))), .second, .val (.long r30), .second, .val (.ref b31), .val (.int r34), .unset, .unset] [(.long r30), (.long ((ve &&& (1099511627775 : Int64)) + (vt &&& (1099511627775 : Int64))))])) _
        refine XS.lcmp X34.here hx rfl (hb hby at_118) rfl ?_
        show Steps p.tables e below (T34.setTop (mkF m 119 #[.val (.long vf), .second, .val (.long vt), .second, .val (.long ve), .second, .val (.long vl), .second, .val (.int vm), .val (.long (vf &&& (1099511627775 : Int64))), .second, .val (.long (vt &&& (1099511627775 : Int64))), .second, .val (.long (ve &&& (1099511627775 : Int64))), .second, .val (.long r30), .second, .val (.ref b31), .val (.int r34), .unset, .unset] [(.int (lcmpW ((ve &&& (1099511627775 : Int64)) + (vt &&& (1099511627775 : Int64))) r30))])) _
        by_cases h119_37 : r30 < ((ve &&& (1099511627775 : Int64)) + (vt &&& (1099511627775 : Int64)))
        · refine XS.ifYes X34.here hx rfl (pc0 := 119) (pc' := 126) rfl (hb hby at_119) rfl ((if0 _ _).trans (tlt ((lw_gt _ _).mpr h119_37)).2.2.1) (by decide) (by decide) ?_
          show Steps p.tables e below (T34.setTop (mkF m 126 #[.val (.long vf), .second, .val (.long vt), .second, .val (.long ve), .second, .val (.long vl), .second, .val (.int vm), .val (.long (vf &&& (1099511627775 : Int64))), .second, .val (.long (vt &&& (1099511627775 : Int64))), .second, .val (.long (ve &&& (1099511627775 : Int64))), .second, .val (.long r30), .second, .val (.ref b31), .val (.int r34), .unset, .unset] [])) _
          refine XS.iconst X34.here hx rfl (hb hby at_126) ?_
          show Steps p.tables e below (T34.setTop (mkF m 127 #[.val (.long vf), .second, .val (.long vt), .second, .val (.long ve), .second, .val (.long vl), .second, .val (.int vm), .val (.long (vf &&& (1099511627775 : Int64))), .second, .val (.long (vt &&& (1099511627775 : Int64))), .second, .val (.long (ve &&& (1099511627775 : Int64))), .second, .val (.long r30), .second, .val (.ref b31), .val (.int r34), .unset, .unset] [(.int (0 : Int32))])) _
          refine XS.istore X34.here hx rfl (hb hby at_127) rfl (l' := #[.val (.long vf), .second, .val (.long vt), .second, .val (.long ve), .second, .val (.long vl), .second, .val (.int vm), .val (.long (vf &&& (1099511627775 : Int64))), .second, .val (.long (vt &&& (1099511627775 : Int64))), .second, .val (.long (ve &&& (1099511627775 : Int64))), .second, .val (.long r30), .second, .val (.ref b31), .val (.int r34), .val (.int (0 : Int32)), .unset]) rfl ?_
          have qz35 : z35 = (0 : Int32) := hz35.trans (by simp [h26_18, h102_36, h119_37])
          rw [qz35] at kt
          exact kt
        · refine XS.ifNo X34.here hx rfl (hb hby at_119) rfl ((if0 _ _).trans (flt (fun q => h119_37 ((lw_gt _ _).mp q))).2.2.1) ?_
          show Steps p.tables e below (T34.setTop (mkF m 122 #[.val (.long vf), .second, .val (.long vt), .second, .val (.long ve), .second, .val (.long vl), .second, .val (.int vm), .val (.long (vf &&& (1099511627775 : Int64))), .second, .val (.long (vt &&& (1099511627775 : Int64))), .second, .val (.long (ve &&& (1099511627775 : Int64))), .second, .val (.long r30), .second, .val (.ref b31), .val (.int r34), .unset, .unset] [])) _
          refine XS.iconst X34.here hx rfl (hb hby at_122) ?_
          show Steps p.tables e below (T34.setTop (mkF m 123 #[.val (.long vf), .second, .val (.long vt), .second, .val (.long ve), .second, .val (.long vl), .second, .val (.int vm), .val (.long (vf &&& (1099511627775 : Int64))), .second, .val (.long (vt &&& (1099511627775 : Int64))), .second, .val (.long (ve &&& (1099511627775 : Int64))), .second, .val (.long r30), .second, .val (.ref b31), .val (.int r34), .unset, .unset] [(.int (1 : Int32))])) _
          refine XS.goto X34.here hx rfl (pc0 := 123) (pc' := 127) rfl (hb hby at_123) (by decide) (by decide) ?_
          show Steps p.tables e below (T34.setTop (mkF m 127 #[.val (.long vf), .second, .val (.long vt), .second, .val (.long ve), .second, .val (.long vl), .second, .val (.int vm), .val (.long (vf &&& (1099511627775 : Int64))), .second, .val (.long (vt &&& (1099511627775 : Int64))), .second, .val (.long (ve &&& (1099511627775 : Int64))), .second, .val (.long r30), .second, .val (.ref b31), .val (.int r34), .unset, .unset] [(.int (1 : Int32))])) _
          refine XS.istore X34.here hx rfl (hb hby at_127) rfl (l' := #[.val (.long vf), .second, .val (.long vt), .second, .val (.long ve), .second, .val (.long vl), .second, .val (.int vm), .val (.long (vf &&& (1099511627775 : Int64))), .second, .val (.long (vt &&& (1099511627775 : Int64))), .second, .val (.long (ve &&& (1099511627775 : Int64))), .second, .val (.long r30), .second, .val (.ref b31), .val (.int r34), .val (.int (1 : Int32)), .unset]) rfl ?_
          have qz35 : z35 = (1 : Int32) := hz35.trans (by simp [h26_18, h102_36, h119_37])
          rw [qz35] at kt
          exact kt
      · refine XS.ifNo X34.here hx rfl (hb hby at_102) rfl ((if0 _ _).trans (flt (fun q => h102_36 ((lw_gt _ _).mp q))).2.2.1) ?_
        show Steps p.tables e below (T34.setTop (mkF m 105 #[.val (.long vf), .second, .val (.long vt), .second, .val (.long ve), .second, .val (.long vl), .second, .val (.int vm), .val (.long (vf &&& (1099511627775 : Int64))), .second, .val (.long (vt &&& (1099511627775 : Int64))), .second, .val (.long (ve &&& (1099511627775 : Int64))), .second, .val (.long r30), .second, .val (.ref b31), .val (.int r34), .unset, .unset] [])) _
        refine XS.iconst X34.here hx rfl (hb hby at_105) ?_
        show Steps p.tables e below (T34.setTop (mkF m 106 #[.val (.long vf), .second, .val (.long vt), .second, .val (.long ve), .second, .val (.long vl), .second, .val (.int vm), .val (.long (vf &&& (1099511627775 : Int64))), .second, .val (.long (vt &&& (1099511627775 : Int64))), .second, .val (.long (ve &&& (1099511627775 : Int64))), .second, .val (.long r30), .second, .val (.ref b31), .val (.int r34), .unset, .unset] [(.int (1 : Int32))])) _
        refine XS.istore X34.here hx rfl (hb hby at_106) rfl (l' := #[.val (.long vf), .second, .val (.long vt), .second, .val (.long ve), .second, .val (.long vl), .second, .val (.int vm), .val (.long (vf &&& (1099511627775 : Int64))), .second, .val (.long (vt &&& (1099511627775 : Int64))), .second, .val (.long (ve &&& (1099511627775 : Int64))), .second, .val (.long r30), .second, .val (.ref b31), .val (.int r34), .val (.int (1 : Int32)), .unset]) rfl ?_
        show Steps p.tables e below (T34.setTop (mkF m 108 #[.val (.long vf), .second, .val (.long vt), .second, .val (.long ve), .second, .val (.long vl), .second, .val (.int vm), .val (.long (vf &&& (1099511627775 : Int64))), .second, .val (.long (vt &&& (1099511627775 : Int64))), .second, .val (.long (ve &&& (1099511627775 : Int64))), .second, .val (.long r30), .second, .val (.ref b31), .val (.int r34), .val (.int (1 : Int32)), .unset] [])) _
        refine XS.goto X34.here hx rfl (pc0 := 108) (pc' := 129) rfl (hb hby at_108) (by decide) (by decide) ?_
        have qz35 : z35 = (1 : Int32) := hz35.trans (by simp [h26_18, h102_36])
        rw [qz35] at kt
        exact kt
    obtain ⟨cq38, kq38, q38a, q38b, q38c⟩ := isOf hZ e34 Ex_b31_33
    obtain ⟨_, _, ⟨T38, L38, k38, n38⟩, -, X38, ⟨Lc38, hQ38, l38, y38, z38⟩, st38⟩ := X34.virtualBack hx (y := (⟨"dev/leasehold/server/ValueMemory", "addOlder", "(J)V"⟩ : MethodName)) (z := (⟨"dev/leasehold/server/ValueMemory", "addOlder", "(J)V"⟩ : MethodName)) hown (mvT hZ (hw _ (List.mem_of_getElem? (i := 29) rfl))) (mvT hZ (hw _ (List.mem_of_getElem? (i := 30) rfl))) (notFace_of_selects (args := #[]) (mvT hZ (hw _ (List.mem_of_getElem? (i := 32) rfl)))) (mvT hZ (hw _ (List.mem_of_getElem? (i := 32) rfl))) (mvT hZ (hw _ (List.mem_of_getElem? (i := 31) rfl))) (by decide) (backOf (W := 0) (rm_add l Z a0 hw [] b31 (1 : Int64) r30 ((0 : Int64) + (((vf &&& (1099511627775 : Int64)) + (ve &&& (1099511627775 : Int64))) - (0 : Int64))) (0 : Int64) T33.heap n0 Z33 Ex_b31_33 Fq_limit_33 Fq_latest_33 Fq_older_33 g_b31) hZ (hw _ (List.mem_of_getElem? (i := 33) rfl)) (hw _ (List.mem_of_getElem? (i := 8) rfl)) (by decide) (by decide)) q38a q38c (g := (mkF m 132 #[.val (.long vf), .second, .val (.long vt), .second, .val (.long ve), .second, .val (.long vl), .second, .val (.int vm), .val (.long (vf &&& (1099511627775 : Int64))), .second, .val (.long (vt &&& (1099511627775 : Int64))), .second, .val (.long (ve &&& (1099511627775 : Int64))), .second, .val (.long r30), .second, .val (.ref b31), .val (.int r34), .val (.int z35), .unset] [(.long (1 : Int64)), (.ref b31)])) rfl (by rw [hml]; rfl) (Steps.refl _) (argsL := [(.long (1 : Int64))]) (rest := []) (lenOf pd_0 rfl) rfl (by show 2 * 0 + _ ≤ _; exact Nat.le_of_eq rfl) (hb hby at_132) (fun _ _ => ⟨rfl, e34, (by decide : 1 + 0 ≤ _), (by decide : 3 + 0 ≤ _)⟩)
    dsimp only [Pt.U, Pt.locs, Pt.cells, Pt.slots] at X38 l38 y38 z38 st38 hQ38
    subst l38 y38 z38
    obtain ⟨rfl, N38q, K38, Fq_limit_38, Fq_latest_38, Fq_older_38⟩ := hQ38
    have N38 := Fr.app N34 N38q
    have Ex_b31_38 := Ex_b31_33.keep K38
    have Z38 : n0 ≤ T38.heap.size := Nat.le_trans Z33 K38.1
    obtain ⟨cq39, kq39, q39a, q39b, q39c⟩ := isOf hZ rfl Ex_b31_38
    obtain ⟨_, _, ⟨T39, L39, k39, n39⟩, -, X39, ⟨Lc39, hQ39, l39, y39, z39⟩, st39⟩ := X38.virtualBack hx (y := (⟨"dev/leasehold/server/ValueMemory", "olderOverflow", "()Z"⟩ : MethodName)) (z := (⟨"dev/leasehold/server/ValueMemory", "olderOverflow", "()Z"⟩ : MethodName)) hown (mvT hZ (hw _ (List.mem_of_getElem? (i := 36) rfl))) (mvT hZ (hw _ (List.mem_of_getElem? (i := 37) rfl))) (notFace_of_selects (args := #[]) (mvT hZ (hw _ (List.mem_of_getElem? (i := 39) rfl)))) (mvT hZ (hw _ (List.mem_of_getElem? (i := 39) rfl))) (mvT hZ (hw _ (List.mem_of_getElem? (i := 38) rfl))) (by decide) (backOf (W := 0) (rm_ovf l Z a0 hw [] b31 r30 ((0 : Int64) + (((vf &&& (1099511627775 : Int64)) + (ve &&& (1099511627775 : Int64))) - (0 : Int64))) ((0 : Int64) + (1 : Int64)) T38.heap n0 Z38 Ex_b31_38 Fq_limit_38 Fq_latest_38 Fq_older_38) hZ (hw _ (List.mem_of_getElem? (i := 40) rfl)) (hw _ (List.mem_of_getElem? (i := 8) rfl)) (by decide) (by decide)) q39a q39c (g := (mkF m 137 #[.val (.long vf), .second, .val (.long vt), .second, .val (.long ve), .second, .val (.long vl), .second, .val (.int vm), .val (.long (vf &&& (1099511627775 : Int64))), .second, .val (.long (vt &&& (1099511627775 : Int64))), .second, .val (.long (ve &&& (1099511627775 : Int64))), .second, .val (.long r30), .second, .val (.ref b31), .val (.int r34), .val (.int z35), .unset] [(.ref b31)])) rfl (by rw [hml]; rfl) (Steps.refl _) (argsL := []) (rest := []) (lenOf pd_3 rfl) rfl (by show 2 * 0 + _ ≤ _; exact Nat.le_of_eq rfl) (hb hby at_137) (fun _ _ => ⟨rfl, rfl, (by decide : 1 + 0 ≤ _), (by decide : 3 + 0 ≤ _)⟩)
    dsimp only [Pt.U, Pt.locs, Pt.cells, Pt.slots] at X39 l39 y39 z39 st39 hQ39
    subst l39 y39 z39
    obtain ⟨⟨r39, rfl, hr39⟩, N39q, e39⟩ := hQ39
    have N39 := Fr.app N38 N39q
    obtain ⟨z40, hz40⟩ : ∃ z : Int32, z = if r30 < (((vf &&& (1099511627775 : Int64)) + (ve &&& (1099511627775 : Int64))) + (1 : Int64)) then (1 : Int32) else 0 := ⟨_, rfl⟩
    have seg40 : ∀ t, Steps p.tables e below (T39.setTop (mkF m 158 #[.val (.long vf), .second, .val (.long vt), .second, .val (.long ve), .second, .val (.long vl), .second, .val (.int vm), .val (.long (vf &&& (1099511627775 : Int64))), .second, .val (.long (vt &&& (1099511627775 : Int64))), .second, .val (.long (ve &&& (1099511627775 : Int64))), .second, .val (.long r30), .second, .val (.ref b31), .val (.int r34), .val (.int z35), .unset] [(.int z40), (.int r39)])) t → Steps p.tables e below (T39.setTop (mkF m 140 #[.val (.long vf), .second, .val (.long vt), .second, .val (.long ve), .second, .val (.long vl), .second, .val (.int vm), .val (.long (vf &&& (1099511627775 : Int64))), .second, .val (.long (vt &&& (1099511627775 : Int64))), .second, .val (.long (ve &&& (1099511627775 : Int64))), .second, .val (.long r30), .second, .val (.ref b31), .val (.int r34), .val (.int z35), .unset] [(.int r39)])) t := by
      intro t kt
      show Steps p.tables e below (T39.setTop (mkF m 140 #[.val (.long vf), .second, .val (.long vt), .second, .val (.long ve), .second, .val (.long vl), .second, .val (.int vm), .val (.long (vf &&& (1099511627775 : Int64))), .second, .val (.long (vt &&& (1099511627775 : Int64))), .second, .val (.long (ve &&& (1099511627775 : Int64))), .second, .val (.long r30), .second, .val (.ref b31), .val (.int r34), .val (.int z35), .unset] [(.int r39)])) _
      refine XS.lload X39.here hx rfl (hb hby at_140) rfl ?_
      show Steps p.tables e below (T39.setTop (mkF m 142 #[.val (.long vf), .second, .val (.long vt), .second, .val (.long ve), .second, .val (.long vl), .second, .val (.int vm), .val (.long (vf &&& (1099511627775 : Int64))), .second, .val (.long (vt &&& (1099511627775 : Int64))), .second, .val (.long (ve &&& (1099511627775 : Int64))), .second, .val (.long r30), .second, .val (.ref b31), .val (.int r34), .val (.int z35), .unset] [(.long (vf &&& (1099511627775 : Int64))), (.int r39)])) _
      refine XS.lload X39.here hx rfl (hb hby at_142) rfl ?_
      show Steps p.tables e below (T39.setTop (mkF m 144 #[.val (.long vf), .second, .val (.long vt), .second, .val (.long ve), .second, .val (.long vl), .second, .val (.int vm), .val (.long (vf &&& (1099511627775 : Int64))), .second, .val (.long (vt &&& (1099511627775 : Int64))), .second, .val (.long (ve &&& (1099511627775 : Int64))), .second, .val (.long r30), .second, .val (.ref b31), .val (.int r34), .val (.int z35), .unset] [(.long (ve &&& (1099511627775 : Int64))), (.long (vf &&& (1099511627775 : Int64))), (.int r39)])) _
      refine XS.ladd X39.here hx rfl (hb hby at_144) rfl ?_
      show Steps p.tables e below (T39.setTop (mkF m 145 #[.val (.long vf), .second, .val (.long vt), .second, .val (.long ve), .second, .val (.long vl), .second, .val (.int vm), .val (.long (vf &&& (1099511627775 : Int64))), .second, .val (.long (vt &&& (1099511627775 : Int64))), .second, .val (.long (ve &&& (1099511627775 : Int64))), .second, .val (.long r30), .second, .val (.ref b31), .val (.int r34), .val (.int z35), .unset] [(.long ((vf &&& (1099511627775 : Int64)) + (ve &&& (1099511627775 : Int64)))), (.int r39)])) _
      refine XS.lconst X39.here hx rfl (hb hby at_145) ?_
      show Steps p.tables e below (T39.setTop (mkF m 146 #[.val (.long vf), .second, .val (.long vt), .second, .val (.long ve), .second, .val (.long vl), .second, .val (.int vm), .val (.long (vf &&& (1099511627775 : Int64))), .second, .val (.long (vt &&& (1099511627775 : Int64))), .second, .val (.long (ve &&& (1099511627775 : Int64))), .second, .val (.long r30), .second, .val (.ref b31), .val (.int r34), .val (.int z35), .unset] [(.long (1 : Int64)), (.long ((vf &&& (1099511627775 : Int64)) + (ve &&& (1099511627775 : Int64)))), (.int r39)])) _
      refine XS.ladd X39.here hx rfl (hb hby at_146) rfl ?_
      show Steps p.tables e below (T39.setTop (mkF m 147 #[.val (.long vf), .second, .val (.long vt), .second, .val (.long ve), .second, .val (.long vl), .second, .val (.int vm), .val (.long (vf &&& (1099511627775 : Int64))), .second, .val (.long (vt &&& (1099511627775 : Int64))), .second, .val (.long (ve &&& (1099511627775 : Int64))), .second, .val (.long r30), .second, .val (.ref b31), .val (.int r34), .val (.int z35), .unset] [(.long (((vf &&& (1099511627775 : Int64)) + (ve &&& (1099511627775 : Int64))) + (1 : Int64))), (.int r39)])) _
      refine XS.lload X39.here hx rfl (hb hby at_147) rfl ?_
      show Steps p.tables e below (T39.setTop (mkF m 149 #[.val (.long vf), .second, .val (.long vt), .second, .val (.long ve), .second, .val (.long vl), .second, .val (.int vm), .val (.long (vf &&& (1099511627775 : Int64))), .second, .val (.long (vt &&& (1099511627775 : Int64))), .second, .val (.long (ve &&& (1099511627775 : Int64))), .second, .val (.long r30), .second, .val (.ref b31), .val (.int r34), .val (.int z35), .unset] [(.long r30), (.long (((vf &&& (1099511627775 : Int64)) + (ve &&& (1099511627775 : Int64))) + (1 : Int64))), (.int r39)])) _
      refine XS.lcmp X39.here hx rfl (hb hby at_149) rfl ?_
      show Steps p.tables e below (T39.setTop (mkF m 150 #[.val (.long vf), .second, .val (.long vt), .second, .val (.long ve), .second, .val (.long vl), .second, .val (.int vm), .val (.long (vf &&& (1099511627775 : Int64))), .second, .val (.long (vt &&& (1099511627775 : Int64))), .second, .val (.long (ve &&& (1099511627775 : Int64))), .second, .val (.long r30), .second, .val (.ref b31), .val (.int r34), .val (.int z35), .unset] [(.int (lcmpW (((vf &&& (1099511627775 : Int64)) + (ve &&& (1099511627775 : Int64))) + (1 : Int64)) r30)), (.int r39)])) _
      by_cases h150_41 : r30 < (((vf &&& (1099511627775 : Int64)) + (ve &&& (1099511627775 : Int64))) + (1 : Int64))
      · refine XS.ifNo X39.here hx rfl (hb hby at_150) rfl ((if0 _ _).trans (tlt ((lw_gt _ _).mpr h150_41)).2.2.2) ?_
        show Steps p.tables e below (T39.setTop (mkF m 153 #[.val (.long vf), .second, .val (.long vt), .second, .val (.long ve), .second, .val (.long vl), .second, .val (.int vm), .val (.long (vf &&& (1099511627775 : Int64))), .second, .val (.long (vt &&& (1099511627775 : Int64))), .second, .val (.long (ve &&& (1099511627775 : Int64))), .second, .val (.long r30), .second, .val (.ref b31), .val (.int r34), .val (.int z35), .unset] [(.int r39)])) _
        refine XS.iconst X39.here hx rfl (hb hby at_153) ?_
        show Steps p.tables e below (T39.setTop (mkF m 154 #[.val (.long vf), .second, .val (.long vt), .second, .val (.long ve), .second, .val (.long vl), .second, .val (.int vm), .val (.long (vf &&& (1099511627775 : Int64))), .second, .val (.long (vt &&& (1099511627775 : Int64))), .second, .val (.long (ve &&& (1099511627775 : Int64))), .second, .val (.long r30), .second, .val (.ref b31), .val (.int r34), .val (.int z35), .unset] [(.int (1 : Int32)), (.int r39)])) _
        refine XS.goto X39.here hx rfl (pc0 := 154) (pc' := 158) rfl (hb hby at_154) (by decide) (by decide) ?_
        have qz40 : z40 = (1 : Int32) := hz40.trans (by simp [h26_18, h150_41])
        rw [qz40] at kt
        exact kt
      · refine XS.ifYes X39.here hx rfl (pc0 := 150) (pc' := 157) rfl (hb hby at_150) rfl ((if0 _ _).trans (flt (fun q => h150_41 ((lw_gt _ _).mp q))).2.2.2) (by decide) (by decide) ?_
        show Steps p.tables e below (T39.setTop (mkF m 157 #[.val (.long vf), .second, .val (.long vt), .second, .val (.long ve), .second, .val (.long vl), .second, .val (.int vm), .val (.long (vf &&& (1099511627775 : Int64))), .second, .val (.long (vt &&& (1099511627775 : Int64))), .second, .val (.long (ve &&& (1099511627775 : Int64))), .second, .val (.long r30), .second, .val (.ref b31), .val (.int r34), .val (.int z35), .unset] [(.int r39)])) _
        refine XS.iconst X39.here hx rfl (hb hby at_157) ?_
        have qz40 : z40 = (0 : Int32) := hz40.trans (by simp [h26_18, h150_41])
        rw [qz40] at kt
        exact kt
    obtain ⟨fs, hr, hrun, hended, hW, hsame⟩ := X39.leave (v := some (.int (1 : Int32))) (fun h => by rw [Bd.returns] at h; cases h)
    refine ⟨_, _, pre0 _ ?_, hrun, hended, _, _, rfl, ?_, ⟨_, rfl⟩, hW, hsame.mono (by decide) (by decide)⟩
    · show Steps p.tables e below (s₁.setTop (mkF m 0 #[.val (.long vf), .second, .val (.long vt), .second, .val (.long ve), .second, .val (.long vl), .second, .val (.int vm), .unset, .unset, .unset, .unset, .unset, .unset, .unset, .unset, .unset, .unset, .unset, .unset] [])) _
      refine XS.lloadN X0.here hx rfl (hb hby at_0) rfl ?_
      show Steps p.tables e below (s₁.setTop (mkF m 1 #[.val (.long vf), .second, .val (.long vt), .second, .val (.long ve), .second, .val (.long vl), .second, .val (.int vm), .unset, .unset, .unset, .unset, .unset, .unset, .unset, .unset, .unset, .unset, .unset, .unset] [(.long vf)])) _
      refine X0.ldc2Long hx hown (mvT hZ (hw _ (List.mem_of_getElem? (i := 0) rfl))) (g := (mkF m 1 #[.val (.long vf), .second, .val (.long vt), .second, .val (.long ve), .second, .val (.long vl), .second, .val (.int vm), .unset, .unset, .unset, .unset, .unset, .unset, .unset, .unset, .unset, .unset, .unset, .unset] [(.long vf)])) rfl (hb hby at_1) _ ?_
      show Steps p.tables e below (s₁.setTop (mkF m 4 #[.val (.long vf), .second, .val (.long vt), .second, .val (.long ve), .second, .val (.long vl), .second, .val (.int vm), .unset, .unset, .unset, .unset, .unset, .unset, .unset, .unset, .unset, .unset, .unset, .unset] [(.long (1099511627775 : Int64)), (.long vf)])) _
      refine XS.land X0.here hx rfl (hb hby at_4) rfl ?_
      show Steps p.tables e below (s₁.setTop (mkF m 5 #[.val (.long vf), .second, .val (.long vt), .second, .val (.long ve), .second, .val (.long vl), .second, .val (.int vm), .unset, .unset, .unset, .unset, .unset, .unset, .unset, .unset, .unset, .unset, .unset, .unset] [(.long (vf &&& (1099511627775 : Int64)))])) _
      refine XS.lstore X0.here hx rfl (hb hby at_5) rfl (l' := #[.val (.long vf), .second, .val (.long vt), .second, .val (.long ve), .second, .val (.long vl), .second, .val (.int vm), .val (.long (vf &&& (1099511627775 : Int64))), .second, .unset, .unset, .unset, .unset, .unset, .unset, .unset, .unset, .unset, .unset]) rfl ?_
      show Steps p.tables e below (s₁.setTop (mkF m 7 #[.val (.long vf), .second, .val (.long vt), .second, .val (.long ve), .second, .val (.long vl), .second, .val (.int vm), .val (.long (vf &&& (1099511627775 : Int64))), .second, .unset, .unset, .unset, .unset, .unset, .unset, .unset, .unset, .unset, .unset] [])) _
      refine XS.lloadN X0.here hx rfl (hb hby at_7) rfl ?_
      show Steps p.tables e below (s₁.setTop (mkF m 8 #[.val (.long vf), .second, .val (.long vt), .second, .val (.long ve), .second, .val (.long vl), .second, .val (.int vm), .val (.long (vf &&& (1099511627775 : Int64))), .second, .unset, .unset, .unset, .unset, .unset, .unset, .unset, .unset, .unset, .unset] [(.long vt)])) _
      refine X0.ldc2Long hx hown (mvT hZ (hw _ (List.mem_of_getElem? (i := 0) rfl))) (g := (mkF m 8 #[.val (.long vf), .second, .val (.long vt), .second, .val (.long ve), .second, .val (.long vl), .second, .val (.int vm), .val (.long (vf &&& (1099511627775 : Int64))), .second, .unset, .unset, .unset, .unset, .unset, .unset, .unset, .unset, .unset, .unset] [(.long vt)])) rfl (hb hby at_8) _ ?_
      show Steps p.tables e below (s₁.setTop (mkF m 11 #[.val (.long vf), .second, .val (.long vt), .second, .val (.long ve), .second, .val (.long vl), .second, .val (.int vm), .val (.long (vf &&& (1099511627775 : Int64))), .second, .unset, .unset, .unset, .unset, .unset, .unset, .unset, .unset, .unset, .unset] [(.long (1099511627775 : Int64)), (.long vt)])) _
      refine XS.land X0.here hx rfl (hb hby at_11) rfl ?_
      show Steps p.tables e below (s₁.setTop (mkF m 12 #[.val (.long vf), .second, .val (.long vt), .second, .val (.long ve), .second, .val (.long vl), .second, .val (.int vm), .val (.long (vf &&& (1099511627775 : Int64))), .second, .unset, .unset, .unset, .unset, .unset, .unset, .unset, .unset, .unset, .unset] [(.long (vt &&& (1099511627775 : Int64)))])) _
      refine XS.lstore X0.here hx rfl (hb hby at_12) rfl (l' := #[.val (.long vf), .second, .val (.long vt), .second, .val (.long ve), .second, .val (.long vl), .second, .val (.int vm), .val (.long (vf &&& (1099511627775 : Int64))), .second, .val (.long (vt &&& (1099511627775 : Int64))), .second, .unset, .unset, .unset, .unset, .unset, .unset, .unset, .unset]) rfl ?_
      show Steps p.tables e below (s₁.setTop (mkF m 14 #[.val (.long vf), .second, .val (.long vt), .second, .val (.long ve), .second, .val (.long vl), .second, .val (.int vm), .val (.long (vf &&& (1099511627775 : Int64))), .second, .val (.long (vt &&& (1099511627775 : Int64))), .second, .unset, .unset, .unset, .unset, .unset, .unset, .unset, .unset] [])) _
      refine XS.lload X0.here hx rfl (hb hby at_14) rfl ?_
      show Steps p.tables e below (s₁.setTop (mkF m 16 #[.val (.long vf), .second, .val (.long vt), .second, .val (.long ve), .second, .val (.long vl), .second, .val (.int vm), .val (.long (vf &&& (1099511627775 : Int64))), .second, .val (.long (vt &&& (1099511627775 : Int64))), .second, .unset, .unset, .unset, .unset, .unset, .unset, .unset, .unset] [(.long ve)])) _
      refine X0.ldc2Long hx hown (mvT hZ (hw _ (List.mem_of_getElem? (i := 0) rfl))) (g := (mkF m 16 #[.val (.long vf), .second, .val (.long vt), .second, .val (.long ve), .second, .val (.long vl), .second, .val (.int vm), .val (.long (vf &&& (1099511627775 : Int64))), .second, .val (.long (vt &&& (1099511627775 : Int64))), .second, .unset, .unset, .unset, .unset, .unset, .unset, .unset, .unset] [(.long ve)])) rfl (hb hby at_16) _ ?_
      show Steps p.tables e below (s₁.setTop (mkF m 19 #[.val (.long vf), .second, .val (.long vt), .second, .val (.long ve), .second, .val (.long vl), .second, .val (.int vm), .val (.long (vf &&& (1099511627775 : Int64))), .second, .val (.long (vt &&& (1099511627775 : Int64))), .second, .unset, .unset, .unset, .unset, .unset, .unset, .unset, .unset] [(.long (1099511627775 : Int64)), (.long ve)])) _
      refine XS.land X0.here hx rfl (hb hby at_19) rfl ?_
      show Steps p.tables e below (s₁.setTop (mkF m 20 #[.val (.long vf), .second, .val (.long vt), .second, .val (.long ve), .second, .val (.long vl), .second, .val (.int vm), .val (.long (vf &&& (1099511627775 : Int64))), .second, .val (.long (vt &&& (1099511627775 : Int64))), .second, .unset, .unset, .unset, .unset, .unset, .unset, .unset, .unset] [(.long (ve &&& (1099511627775 : Int64)))])) _
      refine XS.lstore X0.here hx rfl (hb hby at_20) rfl (l' := #[.val (.long vf), .second, .val (.long vt), .second, .val (.long ve), .second, .val (.long vl), .second, .val (.int vm), .val (.long (vf &&& (1099511627775 : Int64))), .second, .val (.long (vt &&& (1099511627775 : Int64))), .second, .val (.long (ve &&& (1099511627775 : Int64))), .second, .unset, .unset, .unset, .unset, .unset, .unset]) rfl ?_
      show Steps p.tables e below (s₁.setTop (mkF m 22 #[.val (.long vf), .second, .val (.long vt), .second, .val (.long ve), .second, .val (.long vl), .second, .val (.int vm), .val (.long (vf &&& (1099511627775 : Int64))), .second, .val (.long (vt &&& (1099511627775 : Int64))), .second, .val (.long (ve &&& (1099511627775 : Int64))), .second, .unset, .unset, .unset, .unset, .unset, .unset] [])) _
      refine XS.iload X0.here hx rfl (hb hby at_22) rfl ?_
      show Steps p.tables e below (s₁.setTop (mkF m 24 #[.val (.long vf), .second, .val (.long vt), .second, .val (.long ve), .second, .val (.long vl), .second, .val (.int vm), .val (.long (vf &&& (1099511627775 : Int64))), .second, .val (.long (vt &&& (1099511627775 : Int64))), .second, .val (.long (ve &&& (1099511627775 : Int64))), .second, .unset, .unset, .unset, .unset, .unset, .unset] [(.int vm)])) _
      refine XS.iconst X0.here hx rfl (hb hby at_24) ?_
      show Steps p.tables e below (s₁.setTop (mkF m 25 #[.val (.long vf), .second, .val (.long vt), .second, .val (.long ve), .second, .val (.long vl), .second, .val (.int vm), .val (.long (vf &&& (1099511627775 : Int64))), .second, .val (.long (vt &&& (1099511627775 : Int64))), .second, .val (.long (ve &&& (1099511627775 : Int64))), .second, .unset, .unset, .unset, .unset, .unset, .unset] [(.int (1 : Int32)), (.int vm)])) _
      refine XS.iand X0.here hx rfl (hb hby at_25) rfl ?_
      show Steps p.tables e below (s₁.setTop (mkF m 26 #[.val (.long vf), .second, .val (.long vt), .second, .val (.long ve), .second, .val (.long vl), .second, .val (.int vm), .val (.long (vf &&& (1099511627775 : Int64))), .second, .val (.long (vt &&& (1099511627775 : Int64))), .second, .val (.long (ve &&& (1099511627775 : Int64))), .second, .unset, .unset, .unset, .unset, .unset, .unset] [(.int (vm &&& (1 : Int32)))])) _
      refine XS.ifNo X0.here hx rfl (hb hby at_26) rfl ((if0 _ _).trans (feq h26_18).1) ?_
      show Steps p.tables e below (s₁.setTop (mkF m 29 #[.val (.long vf), .second, .val (.long vt), .second, .val (.long ve), .second, .val (.long vl), .second, .val (.int vm), .val (.long (vf &&& (1099511627775 : Int64))), .second, .val (.long (vt &&& (1099511627775 : Int64))), .second, .val (.long (ve &&& (1099511627775 : Int64))), .second, .unset, .unset, .unset, .unset, .unset, .unset] [])) _
      refine XS.lconst X0.here hx rfl (hb hby at_29) ?_
      show Steps p.tables e below (s₁.setTop (mkF m 30 #[.val (.long vf), .second, .val (.long vt), .second, .val (.long ve), .second, .val (.long vl), .second, .val (.int vm), .val (.long (vf &&& (1099511627775 : Int64))), .second, .val (.long (vt &&& (1099511627775 : Int64))), .second, .val (.long (ve &&& (1099511627775 : Int64))), .second, .unset, .unset, .unset, .unset, .unset, .unset] [(.long (0 : Int64))])) _
      refine XS.lload X0.here hx rfl (hb hby at_30) rfl ?_
      show Steps p.tables e below (s₁.setTop (mkF m 32 #[.val (.long vf), .second, .val (.long vt), .second, .val (.long ve), .second, .val (.long vl), .second, .val (.int vm), .val (.long (vf &&& (1099511627775 : Int64))), .second, .val (.long (vt &&& (1099511627775 : Int64))), .second, .val (.long (ve &&& (1099511627775 : Int64))), .second, .unset, .unset, .unset, .unset, .unset, .unset] [(.long (ve &&& (1099511627775 : Int64))), (.long (0 : Int64))])) _
      refine XS.lload X0.here hx rfl (hb hby at_32) rfl ?_
      show Steps p.tables e below (s₁.setTop (mkF m 34 #[.val (.long vf), .second, .val (.long vt), .second, .val (.long ve), .second, .val (.long vl), .second, .val (.int vm), .val (.long (vf &&& (1099511627775 : Int64))), .second, .val (.long (vt &&& (1099511627775 : Int64))), .second, .val (.long (ve &&& (1099511627775 : Int64))), .second, .unset, .unset, .unset, .unset, .unset, .unset] [(.long (vt &&& (1099511627775 : Int64))), (.long (ve &&& (1099511627775 : Int64))), (.long (0 : Int64))])) _
      refine XS.ladd X0.here hx rfl (hb hby at_34) rfl ?_
      show Steps p.tables e below (s₁.setTop (mkF m 35 #[.val (.long vf), .second, .val (.long vt), .second, .val (.long ve), .second, .val (.long vl), .second, .val (.int vm), .val (.long (vf &&& (1099511627775 : Int64))), .second, .val (.long (vt &&& (1099511627775 : Int64))), .second, .val (.long (ve &&& (1099511627775 : Int64))), .second, .unset, .unset, .unset, .unset, .unset, .unset] [(.long ((ve &&& (1099511627775 : Int64)) + (vt &&& (1099511627775 : Int64)))), (.long (0 : Int64))])) _
      refine XS.iload X0.here hx rfl (hb hby at_35) rfl ?_
      show Steps p.tables e below (s₁.setTop (mkF m 37 #[.val (.long vf), .second, .val (.long vt), .second, .val (.long ve), .second, .val (.long vl), .second, .val (.int vm), .val (.long (vf &&& (1099511627775 : Int64))), .second, .val (.long (vt &&& (1099511627775 : Int64))), .second, .val (.long (ve &&& (1099511627775 : Int64))), .second, .unset, .unset, .unset, .unset, .unset, .unset] [(.int vm), (.long ((ve &&& (1099511627775 : Int64)) + (vt &&& (1099511627775 : Int64)))), (.long (0 : Int64))])) _
      refine XS.iconst X0.here hx rfl (hb hby at_37) ?_
      show Steps p.tables e below (s₁.setTop (mkF m 38 #[.val (.long vf), .second, .val (.long vt), .second, .val (.long ve), .second, .val (.long vl), .second, .val (.int vm), .val (.long (vf &&& (1099511627775 : Int64))), .second, .val (.long (vt &&& (1099511627775 : Int64))), .second, .val (.long (ve &&& (1099511627775 : Int64))), .second, .unset, .unset, .unset, .unset, .unset, .unset] [(.int (1 : Int32)), (.int vm), (.long ((ve &&& (1099511627775 : Int64)) + (vt &&& (1099511627775 : Int64)))), (.long (0 : Int64))])) _
      refine XS.ishr X0.here hx rfl (hb hby at_38) rfl ?_
      show Steps p.tables e below (s₁.setTop (mkF m 39 #[.val (.long vf), .second, .val (.long vt), .second, .val (.long ve), .second, .val (.long vl), .second, .val (.int vm), .val (.long (vf &&& (1099511627775 : Int64))), .second, .val (.long (vt &&& (1099511627775 : Int64))), .second, .val (.long (ve &&& (1099511627775 : Int64))), .second, .unset, .unset, .unset, .unset, .unset, .unset] [(.int (vm >>> ((1 : Int32) &&& 31))), (.long ((ve &&& (1099511627775 : Int64)) + (vt &&& (1099511627775 : Int64)))), (.long (0 : Int64))])) _
      refine XS.bipush X0.here hx rfl (hb hby at_39) ?_
      show Steps p.tables e below (s₁.setTop (mkF m 41 #[.val (.long vf), .second, .val (.long vt), .second, .val (.long ve), .second, .val (.long vl), .second, .val (.int vm), .val (.long (vf &&& (1099511627775 : Int64))), .second, .val (.long (vt &&& (1099511627775 : Int64))), .second, .val (.long (ve &&& (1099511627775 : Int64))), .second, .unset, .unset, .unset, .unset, .unset, .unset] [(.int (7 : Int32)), (.int (vm >>> ((1 : Int32) &&& 31))), (.long ((ve &&& (1099511627775 : Int64)) + (vt &&& (1099511627775 : Int64)))), (.long (0 : Int64))])) _
      refine XS.iand X0.here hx rfl (hb hby at_41) rfl ?_
      show Steps p.tables e below (s₁.setTop (mkF m 42 #[.val (.long vf), .second, .val (.long vt), .second, .val (.long ve), .second, .val (.long vl), .second, .val (.int vm), .val (.long (vf &&& (1099511627775 : Int64))), .second, .val (.long (vt &&& (1099511627775 : Int64))), .second, .val (.long (ve &&& (1099511627775 : Int64))), .second, .unset, .unset, .unset, .unset, .unset, .unset] [(.int ((vm >>> ((1 : Int32) &&& 31)) &&& (7 : Int32))), (.long ((ve &&& (1099511627775 : Int64)) + (vt &&& (1099511627775 : Int64)))), (.long (0 : Int64))])) _
      refine XS.i2l X0.here hx rfl (hb hby at_42) rfl ?_
      show Steps p.tables e below (s₁.setTop (mkF m 43 #[.val (.long vf), .second, .val (.long vt), .second, .val (.long ve), .second, .val (.long vl), .second, .val (.int vm), .val (.long (vf &&& (1099511627775 : Int64))), .second, .val (.long (vt &&& (1099511627775 : Int64))), .second, .val (.long (ve &&& (1099511627775 : Int64))), .second, .unset, .unset, .unset, .unset, .unset, .unset] [(.long (((vm >>> ((1 : Int32) &&& 31)) &&& (7 : Int32)).toInt64)), (.long ((ve &&& (1099511627775 : Int64)) + (vt &&& (1099511627775 : Int64)))), (.long (0 : Int64))])) _
      refine XS.ladd X0.here hx rfl (hb hby at_43) rfl ?_
      show Steps p.tables e below (s₁.setTop (mkF m 44 #[.val (.long vf), .second, .val (.long vt), .second, .val (.long ve), .second, .val (.long vl), .second, .val (.int vm), .val (.long (vf &&& (1099511627775 : Int64))), .second, .val (.long (vt &&& (1099511627775 : Int64))), .second, .val (.long (ve &&& (1099511627775 : Int64))), .second, .unset, .unset, .unset, .unset, .unset, .unset] [(.long (((ve &&& (1099511627775 : Int64)) + (vt &&& (1099511627775 : Int64))) + (((vm >>> ((1 : Int32) &&& 31)) &&& (7 : Int32)).toInt64))), (.long (0 : Int64))])) _
      refine X0.ldc2Long hx hown (mvT hZ (hw _ (List.mem_of_getElem? (i := 1) rfl))) (g := (mkF m 44 #[.val (.long vf), .second, .val (.long vt), .second, .val (.long ve), .second, .val (.long vl), .second, .val (.int vm), .val (.long (vf &&& (1099511627775 : Int64))), .second, .val (.long (vt &&& (1099511627775 : Int64))), .second, .val (.long (ve &&& (1099511627775 : Int64))), .second, .unset, .unset, .unset, .unset, .unset, .unset] [(.long (((ve &&& (1099511627775 : Int64)) + (vt &&& (1099511627775 : Int64))) + (((vm >>> ((1 : Int32) &&& 31)) &&& (7 : Int32)).toInt64))), (.long (0 : Int64))])) rfl (hb hby at_44) _ ?_
      show Steps p.tables e below (s₁.setTop (mkF m 47 #[.val (.long vf), .second, .val (.long vt), .second, .val (.long ve), .second, .val (.long vl), .second, .val (.int vm), .val (.long (vf &&& (1099511627775 : Int64))), .second, .val (.long (vt &&& (1099511627775 : Int64))), .second, .val (.long (ve &&& (1099511627775 : Int64))), .second, .unset, .unset, .unset, .unset, .unset, .unset] [(.long (4 : Int64)), (.long (((ve &&& (1099511627775 : Int64)) + (vt &&& (1099511627775 : Int64))) + (((vm >>> ((1 : Int32) &&& 31)) &&& (7 : Int32)).toInt64))), (.long (0 : Int64))])) _
      refine XS.lsub X0.here hx rfl (hb hby at_47) rfl ?_
      show Steps p.tables e below (s₁.setTop (mkF m 48 #[.val (.long vf), .second, .val (.long vt), .second, .val (.long ve), .second, .val (.long vl), .second, .val (.int vm), .val (.long (vf &&& (1099511627775 : Int64))), .second, .val (.long (vt &&& (1099511627775 : Int64))), .second, .val (.long (ve &&& (1099511627775 : Int64))), .second, .unset, .unset, .unset, .unset, .unset, .unset] [(.long ((((ve &&& (1099511627775 : Int64)) + (vt &&& (1099511627775 : Int64))) + (((vm >>> ((1 : Int32) &&& 31)) &&& (7 : Int32)).toInt64)) - (4 : Int64))), (.long (0 : Int64))])) _
      refine st30 _ ?_
      show Steps p.tables e below (T30.setTop (mkF m 51 #[.val (.long vf), .second, .val (.long vt), .second, .val (.long ve), .second, .val (.long vl), .second, .val (.int vm), .val (.long (vf &&& (1099511627775 : Int64))), .second, .val (.long (vt &&& (1099511627775 : Int64))), .second, .val (.long (ve &&& (1099511627775 : Int64))), .second, .unset, .unset, .unset, .unset, .unset, .unset] [(.long r30)])) _
      refine XS.lstore X30.here hx rfl (hb hby at_51) rfl (l' := #[.val (.long vf), .second, .val (.long vt), .second, .val (.long ve), .second, .val (.long vl), .second, .val (.int vm), .val (.long (vf &&& (1099511627775 : Int64))), .second, .val (.long (vt &&& (1099511627775 : Int64))), .second, .val (.long (ve &&& (1099511627775 : Int64))), .second, .val (.long r30), .second, .unset, .unset, .unset, .unset]) rfl ?_
      show Steps p.tables e below (T30.setTop (mkF m 53 #[.val (.long vf), .second, .val (.long vt), .second, .val (.long ve), .second, .val (.long vl), .second, .val (.int vm), .val (.long (vf &&& (1099511627775 : Int64))), .second, .val (.long (vt &&& (1099511627775 : Int64))), .second, .val (.long (ve &&& (1099511627775 : Int64))), .second, .val (.long r30), .second, .unset, .unset, .unset, .unset] [])) _
      refine XS.goto X30.here hx rfl (pc0 := 53) (pc' := 64) rfl (hb hby at_53) (by decide) (by decide) ?_
      show Steps p.tables e below (T30.setTop (mkF m 64 #[.val (.long vf), .second, .val (.long vt), .second, .val (.long ve), .second, .val (.long vl), .second, .val (.int vm), .val (.long (vf &&& (1099511627775 : Int64))), .second, .val (.long (vt &&& (1099511627775 : Int64))), .second, .val (.long (ve &&& (1099511627775 : Int64))), .second, .val (.long r30), .second, .unset, .unset, .unset, .unset] [])) _
      refine st31 _ ?_
      show Steps p.tables e below (T31.setTop (mkF m 67 #[.val (.long vf), .second, .val (.long vt), .second, .val (.long ve), .second, .val (.long vl), .second, .val (.int vm), .val (.long (vf &&& (1099511627775 : Int64))), .second, .val (.long (vt &&& (1099511627775 : Int64))), .second, .val (.long (ve &&& (1099511627775 : Int64))), .second, .val (.long r30), .second, .unset, .unset, .unset, .unset] [(.ref b31)])) _
      refine XS.dup X31.here hx rfl (hb hby at_67) rfl rfl ?_
      show Steps p.tables e below (T31.setTop (mkF m 68 #[.val (.long vf), .second, .val (.long vt), .second, .val (.long ve), .second, .val (.long vl), .second, .val (.int vm), .val (.long (vf &&& (1099511627775 : Int64))), .second, .val (.long (vt &&& (1099511627775 : Int64))), .second, .val (.long (ve &&& (1099511627775 : Int64))), .second, .val (.long r30), .second, .unset, .unset, .unset, .unset] [(.ref b31), (.ref b31)])) _
      refine XS.lload X31.here hx rfl (hb hby at_68) rfl ?_
      show Steps p.tables e below (T31.setTop (mkF m 70 #[.val (.long vf), .second, .val (.long vt), .second, .val (.long ve), .second, .val (.long vl), .second, .val (.int vm), .val (.long (vf &&& (1099511627775 : Int64))), .second, .val (.long (vt &&& (1099511627775 : Int64))), .second, .val (.long (ve &&& (1099511627775 : Int64))), .second, .val (.long r30), .second, .unset, .unset, .unset, .unset] [(.long r30), (.ref b31), (.ref b31)])) _
      refine st32.trans ?_
      show Steps p.tables e below (T32.setTop (mkF m 73 #[.val (.long vf), .second, .val (.long vt), .second, .val (.long ve), .second, .val (.long vl), .second, .val (.int vm), .val (.long (vf &&& (1099511627775 : Int64))), .second, .val (.long (vt &&& (1099511627775 : Int64))), .second, .val (.long (ve &&& (1099511627775 : Int64))), .second, .val (.long r30), .second, .unset, .unset, .unset, .unset] [(.ref b31)])) _
      refine XS.astore X32.here hx rfl (hb hby at_73) rfl rfl (l' := #[.val (.long vf), .second, .val (.long vt), .second, .val (.long ve), .second, .val (.long vl), .second, .val (.int vm), .val (.long (vf &&& (1099511627775 : Int64))), .second, .val (.long (vt &&& (1099511627775 : Int64))), .second, .val (.long (ve &&& (1099511627775 : Int64))), .second, .val (.long r30), .second, .val (.ref b31), .unset, .unset, .unset]) rfl ?_
      show Steps p.tables e below (T32.setTop (mkF m 75 #[.val (.long vf), .second, .val (.long vt), .second, .val (.long ve), .second, .val (.long vl), .second, .val (.int vm), .val (.long (vf &&& (1099511627775 : Int64))), .second, .val (.long (vt &&& (1099511627775 : Int64))), .second, .val (.long (ve &&& (1099511627775 : Int64))), .second, .val (.long r30), .second, .val (.ref b31), .unset, .unset, .unset] [])) _
      refine XS.aload X32.here hx rfl (hb hby at_75) rfl rfl ?_
      show Steps p.tables e below (T32.setTop (mkF m 77 #[.val (.long vf), .second, .val (.long vt), .second, .val (.long ve), .second, .val (.long vl), .second, .val (.int vm), .val (.long (vf &&& (1099511627775 : Int64))), .second, .val (.long (vt &&& (1099511627775 : Int64))), .second, .val (.long (ve &&& (1099511627775 : Int64))), .second, .val (.long r30), .second, .val (.ref b31), .unset, .unset, .unset] [(.ref b31)])) _
      refine XS.lconst X32.here hx rfl (hb hby at_77) ?_
      show Steps p.tables e below (T32.setTop (mkF m 78 #[.val (.long vf), .second, .val (.long vt), .second, .val (.long ve), .second, .val (.long vl), .second, .val (.int vm), .val (.long (vf &&& (1099511627775 : Int64))), .second, .val (.long (vt &&& (1099511627775 : Int64))), .second, .val (.long (ve &&& (1099511627775 : Int64))), .second, .val (.long r30), .second, .val (.ref b31), .unset, .unset, .unset] [(.long (0 : Int64)), (.ref b31)])) _
      refine XS.lload X32.here hx rfl (hb hby at_78) rfl ?_
      show Steps p.tables e below (T32.setTop (mkF m 80 #[.val (.long vf), .second, .val (.long vt), .second, .val (.long ve), .second, .val (.long vl), .second, .val (.int vm), .val (.long (vf &&& (1099511627775 : Int64))), .second, .val (.long (vt &&& (1099511627775 : Int64))), .second, .val (.long (ve &&& (1099511627775 : Int64))), .second, .val (.long r30), .second, .val (.ref b31), .unset, .unset, .unset] [(.long (vf &&& (1099511627775 : Int64))), (.long (0 : Int64)), (.ref b31)])) _
      refine XS.lload X32.here hx rfl (hb hby at_80) rfl ?_
      show Steps p.tables e below (T32.setTop (mkF m 82 #[.val (.long vf), .second, .val (.long vt), .second, .val (.long ve), .second, .val (.long vl), .second, .val (.int vm), .val (.long (vf &&& (1099511627775 : Int64))), .second, .val (.long (vt &&& (1099511627775 : Int64))), .second, .val (.long (ve &&& (1099511627775 : Int64))), .second, .val (.long r30), .second, .val (.ref b31), .unset, .unset, .unset] [(.long (ve &&& (1099511627775 : Int64))), (.long (vf &&& (1099511627775 : Int64))), (.long (0 : Int64)), (.ref b31)])) _
      refine XS.ladd X32.here hx rfl (hb hby at_82) rfl ?_
      show Steps p.tables e below (T32.setTop (mkF m 83 #[.val (.long vf), .second, .val (.long vt), .second, .val (.long ve), .second, .val (.long vl), .second, .val (.int vm), .val (.long (vf &&& (1099511627775 : Int64))), .second, .val (.long (vt &&& (1099511627775 : Int64))), .second, .val (.long (ve &&& (1099511627775 : Int64))), .second, .val (.long r30), .second, .val (.ref b31), .unset, .unset, .unset] [(.long ((vf &&& (1099511627775 : Int64)) + (ve &&& (1099511627775 : Int64)))), (.long (0 : Int64)), (.ref b31)])) _
      refine st33.trans ?_
      show Steps p.tables e below (T33.setTop (mkF m 86 #[.val (.long vf), .second, .val (.long vt), .second, .val (.long ve), .second, .val (.long vl), .second, .val (.int vm), .val (.long (vf &&& (1099511627775 : Int64))), .second, .val (.long (vt &&& (1099511627775 : Int64))), .second, .val (.long (ve &&& (1099511627775 : Int64))), .second, .val (.long r30), .second, .val (.ref b31), .unset, .unset, .unset] [])) _
      refine XS.aload X33.here hx rfl (hb hby at_86) rfl rfl ?_
      show Steps p.tables e below (T33.setTop (mkF m 88 #[.val (.long vf), .second, .val (.long vt), .second, .val (.long ve), .second, .val (.long vl), .second, .val (.int vm), .val (.long (vf &&& (1099511627775 : Int64))), .second, .val (.long (vt &&& (1099511627775 : Int64))), .second, .val (.long (ve &&& (1099511627775 : Int64))), .second, .val (.long r30), .second, .val (.ref b31), .unset, .unset, .unset] [(.ref b31)])) _
      refine XS.lload X33.here hx rfl (hb hby at_88) rfl ?_
      show Steps p.tables e below (T33.setTop (mkF m 90 #[.val (.long vf), .second, .val (.long vt), .second, .val (.long ve), .second, .val (.long vl), .second, .val (.int vm), .val (.long (vf &&& (1099511627775 : Int64))), .second, .val (.long (vt &&& (1099511627775 : Int64))), .second, .val (.long (ve &&& (1099511627775 : Int64))), .second, .val (.long r30), .second, .val (.ref b31), .unset, .unset, .unset] [(.long (vf &&& (1099511627775 : Int64))), (.ref b31)])) _
      refine XS.lload X33.here hx rfl (hb hby at_90) rfl ?_
      show Steps p.tables e below (T33.setTop (mkF m 92 #[.val (.long vf), .second, .val (.long vt), .second, .val (.long ve), .second, .val (.long vl), .second, .val (.int vm), .val (.long (vf &&& (1099511627775 : Int64))), .second, .val (.long (vt &&& (1099511627775 : Int64))), .second, .val (.long (ve &&& (1099511627775 : Int64))), .second, .val (.long r30), .second, .val (.ref b31), .unset, .unset, .unset] [(.long (vt &&& (1099511627775 : Int64))), (.long (vf &&& (1099511627775 : Int64))), (.ref b31)])) _
      refine st34.trans ?_
      show Steps p.tables e below (T34.setTop (mkF m 95 #[.val (.long vf), .second, .val (.long vt), .second, .val (.long ve), .second, .val (.long vl), .second, .val (.int vm), .val (.long (vf &&& (1099511627775 : Int64))), .second, .val (.long (vt &&& (1099511627775 : Int64))), .second, .val (.long (ve &&& (1099511627775 : Int64))), .second, .val (.long r30), .second, .val (.ref b31), .unset, .unset, .unset] [(.int r34)])) _
      refine XS.istore X34.here hx rfl (hb hby at_95) rfl (l' := #[.val (.long vf), .second, .val (.long vt), .second, .val (.long ve), .second, .val (.long vl), .second, .val (.int vm), .val (.long (vf &&& (1099511627775 : Int64))), .second, .val (.long (vt &&& (1099511627775 : Int64))), .second, .val (.long (ve &&& (1099511627775 : Int64))), .second, .val (.long r30), .second, .val (.ref b31), .val (.int r34), .unset, .unset]) rfl ?_
      show Steps p.tables e below (T34.setTop (mkF m 97 #[.val (.long vf), .second, .val (.long vt), .second, .val (.long ve), .second, .val (.long vl), .second, .val (.int vm), .val (.long (vf &&& (1099511627775 : Int64))), .second, .val (.long (vt &&& (1099511627775 : Int64))), .second, .val (.long (ve &&& (1099511627775 : Int64))), .second, .val (.long r30), .second, .val (.ref b31), .val (.int r34), .unset, .unset] [])) _
      refine seg35 _ ?_
      show Steps p.tables e below (T34.setTop (mkF m 129 #[.val (.long vf), .second, .val (.long vt), .second, .val (.long ve), .second, .val (.long vl), .second, .val (.int vm), .val (.long (vf &&& (1099511627775 : Int64))), .second, .val (.long (vt &&& (1099511627775 : Int64))), .second, .val (.long (ve &&& (1099511627775 : Int64))), .second, .val (.long r30), .second, .val (.ref b31), .val (.int r34), .val (.int z35), .unset] [])) _
      refine XS.aload X34.here hx rfl (hb hby at_129) rfl rfl ?_
      show Steps p.tables e below (T34.setTop (mkF m 131 #[.val (.long vf), .second, .val (.long vt), .second, .val (.long ve), .second, .val (.long vl), .second, .val (.int vm), .val (.long (vf &&& (1099511627775 : Int64))), .second, .val (.long (vt &&& (1099511627775 : Int64))), .second, .val (.long (ve &&& (1099511627775 : Int64))), .second, .val (.long r30), .second, .val (.ref b31), .val (.int r34), .val (.int z35), .unset] [(.ref b31)])) _
      refine XS.lconst X34.here hx rfl (hb hby at_131) ?_
      show Steps p.tables e below (T34.setTop (mkF m 132 #[.val (.long vf), .second, .val (.long vt), .second, .val (.long ve), .second, .val (.long vl), .second, .val (.int vm), .val (.long (vf &&& (1099511627775 : Int64))), .second, .val (.long (vt &&& (1099511627775 : Int64))), .second, .val (.long (ve &&& (1099511627775 : Int64))), .second, .val (.long r30), .second, .val (.ref b31), .val (.int r34), .val (.int z35), .unset] [(.long (1 : Int64)), (.ref b31)])) _
      refine st38.trans ?_
      show Steps p.tables e below (T38.setTop (mkF m 135 #[.val (.long vf), .second, .val (.long vt), .second, .val (.long ve), .second, .val (.long vl), .second, .val (.int vm), .val (.long (vf &&& (1099511627775 : Int64))), .second, .val (.long (vt &&& (1099511627775 : Int64))), .second, .val (.long (ve &&& (1099511627775 : Int64))), .second, .val (.long r30), .second, .val (.ref b31), .val (.int r34), .val (.int z35), .unset] [])) _
      refine XS.aload X38.here hx rfl (hb hby at_135) rfl rfl ?_
      show Steps p.tables e below (T38.setTop (mkF m 137 #[.val (.long vf), .second, .val (.long vt), .second, .val (.long ve), .second, .val (.long vl), .second, .val (.int vm), .val (.long (vf &&& (1099511627775 : Int64))), .second, .val (.long (vt &&& (1099511627775 : Int64))), .second, .val (.long (ve &&& (1099511627775 : Int64))), .second, .val (.long r30), .second, .val (.ref b31), .val (.int r34), .val (.int z35), .unset] [(.ref b31)])) _
      refine st39.trans ?_
      show Steps p.tables e below (T39.setTop (mkF m 140 #[.val (.long vf), .second, .val (.long vt), .second, .val (.long ve), .second, .val (.long vl), .second, .val (.int vm), .val (.long (vf &&& (1099511627775 : Int64))), .second, .val (.long (vt &&& (1099511627775 : Int64))), .second, .val (.long (ve &&& (1099511627775 : Int64))), .second, .val (.long r30), .second, .val (.ref b31), .val (.int r34), .val (.int z35), .unset] [(.int r39)])) _
      refine seg40 _ ?_
      show Steps p.tables e below (T39.setTop (mkF m 158 #[.val (.long vf), .second, .val (.long vt), .second, .val (.long ve), .second, .val (.long vl), .second, .val (.int vm), .val (.long (vf &&& (1099511627775 : Int64))), .second, .val (.long (vt &&& (1099511627775 : Int64))), .second, .val (.long (ve &&& (1099511627775 : Int64))), .second, .val (.long r30), .second, .val (.ref b31), .val (.int r34), .val (.int z35), .unset] [(.int z40), (.int r39)])) _
      refine XS.icmpNo X39.here hx rfl (hb hby at_158) rfl (teq (hr39.trans ((own_o _ _ _).trans hz40.symm) : r39 = z40)).2 ?_
      show Steps p.tables e below (T39.setTop (mkF m 161 #[.val (.long vf), .second, .val (.long vt), .second, .val (.long ve), .second, .val (.long vl), .second, .val (.int vm), .val (.long (vf &&& (1099511627775 : Int64))), .second, .val (.long (vt &&& (1099511627775 : Int64))), .second, .val (.long (ve &&& (1099511627775 : Int64))), .second, .val (.long r30), .second, .val (.ref b31), .val (.int r34), .val (.int z35), .unset] [])) _
      refine XS.iconst X39.here hx rfl (hb hby at_161) ?_
      show Steps p.tables e below (T39.setTop (mkF m 162 #[.val (.long vf), .second, .val (.long vt), .second, .val (.long ve), .second, .val (.long vl), .second, .val (.int vm), .val (.long (vf &&& (1099511627775 : Int64))), .second, .val (.long (vt &&& (1099511627775 : Int64))), .second, .val (.long (ve &&& (1099511627775 : Int64))), .second, .val (.long r30), .second, .val (.ref b31), .val (.int r34), .val (.int z35), .unset] [(.int (1 : Int32))])) _
      refine XS.goto X39.here hx rfl (pc0 := 162) (pc' := 166) rfl (hb hby at_162) (by decide) (by decide) ?_
      show Steps p.tables e below (T39.setTop (mkF m 166 #[.val (.long vf), .second, .val (.long vt), .second, .val (.long ve), .second, .val (.long vl), .second, .val (.int vm), .val (.long (vf &&& (1099511627775 : Int64))), .second, .val (.long (vt &&& (1099511627775 : Int64))), .second, .val (.long (ve &&& (1099511627775 : Int64))), .second, .val (.long r30), .second, .val (.ref b31), .val (.int r34), .val (.int z35), .unset] [(.int (1 : Int32))])) _
      refine XS.istore X39.here hx rfl (hb hby at_166) rfl (l' := #[.val (.long vf), .second, .val (.long vt), .second, .val (.long ve), .second, .val (.long vl), .second, .val (.int vm), .val (.long (vf &&& (1099511627775 : Int64))), .second, .val (.long (vt &&& (1099511627775 : Int64))), .second, .val (.long (ve &&& (1099511627775 : Int64))), .second, .val (.long r30), .second, .val (.ref b31), .val (.int r34), .val (.int z35), .val (.int (1 : Int32))]) rfl ?_
      show Steps p.tables e below (T39.setTop (mkF m 168 #[.val (.long vf), .second, .val (.long vt), .second, .val (.long ve), .second, .val (.long vl), .second, .val (.int vm), .val (.long (vf &&& (1099511627775 : Int64))), .second, .val (.long (vt &&& (1099511627775 : Int64))), .second, .val (.long (ve &&& (1099511627775 : Int64))), .second, .val (.long r30), .second, .val (.ref b31), .val (.int r34), .val (.int z35), .val (.int (1 : Int32))] [])) _
      refine XS.iload X39.here hx rfl (hb hby at_168) rfl ?_
      show Steps p.tables e below (T39.setTop (mkF m 170 #[.val (.long vf), .second, .val (.long vt), .second, .val (.long ve), .second, .val (.long vl), .second, .val (.int vm), .val (.long (vf &&& (1099511627775 : Int64))), .second, .val (.long (vt &&& (1099511627775 : Int64))), .second, .val (.long (ve &&& (1099511627775 : Int64))), .second, .val (.long r30), .second, .val (.ref b31), .val (.int r34), .val (.int z35), .val (.int (1 : Int32))] [(.int r34)])) _
      refine XS.iload X39.here hx rfl (hb hby at_170) rfl ?_
      show Steps p.tables e below (T39.setTop (mkF m 172 #[.val (.long vf), .second, .val (.long vt), .second, .val (.long ve), .second, .val (.long vl), .second, .val (.int vm), .val (.long (vf &&& (1099511627775 : Int64))), .second, .val (.long (vt &&& (1099511627775 : Int64))), .second, .val (.long (ve &&& (1099511627775 : Int64))), .second, .val (.long r30), .second, .val (.ref b31), .val (.int r34), .val (.int z35), .val (.int (1 : Int32))] [(.int z35), (.int r34)])) _
      refine XS.icmpNo X39.here hx rfl (hb hby at_172) rfl (teq (hr34.trans ((own_a _ _ _ _).trans hz35.symm) : r34 = z35)).2 ?_
      show Steps p.tables e below (T39.setTop (mkF m 175 #[.val (.long vf), .second, .val (.long vt), .second, .val (.long ve), .second, .val (.long vl), .second, .val (.int vm), .val (.long (vf &&& (1099511627775 : Int64))), .second, .val (.long (vt &&& (1099511627775 : Int64))), .second, .val (.long (ve &&& (1099511627775 : Int64))), .second, .val (.long r30), .second, .val (.ref b31), .val (.int r34), .val (.int z35), .val (.int (1 : Int32))] [])) _
      refine XS.iload X39.here hx rfl (hb hby at_175) rfl ?_
      show Steps p.tables e below (T39.setTop (mkF m 177 #[.val (.long vf), .second, .val (.long vt), .second, .val (.long ve), .second, .val (.long vl), .second, .val (.int vm), .val (.long (vf &&& (1099511627775 : Int64))), .second, .val (.long (vt &&& (1099511627775 : Int64))), .second, .val (.long (ve &&& (1099511627775 : Int64))), .second, .val (.long r30), .second, .val (.ref b31), .val (.int r34), .val (.int z35), .val (.int (1 : Int32))] [(.int (1 : Int32))])) _
      refine XS.ifNo X39.here hx rfl (hb hby at_177) rfl ((if0 _ _).trans (feq (by decide : ¬ ((1 : Int32) = (0 : Int32)))).1) ?_
      show Steps p.tables e below (T39.setTop (mkF m 180 #[.val (.long vf), .second, .val (.long vt), .second, .val (.long ve), .second, .val (.long vl), .second, .val (.int vm), .val (.long (vf &&& (1099511627775 : Int64))), .second, .val (.long (vt &&& (1099511627775 : Int64))), .second, .val (.long (ve &&& (1099511627775 : Int64))), .second, .val (.long r30), .second, .val (.ref b31), .val (.int r34), .val (.int z35), .val (.int (1 : Int32))] [])) _
      refine XS.iconst X39.here hx rfl (hb hby at_180) ?_
      show Steps p.tables e below (T39.setTop (mkF m 181 #[.val (.long vf), .second, .val (.long vt), .second, .val (.long ve), .second, .val (.long vl), .second, .val (.int vm), .val (.long (vf &&& (1099511627775 : Int64))), .second, .val (.long (vt &&& (1099511627775 : Int64))), .second, .val (.long (ve &&& (1099511627775 : Int64))), .second, .val (.long r30), .second, .val (.ref b31), .val (.int r34), .val (.int z35), .val (.int (1 : Int32))] [(.int (1 : Int32))])) _
      refine XS.goto X39.here hx rfl (pc0 := 181) (pc' := 185) rfl (hb hby at_181) (by decide) (by decide) ?_
      show Steps p.tables e below (T39.setTop (mkF m 185 #[.val (.long vf), .second, .val (.long vt), .second, .val (.long ve), .second, .val (.long vl), .second, .val (.int vm), .val (.long (vf &&& (1099511627775 : Int64))), .second, .val (.long (vt &&& (1099511627775 : Int64))), .second, .val (.long (ve &&& (1099511627775 : Int64))), .second, .val (.long r30), .second, .val (.ref b31), .val (.int r34), .val (.int z35), .val (.int (1 : Int32))] [(.int (1 : Int32))])) _
      exact retN X39 hx (t := .boolean) Bd.returns (by simp) (hb hby at_185) hr
    · show Q_law Z vf vt ve vl vm h0 n0 _ T39.heap _
      rw [e39]
      exact ⟨rfl, N39⟩
set_option maxRecDepth 65536 in
set_option maxHeartbeats 40000000 in
theorem comes_1 {Post : Tables → Env → Array Value → State → Outcome → State → Prop} (hpost : ∀ tb e args s v u, (limb_1_1.after args s (.returned v) u = true ∧ limb_1_2.after args s (.returned v) u = true ∧ True) → FrameEnd s (.returned v) u (Jvm.fieldLocs frame_1_writes args s ++ Jvm.arrayLocs frame_1_arrays args s ++ Jvm.staticLocs frame_1_statics s) 16 128 → Post tb e args s (.returned v) u) :
    ArmFor flags0 classFile x code maxLocals ret World_1 tables_1 room_1 Calls_1 rest_1 Pre_1 Post := by
  intro l hfl _ _ p e ha hc hk s m args below hf hA hF happ hP
  obtain ⟨hcalls, hrest, hpre⟩ := hP
  obtain ⟨-, -, -, hnamed, -, -, -, hat⟩ := (Spec.applies_iff hf).mp happ
  obtain ⟨hg, hn⟩ := and_e (Cond.before_iff.mp (show (Jvm.Cond.and given_1 narrow_1).before args s = true from hpre))
  obtain ⟨hg0, hr0⟩ := and_e hg
  obtain ⟨ha0, hr1⟩ := and_e hr0
  obtain ⟨ha1, hr2⟩ := and_e hr1
  obtain ⟨ha2, hr3⟩ := and_e hr2
  obtain ⟨ha3, hr4⟩ := and_e hr3
  obtain ⟨w0, w1, w2, w3, w4, rfl⟩ : ∃ w0 w1 w2 w3 w4 : Value, args = #[w0, w1, w2, w3, w4] := by
    have hs : args.size = 5 := by simpa [Cond.value, given_1] using hg0
    obtain ⟨L⟩ := args
    match L, hs with
    | [w0, w1, w2, w3, w4], _ => exact ⟨w0, w1, w2, w3, w4, rfl⟩
  have hw := fun d (hd : d ∈ tables_1) => atoms_spec (ws := Jvm.Cond.code x code maxLocals ret :: tables_1) hat d (List.mem_cons_of_mem _ hd)
  obtain ⟨i0, ei0⟩ := isL_v ha0
  obtain rfl : w0 = (.long i0) := Option.some.inj ei0
  obtain ⟨i1, ei1⟩ := isL_v ha1
  obtain rfl : w1 = (.long i1) := Option.some.inj ei1
  obtain ⟨i2, ei2⟩ := isL_v ha2
  obtain rfl : w2 = (.long i2) := Option.some.inj ei2
  obtain ⟨i3, ei3⟩ := isL_v ha3
  obtain rfl : w3 = (.long i3) := Option.some.inj ei3
  obtain ⟨i4, ei4⟩ := is_v hr4
  obtain rfl : w4 = (.int i4) := Option.some.inj ei4
  obtain ⟨n, o, h1, h2, h3, _, L, rfl, ⟨rfl, N⟩, hq⟩ := rm_law l s _ hw tables_1 i0 i1 i2 i3 i4 s.heap s.heap.size (Nat.le_refl _)  p e ha hc hk s m _ below hf ((Spec.applies_iff_loose hf).mp happ).1 ⟨rfl, State.Warmed39.refl s, rfl⟩ trivial
  refine ⟨n, _, h1, h2, h3, hpost _ _ _ _ _ _ ⟨Cond.after_iff.mpr rfl, Cond.after_iff.mpr (eq_i res_at (Term.int_eval (1)) rfl), trivial⟩ ⟨hq.1, hq.2.1, (hq.2.2.sift fun y hy => Or.inr (N y hy)).mono (by decide) (by decide)⟩⟩
theorem main_1_1 : Claimed_1_1 := comes_1 fun _ _ _ _ _ _ h hF => ⟨h.1, hF⟩
theorem main_1_2 : Claimed_1_2 := comes_1 fun _ _ _ _ _ _ h hF => ⟨h.2.1, hF⟩
end Jvm.Pilot.@@N@@
namespace Jvm.Pilot.@@N@@
open Jvm Jvm.ClassFile Sem Op Lib Jvm.Free Jvm.Stand Jvm.Pilot.@@N@@.Jvm.D
/-! MADE BY PROGRAM (witnessworld.py) out of the Statement's table words and the real class files: 10 classes; the members and pool entries that the words name. The judged class is class 1, her method 1. -/
namespace start1
open Jvm.ClassFile
def u (s : String) : CpInfo := .utf8 (stringToUtf16 s)
/-- a pool by its gaps: so many unusable entries, then the entry; so many at the end -/
def gap : Nat → List CpInfo → List CpInfo
  | 0, r => r
  | n + 1, r => .unusable :: gap n r
def poolList (es : List (Nat × CpInfo)) (last : Nat) : List CpInfo := es.foldr (fun e r => gap e.1 (e.2 :: r)) (gap last [])
def pool (es : List (Nat × CpInfo)) (last : Nat) : Array CpInfo := ⟨poolList es last⟩
def fileOf (pool : Array CpInfo) (this : Nat) (attrs : Array Attribute := #[]) (ms : Array MethodInfo := #[]) (fl : Nat := 33) (sup : Nat := 0) (ifs : Array Nat := #[]) (fds : Array FieldInfo := #[]) : ClassFile where
  minorVersion := 0
  majorVersion := 65
  constantPool := pool
  accessFlags := fl
  thisClass := this
  superClass := sup
  interfaces := ifs
  fields := fds
  methods := ms
  attributes := attrs
def plain (name : String) (sup : Option ClassId) : Class where
  name := name
  kind := .ordinary
  loader := none
  accessFlags := 33
  super := sup
  interfaces := #[]
  cf := none
  fields := #[]
  methods := #[]
  instanceTypes := #[]
  staticTypes := #[]
  resolved := #[]
  callSites := []
  init := .initialized
  statics := none
  mirror := none

def pool0 : Array CpInfo := pool [(5, u "<init>"), (0, u "()V"), (1, .class_ 10), (1, u "java/lang/Object")] 113

def k0c0 : Code := { maxStack := 0, maxLocals := 1, code := object_method_1_code, exceptionTable := #[], attributes := #[] }
def k0m0 : Method := { name := "<init>", desc := "()V", sig := { parameters := [], returnType := none }, accessFlags := 1, code := some k0c0 }
/-- java/lang/Object -/
def k0 : Class := { plain "java/lang/Object" none with
  accessFlags := 33
  interfaces := #[]
  cf := some (fileOf pool0 8 #[] #[{ accessFlags := 1, nameIndex := 5, descriptorIndex := 6, attributes := #[] }] 33 0 #[] #[])
  fields := #[]
  methods := #[k0m0]
  instanceTypes := #[]
  staticTypes := #[]
  resolved := Array.replicate 124 none
  statics := none }

def pool1 : Array CpInfo := pool [(2, .class_ 4), (1, u "java/lang/Object"), (0, u "<init>"), (0, u "()V"), (0, .long 1099511627775), (1, .long 4), (1, .methodref 12 13), (0, .class_ 14), (0, .nameAndType 15 16), (0, u "java/lang/Math"), (0, u "max"), (0, u "(JJ)J"), (0, .class_ 18), (0, u "dev/leasehold/server/ValueMemory"), (0, .methodref 17 20), (0, .nameAndType 5 21), (0, u "(J)V"), (0, .methodref 17 23), (0, .nameAndType 24 25), (0, u "replaceLatest"), (0, u "(JJ)V"), (0, .methodref 17 27), (0, .nameAndType 28 29), (0, u "admits"), (0, u "(JJ)Z"), (0, .methodref 17 31), (0, .nameAndType 32 21), (0, u "addOlder"), (0, .methodref 17 34), (0, .nameAndType 35 36), (0, u "olderOverflow"), (0, u "()Z"), (0, .class_ 38), (0, u "dev/leasehold/server/ValueMemoryAdmitsPinLaw"), (2, u "law"), (0, u "(JJJJI)Z")] 3

def k1m0 : Method := { name := "<init>", desc := "()V", sig := { parameters := [], returnType := none }, accessFlags := 1, code := none }
def k1c1 : Code := { maxStack := 7, maxLocals := 21, code := code, exceptionTable := #[], attributes := #[] }
def k1m1 : Method := { name := "law", desc := "(JJJJI)Z", sig := { parameters := [.long, .long, .long, .long, .int], returnType := some .boolean }, accessFlags := 9, code := some k1c1 }
/-- dev/leasehold/server/ValueMemoryAdmitsPinLaw -/
def k1 : Class := { plain "dev/leasehold/server/ValueMemoryAdmitsPinLaw" (some 0) with
  accessFlags := 49
  interfaces := #[]
  cf := some (fileOf pool1 37 #[] #[{ accessFlags := 1, nameIndex := 5, descriptorIndex := 6, attributes := #[] }, { accessFlags := 9, nameIndex := 41, descriptorIndex := 42, attributes := #[] }] 49 2 #[] #[])
  fields := #[]
  methods := #[k1m0, k1m1]
  instanceTypes := #[]
  staticTypes := #[]
  resolved := Array.replicate 46 none
  statics := none }

def pool2 : Array CpInfo := pool [(1, .class_ 2), (0, u "java/lang/Math"), (1, .class_ 6), (1, u "java/lang/Object"), (0, u "<init>"), (0, u "()V"), (89, .class_ 100), (1, u "java/lang/Math$RandomNumberGeneratorHolder"), (20, u "(JJ)J"), (50, u "negativeZeroFloatBits"), (0, u "J"), (2, u "negativeZeroDoubleBits"), (21, u "max"), (46, u "$assertionsDisabled"), (0, u "Z"), (91, u "twoToTheDoubleScaleDown"), (0, u "D"), (4, u "twoToTheDoubleScaleUp"), (9, u "E"), (3, u "PI"), (2, u "TAU"), (2, u "DEGREES_TO_RADIANS"), (0, u "RADIANS_TO_DEGREES")] 94

def k2m0 : Method := { name := "<init>", desc := "()V", sig := { parameters := [], returnType := none }, accessFlags := 2, code := none }
def k2c1 : Code := { maxStack := 4, maxLocals := 4, code := jdk_29_method_66_code, exceptionTable := #[], attributes := #[] }
def k2m1 : Method := { name := "max", desc := "(JJ)J", sig := { parameters := [.long, .long], returnType := some .long }, accessFlags := 9, code := some k2c1 }
/-- java/lang/Math -/
def k2 : Class := { plain "java/lang/Math" (some 0) with
  accessFlags := 49
  interfaces := #[]
  cf := some (fileOf pool2 1 #[.nestMembers #[98]] #[{ accessFlags := 2, nameIndex := 7, descriptorIndex := 8, attributes := #[] }, { accessFlags := 9, nameIndex := 198, descriptorIndex := 121, attributes := #[] }] 49 4 #[] #[{ accessFlags := 25, nameIndex := 354, descriptorIndex := 339, attributes := #[] }, { accessFlags := 25, nameIndex := 358, descriptorIndex := 339, attributes := #[] }, { accessFlags := 25, nameIndex := 361, descriptorIndex := 339, attributes := #[] }, { accessFlags := 26, nameIndex := 364, descriptorIndex := 339, attributes := #[] }, { accessFlags := 26, nameIndex := 365, descriptorIndex := 339, attributes := #[] }, { accessFlags := 26, nameIndex := 172, descriptorIndex := 173, attributes := #[] }, { accessFlags := 26, nameIndex := 176, descriptorIndex := 173, attributes := #[] }, { accessFlags := 8, nameIndex := 344, descriptorIndex := 339, attributes := #[] }, { accessFlags := 8, nameIndex := 338, descriptorIndex := 339, attributes := #[] }, { accessFlags := 4120, nameIndex := 245, descriptorIndex := 246, attributes := #[] }])
  fields := #[{ name := "E", type := .double, accessFlags := 25, slot := 0, constantValue := 0 }, { name := "PI", type := .double, accessFlags := 25, slot := 1, constantValue := 0 }, { name := "TAU", type := .double, accessFlags := 25, slot := 2, constantValue := 0 }, { name := "DEGREES_TO_RADIANS", type := .double, accessFlags := 26, slot := 3, constantValue := 0 }, { name := "RADIANS_TO_DEGREES", type := .double, accessFlags := 26, slot := 4, constantValue := 0 }, { name := "negativeZeroFloatBits", type := .long, accessFlags := 26, slot := 5, constantValue := 0 }, { name := "negativeZeroDoubleBits", type := .long, accessFlags := 26, slot := 6, constantValue := 0 }, { name := "twoToTheDoubleScaleUp", type := .double, accessFlags := 8, slot := 7, constantValue := 0 }, { name := "twoToTheDoubleScaleDown", type := .double, accessFlags := 8, slot := 8, constantValue := 0 }, { name := "$assertionsDisabled", type := .boolean, accessFlags := 4120, slot := 9, constantValue := 0 }]
  methods := #[k2m0, k2m1]
  instanceTypes := #[]
  staticTypes := #[.double, .double, .double, .double, .double, .long, .long, .double, .double, .boolean]
  resolved := Array.replicate 460 none
  statics := none }

def pool3 : Array CpInfo := pool [(1, .methodref 2 3), (0, .class_ 4), (0, .nameAndType 5 6), (0, u "java/lang/Object"), (0, u "<init>"), (0, u "()V"), (0, .fieldref 8 9), (0, .class_ 10), (0, .nameAndType 11 12), (0, u "dev/leasehold/server/ValueMemory"), (0, u "limit"), (0, u "J"), (17, .fieldref 8 31), (0, .nameAndType 32 12), (0, u "latest"), (0, .fieldref 8 34), (0, .nameAndType 35 12), (0, u "older"), (0, u "BYTES_PER_VERSION"), (0, u "I"), (2, u "(J)V"), (4, u "admits"), (0, u "(JJ)Z"), (1, u "replaceLatest"), (0, u "(JJ)V"), (0, u "addOlder"), (1, u "olderOverflow"), (0, u "()Z")] 2

def k3c0 : Code := { maxStack := 3, maxLocals := 3, code := prog_139_method_1_code, exceptionTable := #[], attributes := #[] }
def k3m0 : Method := { name := "<init>", desc := "(J)V", sig := { parameters := [.long], returnType := none }, accessFlags := 0, code := some k3c0 }
def k3c1 : Code := { maxStack := 4, maxLocals := 5, code := prog_139_method_3_code, exceptionTable := #[], attributes := #[] }
def k3m1 : Method := { name := "admits", desc := "(JJ)Z", sig := { parameters := [.long, .long], returnType := some .boolean }, accessFlags := 0, code := some k3c1 }
def k3c2 : Code := { maxStack := 7, maxLocals := 5, code := prog_139_method_4_code, exceptionTable := #[], attributes := #[] }
def k3m2 : Method := { name := "replaceLatest", desc := "(JJ)V", sig := { parameters := [.long, .long], returnType := none }, accessFlags := 0, code := some k3c2 }
def k3c3 : Code := { maxStack := 5, maxLocals := 3, code := prog_139_method_5_code, exceptionTable := #[], attributes := #[] }
def k3m3 : Method := { name := "addOlder", desc := "(J)V", sig := { parameters := [.long], returnType := none }, accessFlags := 0, code := some k3c3 }
def k3c4 : Code := { maxStack := 4, maxLocals := 1, code := prog_139_method_7_code, exceptionTable := #[], attributes := #[] }
def k3m4 : Method := { name := "olderOverflow", desc := "()Z", sig := { parameters := [], returnType := some .boolean }, accessFlags := 0, code := some k3c4 }
/-- dev/leasehold/server/ValueMemory -/
def k3 : Class := { plain "dev/leasehold/server/ValueMemory" (some 0) with
  accessFlags := 48
  interfaces := #[]
  cf := some (fileOf pool3 8 #[] #[{ accessFlags := 0, nameIndex := 5, descriptorIndex := 40, attributes := #[] }, { accessFlags := 0, nameIndex := 45, descriptorIndex := 46, attributes := #[] }, { accessFlags := 0, nameIndex := 48, descriptorIndex := 49, attributes := #[] }, { accessFlags := 0, nameIndex := 50, descriptorIndex := 40, attributes := #[] }, { accessFlags := 0, nameIndex := 52, descriptorIndex := 53, attributes := #[] }] 48 2 #[] #[{ accessFlags := 24, nameIndex := 36, descriptorIndex := 37, attributes := #[] }, { accessFlags := 18, nameIndex := 11, descriptorIndex := 12, attributes := #[] }, { accessFlags := 2, nameIndex := 32, descriptorIndex := 12, attributes := #[] }, { accessFlags := 2, nameIndex := 35, descriptorIndex := 12, attributes := #[] }])
  fields := #[{ name := "BYTES_PER_VERSION", type := .int, accessFlags := 24, slot := 0, constantValue := 0 }, { name := "limit", type := .long, accessFlags := 18, slot := 0, constantValue := 0 }, { name := "latest", type := .long, accessFlags := 2, slot := 1, constantValue := 0 }, { name := "older", type := .long, accessFlags := 2, slot := 2, constantValue := 0 }]
  methods := #[k3m0, k3m1, k3m2, k3m3, k3m4]
  instanceTypes := #[.long, .long, .long]
  staticTypes := #[.int]
  resolved := Array.replicate 56 none
  statics := none }

def pool4 : Array CpInfo := pool [(1, u "java/lang/Cloneable"), (0, .class_ 1), (0, u "java/lang/Object"), (0, .class_ 3)] 3

/-- java/lang/Cloneable -/
def k4 : Class := { plain "java/lang/Cloneable" (some 0) with
  accessFlags := 1537
  interfaces := #[]
  cf := some (fileOf pool4 2 #[] #[] 1537 4 #[] #[])
  fields := #[]
  methods := #[]
  instanceTypes := #[]
  staticTypes := #[]
  resolved := Array.replicate 8 none
  statics := none }

def pool5 : Array CpInfo := pool [(1, u "java/io/Serializable"), (0, .class_ 1), (0, u "java/lang/Object"), (0, .class_ 3)] 3

/-- java/io/Serializable -/
def k5 : Class := { plain "java/io/Serializable" (some 0) with
  accessFlags := 1537
  interfaces := #[]
  cf := some (fileOf pool5 2 #[] #[] 1537 4 #[] #[])
  fields := #[]
  methods := #[]
  instanceTypes := #[]
  staticTypes := #[]
  resolved := Array.replicate 8 none
  statics := none }

/-- the primitive byte -/
def k6 : Class := { plain "byte" none with kind := .primitive 'B', accessFlags := 0x411 }
/-- [B -/
def k7 : Class := { plain "[B" (some 0) with kind := .array 6 .byte, interfaces := #[4, 5], accessFlags := 1041 }

/-- the primitive int -/
def k8 : Class := { plain "int" none with kind := .primitive 'I', accessFlags := 0x411 }
/-- [I -/
def k9 : Class := { plain "[I" (some 0) with kind := .array 8 .int, interfaces := #[4, 5], accessFlags := 1041 }

def heap : Heap := #[]
def classes : Array Class := #[k0, k1, k2, k3, k4, k5, k6, k7, k8, k9]
def interned : List (Array UInt16 × Addr) := []
def slotsUsed : Nat := 0
def theMethod : MethodId := ⟨1, 1⟩
def args0 : Array Value := #[.long 5, .long 3, .long 9, .long 5, .int 3]
def aboutOver (below : List Frame) : State where
  vm := { classes := classes, interned := interned.toArray }
  heap := heap
  slotsUsed := slotsUsed
  threads := #[{ frames := .invoking theMethod args0 :: below }]
def below0 : List Frame := [.native { method := ⟨0, 0⟩, args := #[] }]
def about1 : State := aboutOver below0
def p0 : Program := .bare "" "" ""
def e0 : Env := launch0.env 0 0 0
theorem w_frames : about1.frames = Frame.invoking theMethod args0 :: below0 := rfl
set_option maxRecDepth 65536 in
theorem w_args : argsFit about1.vm theMethod args0 = true := by decide +kernel
set_option maxRecDepth 65536 in
theorem w_heap : heapFits about1 = true := by decide +kernel
set_option maxRecDepth 65536 in
theorem w_runnable : about1.curStatus? = some .runnable := by decide +kernel
set_option maxRecDepth 65536 in
theorem w_alone : about1.alone = true := by decide +kernel
set_option maxRecDepth 65536 in
theorem w_named : about1.methodNamed? x = some theMethod := by decide +kernel
set_option maxRecDepth 65536 in
theorem w_hears : about1.hears theMethod below0 = true := by decide +kernel
set_option maxRecDepth 65536 in
theorem w_ripe : about1.ripe theMethod args0 below0 = true := by decide +kernel
theorem w_running : about1.status = .running := rfl
set_option maxRecDepth 65536 in
theorem w_room : about1.hasRoom e0.platform room_1 = true :=
  launch0.hasRoom_least _ room_1 (by decide +kernel) (by decide +kernel) (by decide +kernel) (by decide +kernel) (by decide +kernel) (by decide +kernel)
theorem allAtoms_all (ts : List Jvm.Cond) (a : Array Jvm.Value) (st : Jvm.State) : (allAtoms ts).before a st = ts.all (fun c => c.before a st) := by
  induction ts with
  | nil => rfl
  | cons c t ih =>
    show (Jvm.Cond.and c (allAtoms t)).before a st = _
    rw [Jvm.Cond.before_and, ih, List.all_cons]
def words1 : List Jvm.Cond := Jvm.Cond.code x code maxLocals ret :: tables_1
/-- a 'code' word, met by the world's own term for the bytes: nothing is compared byte by byte -/
theorem code_word {y : MethodName} {bytes : ByteArray} {mx : Nat} {rt : Option FieldType} {a : Array Value} {s : State} {m : MethodId} {meth : Method} {c : Code} (h1 : s.methodNamed? y = some m) (h2 : s.vm.method? m = some meth) (h3 : meth.code = some c) (h4 : c.code = bytes)
    (h5 : (c.maxLocals == mx && c.exceptionTable.isEmpty && decide (c.maxStack ≤ mostOperands) && decide (meth.sig.returnType = rt) && !meth.locks && decide (parseMethodDescriptor y.desc = some meth.sig)) = true) : (Jvm.Cond.code y bytes mx rt).before a s = true := by
  simp only [Bool.and_eq_true, beq_iff_eq, Bool.not_eq_true', decide_eq_true_eq] at h5
  obtain ⟨⟨⟨⟨⟨g1, g2⟩, g3⟩, g4⟩, g5⟩, g6⟩ := h5
  simp [Cond.before, Cond.holds, Cond.value, h1, h2, h3, h4, g1, g2, g3, g4, g5, g6]
def isCode : Jvm.Cond → Bool
  | .code _ _ _ _ => true
  | _ => false
theorem all_split {L : List Jvm.Cond} {P : Jvm.Cond → Bool} (h1 : L.all (fun c => isCode c || P c) = true) (h2 : ∀ c ∈ L.filter isCode, P c = true) : L.all P = true := by
  refine List.all_eq_true.mpr fun c hc => ?_
  have h := List.all_eq_true.mp h1 c hc
  rcases Bool.eq_false_or_eq_true (isCode c) with hi | hi
  · exact h2 c (List.mem_filter.mpr ⟨hc, hi⟩)
  · simpa [hi] using h
set_option maxRecDepth 65536 in
theorem w_c0 : (Jvm.Cond.code x code maxLocals ret).before args0 about1 = true := code_word (m := ⟨1, 1⟩) (meth := k1m1) (c := k1c1) (by decide +kernel) rfl rfl rfl (by decide +kernel)
set_option maxRecDepth 65536 in
theorem w_c1 : (Jvm.Cond.code ({ cls := "java/lang/Math", name := "max", desc := "(JJ)J" } : Jvm.MethodName) jdk_29_method_66_code (4 : Nat) (Option.some Jvm.ClassFile.FieldType.long)).before args0 about1 = true := code_word (m := ⟨2, 1⟩) (meth := k2m1) (c := k2c1) (by decide +kernel) rfl rfl rfl (by decide +kernel)
set_option maxRecDepth 65536 in
theorem w_c2 : (Jvm.Cond.code ({ cls := "dev/leasehold/server/ValueMemory", name := "<init>", desc := "(J)V" } : Jvm.MethodName) prog_139_method_1_code (3 : Nat) (Option.none : Option Jvm.ClassFile.FieldType)).before args0 about1 = true := code_word (m := ⟨3, 0⟩) (meth := k3m0) (c := k3c0) (by decide +kernel) rfl rfl rfl (by decide +kernel)
set_option maxRecDepth 65536 in
theorem w_c3 : (Jvm.Cond.code ({ cls := "java/lang/Object", name := "<init>", desc := "()V" } : Jvm.MethodName) object_method_1_code (1 : Nat) (Option.none : Option Jvm.ClassFile.FieldType)).before args0 about1 = true := code_word (m := ⟨0, 0⟩) (meth := k0m0) (c := k0c0) (by decide +kernel) rfl rfl rfl (by decide +kernel)
set_option maxRecDepth 65536 in
theorem w_c4 : (Jvm.Cond.code ({ cls := "dev/leasehold/server/ValueMemory", name := "replaceLatest", desc := "(JJ)V" } : Jvm.MethodName) prog_139_method_4_code (5 : Nat) (Option.none : Option Jvm.ClassFile.FieldType)).before args0 about1 = true := code_word (m := ⟨3, 2⟩) (meth := k3m2) (c := k3c2) (by decide +kernel) rfl rfl rfl (by decide +kernel)
set_option maxRecDepth 65536 in
theorem w_c5 : (Jvm.Cond.code ({ cls := "dev/leasehold/server/ValueMemory", name := "admits", desc := "(JJ)Z" } : Jvm.MethodName) prog_139_method_3_code (5 : Nat) (Option.some Jvm.ClassFile.FieldType.boolean)).before args0 about1 = true := code_word (m := ⟨3, 1⟩) (meth := k3m1) (c := k3c1) (by decide +kernel) rfl rfl rfl (by decide +kernel)
set_option maxRecDepth 65536 in
theorem w_c6 : (Jvm.Cond.code ({ cls := "dev/leasehold/server/ValueMemory", name := "addOlder", desc := "(J)V" } : Jvm.MethodName) prog_139_method_5_code (3 : Nat) (Option.none : Option Jvm.ClassFile.FieldType)).before args0 about1 = true := code_word (m := ⟨3, 3⟩) (meth := k3m3) (c := k3c3) (by decide +kernel) rfl rfl rfl (by decide +kernel)
set_option maxRecDepth 65536 in
theorem w_c7 : (Jvm.Cond.code ({ cls := "dev/leasehold/server/ValueMemory", name := "olderOverflow", desc := "()Z" } : Jvm.MethodName) prog_139_method_7_code (1 : Nat) (Option.some Jvm.ClassFile.FieldType.boolean)).before args0 about1 = true := code_word (m := ⟨3, 4⟩) (meth := k3m4) (c := k3c4) (by decide +kernel) rfl rfl rfl (by decide +kernel)
def codes1 : List Jvm.Cond := [Jvm.Cond.code x code maxLocals ret, Jvm.Cond.code ({ cls := "java/lang/Math", name := "max", desc := "(JJ)J" } : Jvm.MethodName) jdk_29_method_66_code (4 : Nat) (Option.some Jvm.ClassFile.FieldType.long), Jvm.Cond.code ({ cls := "dev/leasehold/server/ValueMemory", name := "<init>", desc := "(J)V" } : Jvm.MethodName) prog_139_method_1_code (3 : Nat) (Option.none : Option Jvm.ClassFile.FieldType), Jvm.Cond.code ({ cls := "java/lang/Object", name := "<init>", desc := "()V" } : Jvm.MethodName) object_method_1_code (1 : Nat) (Option.none : Option Jvm.ClassFile.FieldType), Jvm.Cond.code ({ cls := "dev/leasehold/server/ValueMemory", name := "replaceLatest", desc := "(JJ)V" } : Jvm.MethodName) prog_139_method_4_code (5 : Nat) (Option.none : Option Jvm.ClassFile.FieldType), Jvm.Cond.code ({ cls := "dev/leasehold/server/ValueMemory", name := "admits", desc := "(JJ)Z" } : Jvm.MethodName) prog_139_method_3_code (5 : Nat) (Option.some Jvm.ClassFile.FieldType.boolean), Jvm.Cond.code ({ cls := "dev/leasehold/server/ValueMemory", name := "addOlder", desc := "(J)V" } : Jvm.MethodName) prog_139_method_5_code (3 : Nat) (Option.none : Option Jvm.ClassFile.FieldType), Jvm.Cond.code ({ cls := "dev/leasehold/server/ValueMemory", name := "olderOverflow", desc := "()Z" } : Jvm.MethodName) prog_139_method_7_code (1 : Nat) (Option.some Jvm.ClassFile.FieldType.boolean)]
set_option maxRecDepth 65536 in
theorem codes_eq : words1.filter isCode = codes1 := rfl
theorem w_codes : ∀ c ∈ words1.filter isCode, c.before args0 about1 = true := by
  rw [codes_eq]
  intro c hc
  simp only [codes1, List.mem_cons, List.not_mem_nil, or_false] at hc
  rcases hc with rfl | rfl | rfl | rfl | rfl | rfl | rfl | rfl
  · exact w_c0
  · exact w_c1
  · exact w_c2
  · exact w_c3
  · exact w_c4
  · exact w_c5
  · exact w_c6
  · exact w_c7
set_option maxRecDepth 65536 in
theorem w_t1 : (words1.take 24).all (fun c => isCode c || c.before args0 about1) = true := by decide +kernel
set_option maxRecDepth 65536 in
theorem w_t2 : (words1.drop 24).all (fun c => isCode c || c.before args0 about1) = true := by decide +kernel
theorem w_tables : (allAtoms (Jvm.Cond.code x code maxLocals ret :: tables_1)).before args0 about1 = true := by
  rw [allAtoms_all]
  show words1.all (fun c => c.before args0 about1) = true
  refine all_split ?_ w_codes
  rw [← List.take_append_drop 24 words1, List.all_append, w_t1, w_t2]
  rfl
set_option maxRecDepth 65536 in
theorem w_case : (Jvm.Cond.and given_1 narrow_1).before args0 about1 = true := by decide +kernel
theorem w_applies : (headSpec (Jvm.Cond.code x code maxLocals ret :: tables_1) room_1).applies x e0.platform about1 = true :=
  (Spec.applies_iff w_frames).mpr ⟨w_running, w_runnable, w_alone, w_named, w_hears, w_ripe, w_room, w_tables⟩
theorem atStart : AtStart classFile x code maxLocals ret World_1 tables_1 room_1 Calls_1 rest_1 Pre_1 launch0 p0 e0 about1 theMethod args0 below0 :=
  ⟨lists_1, trivial, launch0.admits_env _ _ _, launch0.least_env, fairChoices_fair.cas, fairChoices_fair.clock, w_frames, w_args, w_heap, w_applies, trivial, trivial, w_case⟩
end start1
theorem witness_1 : WitnessClaimed_1 := ⟨start1.p0, start1.e0, start1.about1, start1.theMethod, start1.args0, start1.below0, start1.atStart⟩
end Jvm.Pilot.@@N@@
