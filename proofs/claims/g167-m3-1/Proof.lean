import JvmDerived
import JvmDerived.Pilot.@@N@@Statement
import JvmDerived.Pilot.@@N@@Code
set_option linter.unusedVariables false
set_option linter.unusedSimpArgs false
namespace Jvm.RoadKit
open Sem ClassFile Op Lib Jvm.Stand Jvm.Free Jvm.LawKit
section New
variable {p : Program} {l : Launch} {e : Env} {R : Room} {s : State} {m : MethodId} {args : Array Value} {below : List Frame} {meth : Method} {c : Code} {T : State} {locs : List Loc} {cells slots : Nat}
theorem retI (X : Stand p l e R s m args below meth c T locs cells slots) (hx : p.tables.exec = Jvm.exec) {pc : Nat} {Ls : Array Slot} {z : Int32} {rest : List Value} (hret : meth.sig.returnType = some .int) (hd : decode c.code pc = .ok (.ireturn, 1)) {fs : List Frame}
    (hl : ∀ (f : JFrame) (acts : List Action), f.method = m → f.locked = none → f.entered = [] → (doReturn e (T.setTop f) acts (some (.int z))).1 = T.setFrames fs) : Steps p.tables e below (T.setTop (mkF m pc Ls (.int z :: rest))) (T.setFrames fs) := by
  have hm' : T.vm.method? m = some meth := X.method'
  have hn : narrow .int (.int z) = .int z := rfl
  show Steps p.tables e below (T.setTop { method := m, pc := pc, locals := Ls, stack := _ :: rest, locked := none }) _
  jvm_step X.here [X.here.top, hx, hd, hm', hret, hn]
  first | (intro acts; rw [hl _ acts rfl rfl rfl]) | rw [hl _ _ rfl rfl rfl]
  exact Steps.refl _
end New
end Jvm.RoadKit
namespace Jvm.Pilot.@@N@@
open Jvm Jvm.ClassFile Sem Op Lib Jvm.Free Jvm.Stand Jvm.LawKit Jvm.RoadKit Bundle Jvm.Pilot.@@N@@.Jvm.D
theorem pn_0 : plainName "dev/leasehold/server/ValueMemory" = true := by first | (simp [plainName, overriddenIn]; done) | decide +kernel
theorem d_prog_139_method_1_code_0 : decode prog_139_method_1_code 0 = .ok (.aload_n 0, 1) := by decide +kernel
theorem d_prog_139_method_1_code_1 : decode prog_139_method_1_code 1 = .ok (.invokespecial 1, 3) := by decide +kernel
theorem d_prog_139_method_1_code_4 : decode prog_139_method_1_code 4 = .ok (.aload_n 0, 1) := by decide +kernel
theorem d_prog_139_method_1_code_5 : decode prog_139_method_1_code 5 = .ok (.lload_n 1, 1) := by decide +kernel
theorem d_prog_139_method_1_code_6 : decode prog_139_method_1_code 6 = .ok (.putfield 7, 3) := by decide +kernel
theorem d_prog_139_method_1_code_9 : decode prog_139_method_1_code 9 = .ok (.return_, 1) := by decide +kernel
theorem ef_ini (m : MethodId) (ra : Addr) (va : Int64) : entryFrame m #[(.ref ra), (.long va)] 3 = mkF m 0 #[.val (.ref ra), .val (.long va), .second] [] := by first | (simp [entryFrame, mkF, argsToLocals, Value.category]; done) | rfl
def Q_ini (Z : State) (ra : Addr) (va : Int64) (w_limit : Int64) (w_latest : Int64) (h0 : Heap) (n0 : Nat) (v : Option Value) (h : Heap) (L : List Loc) : Prop := v = none ∧ Fr n0 L ∧ Keep h0 h [ra] ∧ (Fld Z h ra "dev/leasehold/server/ValueMemory" "limit" "J" (.long va)) ∧ (Fld Z h ra "dev/leasehold/server/ValueMemory" "latest" "J" (.long w_latest))
set_option maxRecDepth 65536 in
set_option maxHeartbeats 40000000 in
theorem rm_ini (l : Launch) (Z : State) (a0 : Array Value) (hw : ∀ d ∈ tables_1, d.before a0 Z = true) (ws : List Jvm.Cond) (ra : Addr) (va : Int64) (w_limit : Int64) (w_latest : Int64) (h0 : Heap) (n0 : Nat) (Z0 : n0 ≤ h0.size) (E_ra : Exa Z h0 ra "dev/leasehold/server/ValueMemory") (F_limit : Fld Z h0 ra "dev/leasehold/server/ValueMemory" "limit" "J" (.long w_limit)) (F_latest : Fld Z h0 ra "dev/leasehold/server/ValueMemory" "latest" "J" (.long w_latest)) (g_ra : n0 ≤ ra) :
    MetFree l (⟨"dev/leasehold/server/ValueMemory", "<init>", "(J)V"⟩ : MethodName) (head1 (Jvm.Cond.code (⟨"dev/leasehold/server/ValueMemory", "<init>", "(J)V"⟩ : MethodName) prog_139_method_1_code 3 none :: ws) ({ frames := 1, cells := 0, slots := 0, locals := 12 } : Room)) (fun a U => a = #[(.ref ra), (.long va)] ∧ Z.Warmed39 U.vm ∧ U.heap = h0) (fun _ _ _ _ _ => True) (fun _ U o U' => ∃ v L, o = .returned v ∧ Q_ini Z ra va w_limit w_latest h0 n0 v U'.heap L ∧ FrameEnd U o U' L ({ frames := 1, cells := 0, slots := 0, locals := 12 } : Room).cells ({ frames := 1, cells := 0, slots := 0, locals := 12 } : Room).slots) := by
  refine MetFree.of_bodySF (plainFor_of_name pn_0) hisR ?_
  intro p e s m args below meth c s₁ Bd hml0 hP hK
  obtain ⟨rfl, hZ, hh⟩ := hP
  have hx := Bd.exec
  have hby := Bd.bytes
  have hml : c.maxLocals = 3 := hml0
  have hown : s.vm.findClass "dev/leasehold/server/ValueMemory" = some m.cls := findClass_of_methodNamed Bd.named
  have hnm := (name_of_methodNamed Bd.named Bd.method).1
  have X0 : Stand p l e ({ frames := 1, cells := 0, slots := 0, locals := 12 } : Room) s m #[(.ref ra), (.long va)] below meth c s₁ [] 0 0 := Stand.of_body Bd
  have e0 : s₁.heap = h0 := by rw [← hh, Bd.state]; rfl
  have N0 := Fr.nil n0
  have pre0 : ∀ t, Steps p.tables e below (s₁.setTop (mkF m 0 #[.val (.ref ra), .val (.long va), .second] [])) t → Steps p.tables e below (s₁.setTop (entryFrame m #[(.ref ra), (.long va)] 3)) t := fun t k => castTop (ef_ini m ra va) k
  have kp0 : Keep h0 h0 [ra] := Keep.refl h0 _
  obtain ⟨T1, X1, e1, st1⟩ := initO X0 hx hZ hown (hw _ (List.mem_of_getElem? (i := 6) rfl)) (hw _ (List.mem_of_getElem? (i := 7) rfl)) (hw _ (List.mem_of_getElem? (i := 8) rfl)) e0 (g := (mkF m 1 #[.val (.ref ra), .val (.long va), .second] [(.ref ra)])) rfl (by rw [hml]; rfl) rfl (hb hby d_prog_139_method_1_code_1) (by decide) (W := 0) (by show 2 * 0 + _ ≤ _; exact Nat.le_of_eq rfl) (by decide)
  obtain ⟨T2, h2, X2, e2, W2, st2⟩ := putF X1 hx hZ hown (host := "") (Or.inl (hw _ (List.mem_of_getElem? (i := 9) rfl))) Via.refl e1 F_limit E_ra (Or.inr ⟨(hw _ (List.mem_of_getElem? (i := 10) rfl)), rfl, hnm⟩) (hw _ (List.mem_of_getElem? (i := 1) rfl)) (ty := .long) (by decide) rfl rfl (g := (mkF m 6 #[.val (.ref ra), .val (.long va), .second] [(.long va), (.ref ra)])) rfl rfl (hb hby d_prog_139_method_1_code_6)
  have E_ra_2 := E_ra.wr W2
  have F_latest_2 := F_latest.other W2 (Or.inr (slot_ne (Or.inl (hw _ (List.mem_of_getElem? (i := 17) rfl))) (Or.inr (hw _ (List.mem_of_getElem? (i := 10) rfl))) (by decide) (t := .long) (t' := .long) (by decide) (by decide)))
  have Fd_limit_ra_2 := F_limit.same W2
  have Z2 : n0 ≤ h2.size := Nat.le_trans Z0 (Keep.of_wr W2).1
  have kp2 := kp0.wr W2 (Or.inl (List.mem_of_getElem? (i := 0) rfl))
  have N2 := Fr.snoc X2 N0 g_ra
  obtain ⟨fs, hr, hrun, hended, hW, hsame⟩ := X2.leave (v := none) (fun _ => rfl)
  refine ⟨_, _, pre0 _ ?_, hrun, hended, _, _, rfl, ?_, ⟨_, rfl⟩, hW, hsame.mono (by decide) (by decide)⟩
  · show Steps p.tables e below (s₁.setTop (mkF m 0 #[.val (.ref ra), .val (.long va), .second] [])) _
    refine XS.aloadN X0.here hx rfl (hb hby d_prog_139_method_1_code_0) rfl rfl ?_
    show Steps p.tables e below (s₁.setTop (mkF m 1 #[.val (.ref ra), .val (.long va), .second] [(.ref ra)])) _
    refine st1 _ ?_
    show Steps p.tables e below (T1.setTop (mkF m 4 #[.val (.ref ra), .val (.long va), .second] [])) _
    refine XS.aloadN X1.here hx rfl (hb hby d_prog_139_method_1_code_4) rfl rfl ?_
    show Steps p.tables e below (T1.setTop (mkF m 5 #[.val (.ref ra), .val (.long va), .second] [(.ref ra)])) _
    refine XS.lloadN X1.here hx rfl (hb hby d_prog_139_method_1_code_5) rfl ?_
    show Steps p.tables e below (T1.setTop (mkF m 6 #[.val (.ref ra), .val (.long va), .second] [(.long va), (.ref ra)])) _
    refine st2 _ ?_
    show Steps p.tables e below (T2.setTop (mkF m 9 #[.val (.ref ra), .val (.long va), .second] [])) _
    exact X2.returnOut hx Bd.returns (hb hby d_prog_139_method_1_code_9) hr
  · show Q_ini Z ra va w_limit w_latest h0 n0 _ T2.heap _
    rw [e2]
    exact ⟨rfl, N2, kp2, Fd_limit_ra_2, F_latest_2⟩
theorem d_prog_139_method_4_code_0 : decode prog_139_method_4_code 0 = .ok (.aload_n 0, 1) := by decide +kernel
theorem d_prog_139_method_4_code_1 : decode prog_139_method_4_code 1 = .ok (.dup, 1) := by decide +kernel
theorem d_prog_139_method_4_code_2 : decode prog_139_method_4_code 2 = .ok (.getfield 30, 3) := by decide +kernel
theorem d_prog_139_method_4_code_5 : decode prog_139_method_4_code 5 = .ok (.lload_n 3, 1) := by decide +kernel
theorem d_prog_139_method_4_code_6 : decode prog_139_method_4_code 6 = .ok (.lload_n 1, 1) := by decide +kernel
theorem d_prog_139_method_4_code_7 : decode prog_139_method_4_code 7 = .ok (.lsub, 1) := by decide +kernel
theorem d_prog_139_method_4_code_8 : decode prog_139_method_4_code 8 = .ok (.ladd, 1) := by decide +kernel
theorem d_prog_139_method_4_code_9 : decode prog_139_method_4_code 9 = .ok (.putfield 30, 3) := by decide +kernel
theorem d_prog_139_method_4_code_12 : decode prog_139_method_4_code 12 = .ok (.return_, 1) := by decide +kernel
theorem ef_rep (m : MethodId) (ra : Addr) (va : Int64) (vb : Int64) : entryFrame m #[(.ref ra), (.long va), (.long vb)] 5 = mkF m 0 #[.val (.ref ra), .val (.long va), .second, .val (.long vb), .second] [] := by first | (simp [entryFrame, mkF, argsToLocals, Value.category]; done) | rfl
def Q_rep (Z : State) (ra : Addr) (va : Int64) (vb : Int64) (w_limit : Int64) (w_latest : Int64) (h0 : Heap) (n0 : Nat) (v : Option Value) (h : Heap) (L : List Loc) : Prop := v = none ∧ Fr n0 L ∧ Keep h0 h [ra] ∧ (Fld Z h ra "dev/leasehold/server/ValueMemory" "limit" "J" (.long w_limit)) ∧ (Fld Z h ra "dev/leasehold/server/ValueMemory" "latest" "J" (.long (w_latest + (vb - va))))
set_option maxRecDepth 65536 in
set_option maxHeartbeats 40000000 in
theorem rm_rep (l : Launch) (Z : State) (a0 : Array Value) (hw : ∀ d ∈ tables_1, d.before a0 Z = true) (ws : List Jvm.Cond) (ra : Addr) (va : Int64) (vb : Int64) (w_limit : Int64) (w_latest : Int64) (h0 : Heap) (n0 : Nat) (Z0 : n0 ≤ h0.size) (E_ra : Exa Z h0 ra "dev/leasehold/server/ValueMemory") (F_limit : Fld Z h0 ra "dev/leasehold/server/ValueMemory" "limit" "J" (.long w_limit)) (F_latest : Fld Z h0 ra "dev/leasehold/server/ValueMemory" "latest" "J" (.long w_latest)) (g_ra : n0 ≤ ra) :
    MetFree l (⟨"dev/leasehold/server/ValueMemory", "replaceLatest", "(JJ)V"⟩ : MethodName) (head1 (Jvm.Cond.code (⟨"dev/leasehold/server/ValueMemory", "replaceLatest", "(JJ)V"⟩ : MethodName) prog_139_method_4_code 5 none :: ws) ({ frames := 0, cells := 0, slots := 0, locals := 0 } : Room)) (fun a U => a = #[(.ref ra), (.long va), (.long vb)] ∧ Z.Warmed39 U.vm ∧ U.heap = h0) (fun _ _ _ _ _ => True) (fun _ U o U' => ∃ v L, o = .returned v ∧ Q_rep Z ra va vb w_limit w_latest h0 n0 v U'.heap L ∧ FrameEnd U o U' L ({ frames := 0, cells := 0, slots := 0, locals := 0 } : Room).cells ({ frames := 0, cells := 0, slots := 0, locals := 0 } : Room).slots) := by
  refine MetFree.of_bodySF (plainFor_of_name pn_0) hisR ?_
  intro p e s m args below meth c s₁ Bd hml0 hP hK
  obtain ⟨rfl, hZ, hh⟩ := hP
  have hx := Bd.exec
  have hby := Bd.bytes
  have hml : c.maxLocals = 5 := hml0
  have hown : s.vm.findClass "dev/leasehold/server/ValueMemory" = some m.cls := findClass_of_methodNamed Bd.named
  have hnm := (name_of_methodNamed Bd.named Bd.method).1
  have X0 : Stand p l e ({ frames := 0, cells := 0, slots := 0, locals := 0 } : Room) s m #[(.ref ra), (.long va), (.long vb)] below meth c s₁ [] 0 0 := Stand.of_body Bd
  have e0 : s₁.heap = h0 := by rw [← hh, Bd.state]; rfl
  have N0 := Fr.nil n0
  have pre0 : ∀ t, Steps p.tables e below (s₁.setTop (mkF m 0 #[.val (.ref ra), .val (.long va), .second, .val (.long vb), .second] [])) t → Steps p.tables e below (s₁.setTop (entryFrame m #[(.ref ra), (.long va), (.long vb)] 5)) t := fun t k => castTop (ef_rep m ra va vb) k
  have kp0 : Keep h0 h0 [ra] := Keep.refl h0 _
  obtain ⟨T3, X3, e3, st3⟩ := getF X0 hx hZ hown (host := "") (Or.inl (hw _ (List.mem_of_getElem? (i := 16) rfl))) Via.refl e0 F_latest (g := (mkF m 2 #[.val (.ref ra), .val (.long va), .second, .val (.long vb), .second] [(.ref ra), (.ref ra)])) rfl rfl (hb hby d_prog_139_method_4_code_2)
  obtain ⟨T4, h4, X4, e4, W4, st4⟩ := putF X3 hx hZ hown (host := "") (Or.inl (hw _ (List.mem_of_getElem? (i := 16) rfl))) Via.refl e3 F_latest E_ra (Or.inl (hw _ (List.mem_of_getElem? (i := 17) rfl))) (hw _ (List.mem_of_getElem? (i := 1) rfl)) (ty := .long) (by decide) rfl rfl (g := (mkF m 9 #[.val (.ref ra), .val (.long va), .second, .val (.long vb), .second] [(.long (w_latest + (vb - va))), (.ref ra)])) rfl rfl (hb hby d_prog_139_method_4_code_9)
  have E_ra_4 := E_ra.wr W4
  have F_limit_4 := F_limit.other W4 (Or.inr (slot_ne (Or.inr (hw _ (List.mem_of_getElem? (i := 10) rfl))) (Or.inl (hw _ (List.mem_of_getElem? (i := 17) rfl))) (by decide) (t := .long) (t' := .long) (by decide) (by decide)))
  have Fd_latest_ra_4 := F_latest.same W4
  have Z4 : n0 ≤ h4.size := Nat.le_trans Z0 (Keep.of_wr W4).1
  have kp4 := kp0.wr W4 (Or.inl (List.mem_of_getElem? (i := 0) rfl))
  have N4 := Fr.snoc X4 N0 g_ra
  obtain ⟨fs, hr, hrun, hended, hW, hsame⟩ := X4.leave (v := none) (fun _ => rfl)
  refine ⟨_, _, pre0 _ ?_, hrun, hended, _, _, rfl, ?_, ⟨_, rfl⟩, hW, hsame.mono (by decide) (by decide)⟩
  · show Steps p.tables e below (s₁.setTop (mkF m 0 #[.val (.ref ra), .val (.long va), .second, .val (.long vb), .second] [])) _
    refine XS.aloadN X0.here hx rfl (hb hby d_prog_139_method_4_code_0) rfl rfl ?_
    show Steps p.tables e below (s₁.setTop (mkF m 1 #[.val (.ref ra), .val (.long va), .second, .val (.long vb), .second] [(.ref ra)])) _
    refine XS.dup X0.here hx rfl (hb hby d_prog_139_method_4_code_1) rfl rfl ?_
    show Steps p.tables e below (s₁.setTop (mkF m 2 #[.val (.ref ra), .val (.long va), .second, .val (.long vb), .second] [(.ref ra), (.ref ra)])) _
    refine st3 _ ?_
    show Steps p.tables e below (T3.setTop (mkF m 5 #[.val (.ref ra), .val (.long va), .second, .val (.long vb), .second] [(.long w_latest), (.ref ra)])) _
    refine XS.lloadN X3.here hx rfl (hb hby d_prog_139_method_4_code_5) rfl ?_
    show Steps p.tables e below (T3.setTop (mkF m 6 #[.val (.ref ra), .val (.long va), .second, .val (.long vb), .second] [(.long vb), (.long w_latest), (.ref ra)])) _
    refine XS.lloadN X3.here hx rfl (hb hby d_prog_139_method_4_code_6) rfl ?_
    show Steps p.tables e below (T3.setTop (mkF m 7 #[.val (.ref ra), .val (.long va), .second, .val (.long vb), .second] [(.long va), (.long vb), (.long w_latest), (.ref ra)])) _
    refine XS.lsub X3.here hx rfl (hb hby d_prog_139_method_4_code_7) rfl ?_
    show Steps p.tables e below (T3.setTop (mkF m 8 #[.val (.ref ra), .val (.long va), .second, .val (.long vb), .second] [(.long (vb - va)), (.long w_latest), (.ref ra)])) _
    refine XS.ladd X3.here hx rfl (hb hby d_prog_139_method_4_code_8) rfl ?_
    show Steps p.tables e below (T3.setTop (mkF m 9 #[.val (.ref ra), .val (.long va), .second, .val (.long vb), .second] [(.long (w_latest + (vb - va))), (.ref ra)])) _
    refine st4 _ ?_
    show Steps p.tables e below (T4.setTop (mkF m 12 #[.val (.ref ra), .val (.long va), .second, .val (.long vb), .second] [])) _
    exact X4.returnOut hx Bd.returns (hb hby d_prog_139_method_4_code_12) hr
  · show Q_rep Z ra va vb w_limit w_latest h0 n0 _ T4.heap _
    rw [e4]
    exact ⟨rfl, N4, kp4, F_limit_4, Fd_latest_ra_4⟩
theorem d_prog_139_method_3_code_0 : decode prog_139_method_3_code 0 = .ok (.lload_n 3, 1) := by decide +kernel
theorem d_prog_139_method_3_code_1 : decode prog_139_method_3_code 1 = .ok (.lload_n 1, 1) := by decide +kernel
theorem d_prog_139_method_3_code_2 : decode prog_139_method_3_code 2 = .ok (.lcmp, 1) := by decide +kernel
theorem d_prog_139_method_3_code_3 : decode prog_139_method_3_code 3 = .ok (.ifCond .le 19, 3) := by decide +kernel
theorem d_prog_139_method_3_code_6 : decode prog_139_method_3_code 6 = .ok (.aload_n 0, 1) := by decide +kernel
theorem d_prog_139_method_3_code_7 : decode prog_139_method_3_code 7 = .ok (.getfield 30, 3) := by decide +kernel
theorem d_prog_139_method_3_code_10 : decode prog_139_method_3_code 10 = .ok (.lload_n 1, 1) := by decide +kernel
theorem d_prog_139_method_3_code_11 : decode prog_139_method_3_code 11 = .ok (.lsub, 1) := by decide +kernel
theorem d_prog_139_method_3_code_12 : decode prog_139_method_3_code 12 = .ok (.lload_n 3, 1) := by decide +kernel
theorem d_prog_139_method_3_code_13 : decode prog_139_method_3_code 13 = .ok (.ladd, 1) := by decide +kernel
theorem d_prog_139_method_3_code_14 : decode prog_139_method_3_code 14 = .ok (.aload_n 0, 1) := by decide +kernel
theorem d_prog_139_method_3_code_15 : decode prog_139_method_3_code 15 = .ok (.getfield 7, 3) := by decide +kernel
theorem d_prog_139_method_3_code_18 : decode prog_139_method_3_code 18 = .ok (.lcmp, 1) := by decide +kernel
theorem d_prog_139_method_3_code_19 : decode prog_139_method_3_code 19 = .ok (.ifCond .gt 7, 3) := by decide +kernel
theorem d_prog_139_method_3_code_26 : decode prog_139_method_3_code 26 = .ok (.iconst 0, 1) := by decide +kernel
theorem d_prog_139_method_3_code_27 : decode prog_139_method_3_code 27 = .ok (.ireturn, 1) := by decide +kernel
theorem d_prog_139_method_3_code_22 : decode prog_139_method_3_code 22 = .ok (.iconst 1, 1) := by decide +kernel
theorem d_prog_139_method_3_code_23 : decode prog_139_method_3_code 23 = .ok (.goto 4, 3) := by decide +kernel
theorem ef_adm (m : MethodId) (ra : Addr) (va : Int64) (vb : Int64) : entryFrame m #[(.ref ra), (.long va), (.long vb)] 5 = mkF m 0 #[.val (.ref ra), .val (.long va), .second, .val (.long vb), .second] [] := by first | (simp [entryFrame, mkF, argsToLocals, Value.category]; done) | rfl
def Q_adm (Z : State) (ra : Addr) (va : Int64) (vb : Int64) (w_limit : Int64) (w_latest : Int64) (h0 : Heap) (n0 : Nat) (v : Option Value) (h : Heap) (L : List Loc) : Prop := (∃ z : Int32, v = some (.int z) ∧ (z = if va < vb then (if w_limit < ((w_latest - va) + vb) then 0 else 1) else 1)) ∧ Fr n0 L ∧ h = h0
set_option maxRecDepth 65536 in
set_option maxHeartbeats 40000000 in
theorem rm_adm (l : Launch) (Z : State) (a0 : Array Value) (hw : ∀ d ∈ tables_1, d.before a0 Z = true) (ws : List Jvm.Cond) (ra : Addr) (va : Int64) (vb : Int64) (w_limit : Int64) (w_latest : Int64) (h0 : Heap) (n0 : Nat) (Z0 : n0 ≤ h0.size) (E_ra : Exa Z h0 ra "dev/leasehold/server/ValueMemory") (F_limit : Fld Z h0 ra "dev/leasehold/server/ValueMemory" "limit" "J" (.long w_limit)) (F_latest : Fld Z h0 ra "dev/leasehold/server/ValueMemory" "latest" "J" (.long w_latest)) :
    MetFree l (⟨"dev/leasehold/server/ValueMemory", "admits", "(JJ)Z"⟩ : MethodName) (head1 (Jvm.Cond.code (⟨"dev/leasehold/server/ValueMemory", "admits", "(JJ)Z"⟩ : MethodName) prog_139_method_3_code 5 (some .boolean) :: ws) ({ frames := 0, cells := 0, slots := 0, locals := 0 } : Room)) (fun a U => a = #[(.ref ra), (.long va), (.long vb)] ∧ Z.Warmed39 U.vm ∧ U.heap = h0) (fun _ _ _ _ _ => True) (fun _ U o U' => ∃ v L, o = .returned v ∧ Q_adm Z ra va vb w_limit w_latest h0 n0 v U'.heap L ∧ FrameEnd U o U' L ({ frames := 0, cells := 0, slots := 0, locals := 0 } : Room).cells ({ frames := 0, cells := 0, slots := 0, locals := 0 } : Room).slots) := by
  refine MetFree.of_bodySF (plainFor_of_name pn_0) hisR ?_
  intro p e s m args below meth c s₁ Bd hml0 hP hK
  obtain ⟨rfl, hZ, hh⟩ := hP
  have hx := Bd.exec
  have hby := Bd.bytes
  have hml : c.maxLocals = 5 := hml0
  have hown : s.vm.findClass "dev/leasehold/server/ValueMemory" = some m.cls := findClass_of_methodNamed Bd.named
  have hnm := (name_of_methodNamed Bd.named Bd.method).1
  have X0 : Stand p l e ({ frames := 0, cells := 0, slots := 0, locals := 0 } : Room) s m #[(.ref ra), (.long va), (.long vb)] below meth c s₁ [] 0 0 := Stand.of_body Bd
  have e0 : s₁.heap = h0 := by rw [← hh, Bd.state]; rfl
  have N0 := Fr.nil n0
  have pre0 : ∀ t, Steps p.tables e below (s₁.setTop (mkF m 0 #[.val (.ref ra), .val (.long va), .second, .val (.long vb), .second] [])) t → Steps p.tables e below (s₁.setTop (entryFrame m #[(.ref ra), (.long va), (.long vb)] 5)) t := fun t k => castTop (ef_adm m ra va vb) k
  by_cases h3_5 : va < vb
  · obtain ⟨T6, X6, e6, st6⟩ := getF X0 hx hZ hown (host := "") (Or.inl (hw _ (List.mem_of_getElem? (i := 16) rfl))) Via.refl e0 F_latest (g := (mkF m 7 #[.val (.ref ra), .val (.long va), .second, .val (.long vb), .second] [(.ref ra)])) rfl rfl (hb hby d_prog_139_method_3_code_7)
    obtain ⟨T7, X7, e7, st7⟩ := getF X6 hx hZ hown (host := "") (Or.inl (hw _ (List.mem_of_getElem? (i := 9) rfl))) Via.refl e6 F_limit (g := (mkF m 15 #[.val (.ref ra), .val (.long va), .second, .val (.long vb), .second] [(.ref ra), (.long ((w_latest - va) + vb))])) rfl rfl (hb hby d_prog_139_method_3_code_15)
    by_cases h19_8 : w_limit < ((w_latest - va) + vb)
    · obtain ⟨fs, hr, hrun, hended, hW, hsame⟩ := X7.leave (v := some (.int (0 : Int32))) (fun h => by rw [Bd.returns] at h; cases h)
      refine ⟨_, _, pre0 _ ?_, hrun, hended, _, _, rfl, ?_, ⟨_, rfl⟩, hW, hsame.mono (by decide) (by decide)⟩
      · show Steps p.tables e below (s₁.setTop (mkF m 0 #[.val (.ref ra), .val (.long va), .second, .val (.long vb), .second] [])) _
        refine XS.lloadN X0.here hx rfl (hb hby d_prog_139_method_3_code_0) rfl ?_
        show Steps p.tables e below (s₁.setTop (mkF m 1 #[.val (.ref ra), .val (.long va), .second, .val (.long vb), .second] [(.long vb)])) _
        refine XS.lloadN X0.here hx rfl (hb hby d_prog_139_method_3_code_1) rfl ?_
        show Steps p.tables e below (s₁.setTop (mkF m 2 #[.val (.ref ra), .val (.long va), .second, .val (.long vb), .second] [(.long va), (.long vb)])) _
        refine XS.lcmp X0.here hx rfl (hb hby d_prog_139_method_3_code_2) rfl ?_
        show Steps p.tables e below (s₁.setTop (mkF m 3 #[.val (.ref ra), .val (.long va), .second, .val (.long vb), .second] [(.int (lcmpW vb va))])) _
        refine XS.ifNo X0.here hx rfl (hb hby d_prog_139_method_3_code_3) rfl ((if0 _ _).trans (tlt ((lw_gt _ _).mpr h3_5)).2.2.2) ?_
        show Steps p.tables e below (s₁.setTop (mkF m 6 #[.val (.ref ra), .val (.long va), .second, .val (.long vb), .second] [])) _
        refine XS.aloadN X0.here hx rfl (hb hby d_prog_139_method_3_code_6) rfl rfl ?_
        show Steps p.tables e below (s₁.setTop (mkF m 7 #[.val (.ref ra), .val (.long va), .second, .val (.long vb), .second] [(.ref ra)])) _
        refine st6 _ ?_
        show Steps p.tables e below (T6.setTop (mkF m 10 #[.val (.ref ra), .val (.long va), .second, .val (.long vb), .second] [(.long w_latest)])) _
        refine XS.lloadN X6.here hx rfl (hb hby d_prog_139_method_3_code_10) rfl ?_
        show Steps p.tables e below (T6.setTop (mkF m 11 #[.val (.ref ra), .val (.long va), .second, .val (.long vb), .second] [(.long va), (.long w_latest)])) _
        refine XS.lsub X6.here hx rfl (hb hby d_prog_139_method_3_code_11) rfl ?_
        show Steps p.tables e below (T6.setTop (mkF m 12 #[.val (.ref ra), .val (.long va), .second, .val (.long vb), .second] [(.long (w_latest - va))])) _
        refine XS.lloadN X6.here hx rfl (hb hby d_prog_139_method_3_code_12) rfl ?_
        show Steps p.tables e below (T6.setTop (mkF m 13 #[.val (.ref ra), .val (.long va), .second, .val (.long vb), .second] [(.long vb), (.long (w_latest - va))])) _
        refine XS.ladd X6.here hx rfl (hb hby d_prog_139_method_3_code_13) rfl ?_
        show Steps p.tables e below (T6.setTop (mkF m 14 #[.val (.ref ra), .val (.long va), .second, .val (.long vb), .second] [(.long ((w_latest - va) + vb))])) _
        refine XS.aloadN X6.here hx rfl (hb hby d_prog_139_method_3_code_14) rfl rfl ?_
        show Steps p.tables e below (T6.setTop (mkF m 15 #[.val (.ref ra), .val (.long va), .second, .val (.long vb), .second] [(.ref ra), (.long ((w_latest - va) + vb))])) _
        refine st7 _ ?_
        show Steps p.tables e below (T7.setTop (mkF m 18 #[.val (.ref ra), .val (.long va), .second, .val (.long vb), .second] [(.long w_limit), (.long ((w_latest - va) + vb))])) _
        refine XS.lcmp X7.here hx rfl (hb hby d_prog_139_method_3_code_18) rfl ?_
        show Steps p.tables e below (T7.setTop (mkF m 19 #[.val (.ref ra), .val (.long va), .second, .val (.long vb), .second] [(.int (lcmpW ((w_latest - va) + vb) w_limit))])) _
        refine XS.ifYes X7.here hx rfl (pc0 := 19) (pc' := 26) rfl (hb hby d_prog_139_method_3_code_19) rfl ((if0 _ _).trans (tlt ((lw_gt _ _).mpr h19_8)).2.2.1) (by decide) (by decide) ?_
        show Steps p.tables e below (T7.setTop (mkF m 26 #[.val (.ref ra), .val (.long va), .second, .val (.long vb), .second] [])) _
        refine XS.iconst X7.here hx rfl (hb hby d_prog_139_method_3_code_26) ?_
        show Steps p.tables e below (T7.setTop (mkF m 27 #[.val (.ref ra), .val (.long va), .second, .val (.long vb), .second] [(.int (0 : Int32))])) _
        exact retN X7 hx (t := .boolean) Bd.returns (by simp) (hb hby d_prog_139_method_3_code_27) hr
      · show Q_adm Z ra va vb w_limit w_latest h0 n0 _ T7.heap _
        rw [e7]
        exact ⟨⟨_, rfl, by simp [h3_5, h19_8]⟩, N0, rfl⟩
    · obtain ⟨fs, hr, hrun, hended, hW, hsame⟩ := X7.leave (v := some (.int (1 : Int32))) (fun h => by rw [Bd.returns] at h; cases h)
      refine ⟨_, _, pre0 _ ?_, hrun, hended, _, _, rfl, ?_, ⟨_, rfl⟩, hW, hsame.mono (by decide) (by decide)⟩
      · show Steps p.tables e below (s₁.setTop (mkF m 0 #[.val (.ref ra), .val (.long va), .second, .val (.long vb), .second] [])) _
        refine XS.lloadN X0.here hx rfl (hb hby d_prog_139_method_3_code_0) rfl ?_
        show Steps p.tables e below (s₁.setTop (mkF m 1 #[.val (.ref ra), .val (.long va), .second, .val (.long vb), .second] [(.long vb)])) _
        refine XS.lloadN X0.here hx rfl (hb hby d_prog_139_method_3_code_1) rfl ?_
        show Steps p.tables e below (s₁.setTop (mkF m 2 #[.val (.ref ra), .val (.long va), .second, .val (.long vb), .second] [(.long va), (.long vb)])) _
        refine XS.lcmp X0.here hx rfl (hb hby d_prog_139_method_3_code_2) rfl ?_
        show Steps p.tables e below (s₁.setTop (mkF m 3 #[.val (.ref ra), .val (.long va), .second, .val (.long vb), .second] [(.int (lcmpW vb va))])) _
        refine XS.ifNo X0.here hx rfl (hb hby d_prog_139_method_3_code_3) rfl ((if0 _ _).trans (tlt ((lw_gt _ _).mpr h3_5)).2.2.2) ?_
        show Steps p.tables e below (s₁.setTop (mkF m 6 #[.val (.ref ra), .val (.long va), .second, .val (.long vb), .second] [])) _
        refine XS.aloadN X0.here hx rfl (hb hby d_prog_139_method_3_code_6) rfl rfl ?_
        show Steps p.tables e below (s₁.setTop (mkF m 7 #[.val (.ref ra), .val (.long va), .second, .val (.long vb), .second] [(.ref ra)])) _
        refine st6 _ ?_
        show Steps p.tables e below (T6.setTop (mkF m 10 #[.val (.ref ra), .val (.long va), .second, .val (.long vb), .second] [(.long w_latest)])) _
        refine XS.lloadN X6.here hx rfl (hb hby d_prog_139_method_3_code_10) rfl ?_
        show Steps p.tables e below (T6.setTop (mkF m 11 #[.val (.ref ra), .val (.long va), .second, .val (.long vb), .second] [(.long va), (.long w_latest)])) _
        refine XS.lsub X6.here hx rfl (hb hby d_prog_139_method_3_code_11) rfl ?_
        show Steps p.tables e below (T6.setTop (mkF m 12 #[.val (.ref ra), .val (.long va), .second, .val (.long vb), .second] [(.long (w_latest - va))])) _
        refine XS.lloadN X6.here hx rfl (hb hby d_prog_139_method_3_code_12) rfl ?_
        show Steps p.tables e below (T6.setTop (mkF m 13 #[.val (.ref ra), .val (.long va), .second, .val (.long vb), .second] [(.long vb), (.long (w_latest - va))])) _
        refine XS.ladd X6.here hx rfl (hb hby d_prog_139_method_3_code_13) rfl ?_
        show Steps p.tables e below (T6.setTop (mkF m 14 #[.val (.ref ra), .val (.long va), .second, .val (.long vb), .second] [(.long ((w_latest - va) + vb))])) _
        refine XS.aloadN X6.here hx rfl (hb hby d_prog_139_method_3_code_14) rfl rfl ?_
        show Steps p.tables e below (T6.setTop (mkF m 15 #[.val (.ref ra), .val (.long va), .second, .val (.long vb), .second] [(.ref ra), (.long ((w_latest - va) + vb))])) _
        refine st7 _ ?_
        show Steps p.tables e below (T7.setTop (mkF m 18 #[.val (.ref ra), .val (.long va), .second, .val (.long vb), .second] [(.long w_limit), (.long ((w_latest - va) + vb))])) _
        refine XS.lcmp X7.here hx rfl (hb hby d_prog_139_method_3_code_18) rfl ?_
        show Steps p.tables e below (T7.setTop (mkF m 19 #[.val (.ref ra), .val (.long va), .second, .val (.long vb), .second] [(.int (lcmpW ((w_latest - va) + vb) w_limit))])) _
        refine XS.ifNo X7.here hx rfl (hb hby d_prog_139_method_3_code_19) rfl ((if0 _ _).trans (flt (fun q => h19_8 ((lw_gt _ _).mp q))).2.2.1) ?_
        show Steps p.tables e below (T7.setTop (mkF m 22 #[.val (.ref ra), .val (.long va), .second, .val (.long vb), .second] [])) _
        refine XS.iconst X7.here hx rfl (hb hby d_prog_139_method_3_code_22) ?_
        show Steps p.tables e below (T7.setTop (mkF m 23 #[.val (.ref ra), .val (.long va), .second, .val (.long vb), .second] [(.int (1 : Int32))])) _
        refine XS.goto X7.here hx rfl (pc0 := 23) (pc' := 27) rfl (hb hby d_prog_139_method_3_code_23) (by decide) (by decide) ?_
        show Steps p.tables e below (T7.setTop (mkF m 27 #[.val (.ref ra), .val (.long va), .second, .val (.long vb), .second] [(.int (1 : Int32))])) _
        exact retN X7 hx (t := .boolean) Bd.returns (by simp) (hb hby d_prog_139_method_3_code_27) hr
      · show Q_adm Z ra va vb w_limit w_latest h0 n0 _ T7.heap _
        rw [e7]
        exact ⟨⟨_, rfl, by simp [h3_5, h19_8]⟩, N0, rfl⟩
  · obtain ⟨fs, hr, hrun, hended, hW, hsame⟩ := X0.leave (v := some (.int (1 : Int32))) (fun h => by rw [Bd.returns] at h; cases h)
    refine ⟨_, _, pre0 _ ?_, hrun, hended, _, _, rfl, ?_, ⟨_, rfl⟩, hW, hsame.mono (by decide) (by decide)⟩
    · show Steps p.tables e below (s₁.setTop (mkF m 0 #[.val (.ref ra), .val (.long va), .second, .val (.long vb), .second] [])) _
      refine XS.lloadN X0.here hx rfl (hb hby d_prog_139_method_3_code_0) rfl ?_
      show Steps p.tables e below (s₁.setTop (mkF m 1 #[.val (.ref ra), .val (.long va), .second, .val (.long vb), .second] [(.long vb)])) _
      refine XS.lloadN X0.here hx rfl (hb hby d_prog_139_method_3_code_1) rfl ?_
      show Steps p.tables e below (s₁.setTop (mkF m 2 #[.val (.ref ra), .val (.long va), .second, .val (.long vb), .second] [(.long va), (.long vb)])) _
      refine XS.lcmp X0.here hx rfl (hb hby d_prog_139_method_3_code_2) rfl ?_
      show Steps p.tables e below (s₁.setTop (mkF m 3 #[.val (.ref ra), .val (.long va), .second, .val (.long vb), .second] [(.int (lcmpW vb va))])) _
      refine XS.ifYes X0.here hx rfl (pc0 := 3) (pc' := 22) rfl (hb hby d_prog_139_method_3_code_3) rfl ((if0 _ _).trans (flt (fun q => h3_5 ((lw_gt _ _).mp q))).2.2.2) (by decide) (by decide) ?_
      show Steps p.tables e below (s₁.setTop (mkF m 22 #[.val (.ref ra), .val (.long va), .second, .val (.long vb), .second] [])) _
      refine XS.iconst X0.here hx rfl (hb hby d_prog_139_method_3_code_22) ?_
      show Steps p.tables e below (s₁.setTop (mkF m 23 #[.val (.ref ra), .val (.long va), .second, .val (.long vb), .second] [(.int (1 : Int32))])) _
      refine XS.goto X0.here hx rfl (pc0 := 23) (pc' := 27) rfl (hb hby d_prog_139_method_3_code_23) (by decide) (by decide) ?_
      show Steps p.tables e below (s₁.setTop (mkF m 27 #[.val (.ref ra), .val (.long va), .second, .val (.long vb), .second] [(.int (1 : Int32))])) _
      exact retN X0 hx (t := .boolean) Bd.returns (by simp) (hb hby d_prog_139_method_3_code_27) hr
    · show Q_adm Z ra va vb w_limit w_latest h0 n0 _ s₁.heap _
      rw [e0]
      exact ⟨⟨_, rfl, by simp [h3_5]⟩, N0, rfl⟩
theorem own_e (vl a1 b1 a2 b2 vq : Int64) : (if (0 : Int64) < vq then (if vl < (((((0 : Int64) + (b1 - a1)) + (b2 - a2)) - (0 : Int64)) + vq) then (0 : Int32) else 1) else 1) = if (0 : Int64) < vq then (if vl < (((b1 - a1) + (b2 - a2)) + vq) then (0 : Int32) else 1) else 1 := by
  have e : ((((0 : Int64) + (b1 - a1)) + (b2 - a2)) - (0 : Int64)) = ((b1 - a1) + (b2 - a2)) := by rw [Int64.sub_zero, Int64.zero_add]
  rw [e]
theorem pn_1 : plainName "dev/leasehold/server/ValueMemoryReplaceLatestPinLaw" = true := by first | (simp [plainName, overriddenIn]; done) | decide +kernel
theorem pd_0 : parseMethodDescriptor "(J)V" = some ⟨[.long], none⟩ := by decide +kernel
theorem pd_1 : parseMethodDescriptor "(JJ)V" = some ⟨[.long, .long], none⟩ := by decide +kernel
theorem pd_2 : parseMethodDescriptor "(JJ)Z" = some ⟨[.long, .long], some .boolean⟩ := by decide +kernel
theorem ef_law (m : MethodId) (vl : Int64) (a1 : Int64) (b1 : Int64) (a2 : Int64) (b2 : Int64) (vq : Int64) : entryFrame m #[(.long vl), (.long a1), (.long b1), (.long a2), (.long b2), (.long vq)] maxLocals = mkF m 0 #[.val (.long vl), .second, .val (.long a1), .second, .val (.long b1), .second, .val (.long a2), .second, .val (.long b2), .second, .val (.long vq), .second, .unset, .unset, .unset, .unset] [] := by first | (simp [entryFrame, mkF, argsToLocals, Value.category, maxLocals]; done) | rfl
def Q_law (Z : State) (vl : Int64) (a1 : Int64) (b1 : Int64) (a2 : Int64) (b2 : Int64) (vq : Int64) (h0 : Heap) (n0 : Nat) (v : Option Value) (h : Heap) (L : List Loc) : Prop := v = some (.int 1) ∧ Fr n0 L
set_option maxRecDepth 65536 in
set_option maxHeartbeats 40000000 in
theorem rm_law (l : Launch) (Z : State) (a0 : Array Value) (hw : ∀ d ∈ tables_1, d.before a0 Z = true) (ws : List Jvm.Cond) (vl : Int64) (a1 : Int64) (b1 : Int64) (a2 : Int64) (b2 : Int64) (vq : Int64) (h0 : Heap) (n0 : Nat) (Z0 : n0 ≤ h0.size) :
    MetFree l x (head1 (Jvm.Cond.code x code maxLocals ret :: ws) room_1) (fun a U => a = #[(.long vl), (.long a1), (.long b1), (.long a2), (.long b2), (.long vq)] ∧ Z.Warmed39 U.vm ∧ U.heap = h0) (fun _ _ _ _ _ => True) (fun _ U o U' => ∃ v L, o = .returned v ∧ Q_law Z vl a1 b1 a2 b2 vq h0 n0 v U'.heap L ∧ FrameEnd U o U' L room_1.cells room_1.slots) := by
  refine MetFree.of_bodySF (plainFor_of_name pn_1) hisR ?_
  intro p e s m args below meth c s₁ Bd hml0 hP hK
  obtain ⟨rfl, hZ, hh⟩ := hP
  have hx := Bd.exec
  have hby := Bd.bytes
  have hml : c.maxLocals = 16 := hml0
  have hown : s.vm.findClass "dev/leasehold/server/ValueMemoryReplaceLatestPinLaw" = some m.cls := findClass_of_methodNamed Bd.named
  have hnm := (name_of_methodNamed Bd.named Bd.method).1
  have X0 : Stand p l e room_1 s m #[(.long vl), (.long a1), (.long b1), (.long a2), (.long b2), (.long vq)] below meth c s₁ [] 0 0 := Stand.of_body Bd
  have e0 : s₁.heap = h0 := by rw [← hh, Bd.state]; rfl
  have N0 := Fr.nil n0
  have pre0 : ∀ t, Steps p.tables e below (s₁.setTop (mkF m 0 #[.val (.long vl), .second, .val (.long a1), .second, .val (.long b1), .second, .val (.long a2), .second, .val (.long b2), .second, .val (.long vq), .second, .unset, .unset, .unset, .unset] [])) t → Steps p.tables e below (s₁.setTop (entryFrame m #[(.long vl), (.long a1), (.long b1), (.long a2), (.long b2), (.long vq)] maxLocals)) t := fun t k => castTop (ef_law m vl a1 b1 a2 b2 vq) k
  obtain ⟨T9, h9, X9, e9, E9, A9, D9, -, st9⟩ := newO X0 hx hZ hown (hw _ (List.mem_of_getElem? (i := 0) rfl)) (hw _ (List.mem_of_getElem? (i := 1) rfl)) (hw _ (List.mem_of_getElem? (i := 2) rfl)) e0 (g := (mkF m 0 #[.val (.long vl), .second, .val (.long a1), .second, .val (.long b1), .second, .val (.long a2), .second, .val (.long b2), .second, .val (.long vq), .second, .unset, .unset, .unset, .unset] [])) rfl (hb hby at_0) (by decide) (by decide)
  obtain ⟨b9, g9⟩ : ∃ z, z = h0.size := ⟨_, rfl⟩
  rw [← g9] at A9 D9 st9
  have g_b9 : n0 ≤ b9 := Nat.le_trans Z0 (Nat.le_of_eq g9.symm)
  have Z9 : n0 ≤ h9.size := Nat.le_trans Z0 E9.1
  have Ex_b9_9 := A9
  have Fd_limit_b9_9 : Fld Z h9 b9 "dev/leasehold/server/ValueMemory" "limit" "J" (.long (0 : Int64)) := D9 (Or.inr (hw _ (List.mem_of_getElem? (i := 10) rfl))) (ty := .long) (by decide)
  have Fd_latest_b9_9 : Fld Z h9 b9 "dev/leasehold/server/ValueMemory" "latest" "J" (.long (0 : Int64)) := D9 (Or.inl (hw _ (List.mem_of_getElem? (i := 17) rfl))) (ty := .long) (by decide)
  obtain ⟨_, _, ⟨T10, L10, k10, n10⟩, -, X10, ⟨Lc10, hQ10, l10, y10, z10⟩, st10⟩ := X9.specialBack hx (y := (⟨"dev/leasehold/server/ValueMemory", "<init>", "(J)V"⟩ : MethodName)) rfl hown (mvT hZ (hw _ (List.mem_of_getElem? (i := 3) rfl))) (mvT hZ (hw _ (List.mem_of_getElem? (i := 4) rfl))) (mvT hZ (hw _ (List.mem_of_getElem? (i := 5) rfl))) (by decide) (backOf (W := 1) (rm_ini l Z a0 hw [] b9 vl (0 : Int64) (0 : Int64) h9 n0 Z9 Ex_b9_9 Fd_limit_b9_9 Fd_latest_b9_9 g_b9) hZ (hw _ (List.mem_of_getElem? (i := 5) rfl)) (hw _ (List.mem_of_getElem? (i := 2) rfl)) (by decide) (by decide)) (g := (mkF m 5 #[.val (.long vl), .second, .val (.long a1), .second, .val (.long b1), .second, .val (.long a2), .second, .val (.long b2), .second, .val (.long vq), .second, .unset, .unset, .unset, .unset] [(.long vl), (.ref b9), (.ref b9)])) rfl (by rw [hml]; rfl) (Steps.refl _) (a := b9) (argsL := [(.long vl)]) (rest := [(.ref b9)]) (lenOf pd_0 rfl) rfl (by show 2 * 0 + _ ≤ _; exact Nat.le_of_eq rfl) (hb hby at_5) (fun _ _ => ⟨rfl, e9, (by decide : 1 + 0 ≤ _), (by decide : 3 + 0 ≤ _)⟩)
  dsimp only [Pt.U, Pt.locs, Pt.cells, Pt.slots] at X10 l10 y10 z10 st10 hQ10
  subst l10 y10 z10
  obtain ⟨rfl, N10q, K10, Fq_limit_10, Fq_latest_10⟩ := hQ10
  have N10 := Fr.app N0 N10q
  have Ex_b9_10 := Ex_b9_9.keep K10
  have Z10 : n0 ≤ T10.heap.size := Nat.le_trans Z9 K10.1
  obtain ⟨cq11, kq11, q11a, q11b, q11c⟩ := isOf hZ rfl Ex_b9_10
  obtain ⟨_, _, ⟨T11, L11, k11, n11⟩, -, X11, ⟨Lc11, hQ11, l11, y11, z11⟩, st11⟩ := X10.virtualBack hx (y := (⟨"dev/leasehold/server/ValueMemory", "replaceLatest", "(JJ)V"⟩ : MethodName)) (z := (⟨"dev/leasehold/server/ValueMemory", "replaceLatest", "(JJ)V"⟩ : MethodName)) hown (mvT hZ (hw _ (List.mem_of_getElem? (i := 11) rfl))) (mvT hZ (hw _ (List.mem_of_getElem? (i := 12) rfl))) (notFace_of_selects (args := #[]) (mvT hZ (hw _ (List.mem_of_getElem? (i := 14) rfl)))) (mvT hZ (hw _ (List.mem_of_getElem? (i := 14) rfl))) (mvT hZ (hw _ (List.mem_of_getElem? (i := 13) rfl))) (by decide) (backOf (W := 0) (rm_rep l Z a0 hw [] b9 a1 b1 vl (0 : Int64) T10.heap n0 Z10 Ex_b9_10 Fq_limit_10 Fq_latest_10 g_b9) hZ (hw _ (List.mem_of_getElem? (i := 15) rfl)) (hw _ (List.mem_of_getElem? (i := 2) rfl)) (by decide) (by decide)) q11a q11c (g := (mkF m 15 #[.val (.long vl), .second, .val (.long a1), .second, .val (.long b1), .second, .val (.long a2), .second, .val (.long b2), .second, .val (.long vq), .second, .val (.ref b9), .unset, .unset, .unset] [(.long b1), (.long a1), (.ref b9)])) rfl (by rw [hml]; rfl) (Steps.refl _) (argsL := [(.long a1), (.long b1)]) (rest := []) (lenOf pd_1 rfl) rfl (by show 2 * 0 + _ ≤ _; exact Nat.le_of_eq rfl) (hb hby at_15) (fun _ _ => ⟨rfl, rfl, (by decide : 1 + 0 ≤ _), (by decide : 3 + 0 ≤ _)⟩)
  dsimp only [Pt.U, Pt.locs, Pt.cells, Pt.slots] at X11 l11 y11 z11 st11 hQ11
  subst l11 y11 z11
  obtain ⟨rfl, N11q, K11, Fq_limit_11, Fq_latest_11⟩ := hQ11
  have N11 := Fr.app N10 N11q
  have Ex_b9_11 := Ex_b9_10.keep K11
  have Z11 : n0 ≤ T11.heap.size := Nat.le_trans Z10 K11.1
  obtain ⟨cq12, kq12, q12a, q12b, q12c⟩ := isOf hZ rfl Ex_b9_11
  obtain ⟨_, _, ⟨T12, L12, k12, n12⟩, -, X12, ⟨Lc12, hQ12, l12, y12, z12⟩, st12⟩ := X11.virtualBack hx (y := (⟨"dev/leasehold/server/ValueMemory", "replaceLatest", "(JJ)V"⟩ : MethodName)) (z := (⟨"dev/leasehold/server/ValueMemory", "replaceLatest", "(JJ)V"⟩ : MethodName)) hown (mvT hZ (hw _ (List.mem_of_getElem? (i := 11) rfl))) (mvT hZ (hw _ (List.mem_of_getElem? (i := 12) rfl))) (notFace_of_selects (args := #[]) (mvT hZ (hw _ (List.mem_of_getElem? (i := 14) rfl)))) (mvT hZ (hw _ (List.mem_of_getElem? (i := 14) rfl))) (mvT hZ (hw _ (List.mem_of_getElem? (i := 13) rfl))) (by decide) (backOf (W := 0) (rm_rep l Z a0 hw [] b9 a2 b2 vl ((0 : Int64) + (b1 - a1)) T11.heap n0 Z11 Ex_b9_11 Fq_limit_11 Fq_latest_11 g_b9) hZ (hw _ (List.mem_of_getElem? (i := 15) rfl)) (hw _ (List.mem_of_getElem? (i := 2) rfl)) (by decide) (by decide)) q12a q12c (g := (mkF m 24 #[.val (.long vl), .second, .val (.long a1), .second, .val (.long b1), .second, .val (.long a2), .second, .val (.long b2), .second, .val (.long vq), .second, .val (.ref b9), .unset, .unset, .unset] [(.long b2), (.long a2), (.ref b9)])) rfl (by rw [hml]; rfl) (Steps.refl _) (argsL := [(.long a2), (.long b2)]) (rest := []) (lenOf pd_1 rfl) rfl (by show 2 * 0 + _ ≤ _; exact Nat.le_of_eq rfl) (hb hby at_24) (fun _ _ => ⟨rfl, rfl, (by decide : 1 + 0 ≤ _), (by decide : 3 + 0 ≤ _)⟩)
  dsimp only [Pt.U, Pt.locs, Pt.cells, Pt.slots] at X12 l12 y12 z12 st12 hQ12
  subst l12 y12 z12
  obtain ⟨rfl, N12q, K12, Fq_limit_12, Fq_latest_12⟩ := hQ12
  have N12 := Fr.app N11 N12q
  have Ex_b9_12 := Ex_b9_11.keep K12
  have Z12 : n0 ≤ T12.heap.size := Nat.le_trans Z11 K12.1
  obtain ⟨z13, hz13⟩ : ∃ z : Int32, z = if (0 : Int64) < vq then (if vl < (((b1 - a1) + (b2 - a2)) + vq) then (0 : Int32) else 1) else 1 := ⟨_, rfl⟩
  have seg13 : ∀ t, Steps p.tables e below (T12.setTop (mkF m 61 #[.val (.long vl), .second, .val (.long a1), .second, .val (.long b1), .second, .val (.long a2), .second, .val (.long b2), .second, .val (.long vq), .second, .val (.ref b9), .val (.long ((b1 - a1) + (b2 - a2))), .second, .unset] [(.int z13)])) t → Steps p.tables e below (T12.setTop (mkF m 39 #[.val (.long vl), .second, .val (.long a1), .second, .val (.long b1), .second, .val (.long a2), .second, .val (.long b2), .second, .val (.long vq), .second, .val (.ref b9), .val (.long ((b1 - a1) + (b2 - a2))), .second, .unset] [])) t := by
    intro t kt
    show Steps p.tables e below (T12.setTop (mkF m 39 #[.val (.long vl), .second, .val (.long a1), .second, .val (.long b1), .second, .val (.long a2), .second, .val (.long b2), .second, .val (.long vq), .second, .val (.ref b9), .val (.long ((b1 - a1) + (b2 - a2))), .second, .unset] [])) _
    refine XS.lload X12.here hx rfl (hb hby at_39) rfl ?_
    show Steps p.tables e below (T12.setTop (mkF m 41 #[.val (.long vl), .second, .val (.long a1), .second, .val (.long b1), .second, .val (.long a2), .second, .val (.long b2), .second, .val (.long vq), .second, .val (.ref b9), .val (.long ((b1 - a1) + (b2 - a2))), .second, .unset] [(.long vq)])) _
    refine XS.lconst X12.here hx rfl (hb hby at_41) ?_
    show Steps p.tables e below (T12.setTop (mkF m 42 #[.val (.long vl), .second, .val (.long a1), .second, .val (.long b1), .second, .val (.long a2), .second, .val (.long b2), .second, .val (.long vq), .second, .val (.ref b9), .val (.long ((b1 - a1) + (b2 - a2))), .second, .unset] [(.long (0 : Int64)), (.long vq)])) _
    refine XS.lcmp X12.here hx rfl (hb hby at_42) rfl ?_
    show Steps p.tables e below (T12.setTop (mkF m 43 #[.val (.long vl), .second, .val (.long a1), .second, .val (.long b1), .second, .val (.long a2), .second, .val (.long b2), .second, .val (.long vq), .second, .val (.ref b9), .val (.long ((b1 - a1) + (b2 - a2))), .second, .unset] [(.int (lcmpW vq (0 : Int64)))])) _
    by_cases h43_14 : (0 : Int64) < vq
    · refine XS.ifNo X12.here hx rfl (hb hby at_43) rfl ((if0 _ _).trans (tlt ((lw_gt _ _).mpr h43_14)).2.2.2) ?_
      show Steps p.tables e below (T12.setTop (mkF m 46 #[.val (.long vl), .second, .val (.long a1), .second, .val (.long b1), .second, .val (.long a2), .second, .val (.long b2), .second, .val (.long vq), .second, .val (.ref b9), .val (.long ((b1 - a1) + (b2 - a2))), .second, .unset] [])) _
      refine XS.lload X12.here hx rfl (hb hby at_46) rfl ?_
      show Steps p.tables e below (T12.setTop (mkF m 48 #[.val (.long vl), .second, .val (.long a1), .second, .val (.long b1), .second, .val (.long a2), .second, .val (.long b2), .second, .val (.long vq), .second, .val (.ref b9), .val (.long ((b1 - a1) + (b2 - a2))), .second, .unset] [(.long ((b1 - a1) + (b2 - a2)))])) _
      refine XS.lload X12.here hx rfl (hb hby at_48) rfl ?_
      show Steps p.tables e below (T12.setTop (mkF m 50 #[.val (.long vl), .second, .val (.long a1), .second, .val (.long b1), .second, .val (.long a2), .second, .val (.long b2), .second, .val (.long vq), .second, .val (.ref b9), .val (.long ((b1 - a1) + (b2 - a2))), .second, .unset] [(.long vq), (.long ((b1 - a1) + (b2 - a2)))])) _
      refine XS.ladd X12.here hx rfl (hb hby at_50) rfl ?_
      show Steps p.tables e below (T12.setTop (mkF m 51 #[.val (.long vl), .second, .val (.long a1), .second, .val (.long b1), .second, .val (.long a2), .second, .val (.long b2), .second, .val (.long vq), .second, .val (.ref b9), .val (.long ((b1 - a1) + (b2 - a2))), .second, .unset] [(.long (((b1 - a1) + (b2 - a2)) + vq))])) _
      refine XS.lloadN X12.here hx rfl (hb hby at_51) rfl ?_
      show Steps p.tables e below (T12.setTop (mkF m 52 #[.val (.long vl), .second, .val (.long a1), .second, .val (.long b1), .second, .val (.long a2), .second, .val (.long b2), .second, .val (.long vq), .second, .val (.ref b9), .val (.long ((b1 - a1) + (b2 - a2))), .second, .unset] [(.long vl), (.long (((b1 - a1) + (b2 - a2)) + vq))])) _
      refine XS.lcmp X12.here hx rfl (hb hby at_52) rfl ?_
      show Steps p.tables e below (T12.setTop (mkF m 53 #[.val (.long vl), .second, .val (.long a1), .second, .val (.long b1), .second, .val (.long a2), .second, .val (.long b2), .second, .val (.long vq), .second, .val (.ref b9), .val (.long ((b1 - a1) + (b2 - a2))), .second, .unset] [(.int (lcmpW (((b1 - a1) + (b2 - a2)) + vq) vl))])) _
      by_cases h53_15 : vl < (((b1 - a1) + (b2 - a2)) + vq)
      · refine XS.ifYes X12.here hx rfl (pc0 := 53) (pc' := 60) rfl (hb hby at_53) rfl ((if0 _ _).trans (tlt ((lw_gt _ _).mpr h53_15)).2.2.1) (by decide) (by decide) ?_
        show Steps p.tables e below (T12.setTop (mkF m 60 #[.val (.long vl), .second, .val (.long a1), .second, .val (.long b1), .second, .val (.long a2), .second, .val (.long b2), .second, .val (.long vq), .second, .val (.ref b9), .val (.long ((b1 - a1) + (b2 - a2))), .second, .unset] [])) _
        refine XS.iconst X12.here hx rfl (hb hby at_60) ?_
        have qz13 : z13 = (0 : Int32) := hz13.trans (by simp [h43_14, h53_15])
        rw [qz13] at kt
        exact kt
      · refine XS.ifNo X12.here hx rfl (hb hby at_53) rfl ((if0 _ _).trans (flt (fun q => h53_15 ((lw_gt _ _).mp q))).2.2.1) ?_
        show Steps p.tables e below (T12.setTop (mkF m 56 #[.val (.long vl), .second, .val (.long a1), .second, .val (.long b1), .second, .val (.long a2), .second, .val (.long b2), .second, .val (.long vq), .second, .val (.ref b9), .val (.long ((b1 - a1) + (b2 - a2))), .second, .unset] [])) _
        refine XS.iconst X12.here hx rfl (hb hby at_56) ?_
        show Steps p.tables e below (T12.setTop (mkF m 57 #[.val (.long vl), .second, .val (.long a1), .second, .val (.long b1), .second, .val (.long a2), .second, .val (.long b2), .second, .val (.long vq), .second, .val (.ref b9), .val (.long ((b1 - a1) + (b2 - a2))), .second, .unset] [(.int (1 : Int32))])) _
        refine XS.goto X12.here hx rfl (pc0 := 57) (pc' := 61) rfl (hb hby at_57) (by decide) (by decide) ?_
        have qz13 : z13 = (1 : Int32) := hz13.trans (by simp [h43_14, h53_15])
        rw [qz13] at kt
        exact kt
    · refine XS.ifYes X12.here hx rfl (pc0 := 43) (pc' := 56) rfl (hb hby at_43) rfl ((if0 _ _).trans (flt (fun q => h43_14 ((lw_gt _ _).mp q))).2.2.2) (by decide) (by decide) ?_
      show Steps p.tables e below (T12.setTop (mkF m 56 #[.val (.long vl), .second, .val (.long a1), .second, .val (.long b1), .second, .val (.long a2), .second, .val (.long b2), .second, .val (.long vq), .second, .val (.ref b9), .val (.long ((b1 - a1) + (b2 - a2))), .second, .unset] [])) _
      refine XS.iconst X12.here hx rfl (hb hby at_56) ?_
      show Steps p.tables e below (T12.setTop (mkF m 57 #[.val (.long vl), .second, .val (.long a1), .second, .val (.long b1), .second, .val (.long a2), .second, .val (.long b2), .second, .val (.long vq), .second, .val (.ref b9), .val (.long ((b1 - a1) + (b2 - a2))), .second, .unset] [(.int (1 : Int32))])) _
      refine XS.goto X12.here hx rfl (pc0 := 57) (pc' := 61) rfl (hb hby at_57) (by decide) (by decide) ?_
      have qz13 : z13 = (1 : Int32) := hz13.trans (by simp [h43_14])
      rw [qz13] at kt
      exact kt
  obtain ⟨cq16, kq16, q16a, q16b, q16c⟩ := isOf hZ rfl Ex_b9_12
  obtain ⟨_, _, ⟨T16, L16, k16, n16⟩, -, X16, ⟨Lc16, hQ16, l16, y16, z16⟩, st16⟩ := X12.virtualBack hx (y := (⟨"dev/leasehold/server/ValueMemory", "admits", "(JJ)Z"⟩ : MethodName)) (z := (⟨"dev/leasehold/server/ValueMemory", "admits", "(JJ)Z"⟩ : MethodName)) hown (mvT hZ (hw _ (List.mem_of_getElem? (i := 18) rfl))) (mvT hZ (hw _ (List.mem_of_getElem? (i := 19) rfl))) (notFace_of_selects (args := #[]) (mvT hZ (hw _ (List.mem_of_getElem? (i := 21) rfl)))) (mvT hZ (hw _ (List.mem_of_getElem? (i := 21) rfl))) (mvT hZ (hw _ (List.mem_of_getElem? (i := 20) rfl))) (by decide) (backOf (W := 0) (rm_adm l Z a0 hw [] b9 (0 : Int64) vq vl (((0 : Int64) + (b1 - a1)) + (b2 - a2)) T12.heap n0 Z12 Ex_b9_12 Fq_limit_12 Fq_latest_12) hZ (hw _ (List.mem_of_getElem? (i := 22) rfl)) (hw _ (List.mem_of_getElem? (i := 2) rfl)) (by decide) (by decide)) q16a q16c (g := (mkF m 68 #[.val (.long vl), .second, .val (.long a1), .second, .val (.long b1), .second, .val (.long a2), .second, .val (.long b2), .second, .val (.long vq), .second, .val (.ref b9), .val (.long ((b1 - a1) + (b2 - a2))), .second, .val (.int z13)] [(.long vq), (.long (0 : Int64)), (.ref b9)])) rfl (by rw [hml]; rfl) (Steps.refl _) (argsL := [(.long (0 : Int64)), (.long vq)]) (rest := []) (lenOf pd_2 rfl) rfl (by show 2 * 0 + _ ≤ _; exact Nat.le_of_eq rfl) (hb hby at_68) (fun _ _ => ⟨rfl, rfl, (by decide : 1 + 0 ≤ _), (by decide : 3 + 0 ≤ _)⟩)
  dsimp only [Pt.U, Pt.locs, Pt.cells, Pt.slots] at X16 l16 y16 z16 st16 hQ16
  subst l16 y16 z16
  obtain ⟨⟨r16, rfl, hr16⟩, N16q, e16⟩ := hQ16
  have N16 := Fr.app N12 N16q
  obtain ⟨fs, hr, hrun, hended, hW, hsame⟩ := X16.leave (v := some (.int (1 : Int32))) (fun h => by rw [Bd.returns] at h; cases h)
  refine ⟨_, _, pre0 _ ?_, hrun, hended, _, _, rfl, ?_, ⟨_, rfl⟩, hW, hsame.mono (by decide) (by decide)⟩
  · show Steps p.tables e below (s₁.setTop (mkF m 0 #[.val (.long vl), .second, .val (.long a1), .second, .val (.long b1), .second, .val (.long a2), .second, .val (.long b2), .second, .val (.long vq), .second, .unset, .unset, .unset, .unset] [])) _
    refine st9 _ ?_
    show Steps p.tables e below (T9.setTop (mkF m 3 #[.val (.long vl), .second, .val (.long a1), .second, .val (.long b1), .second, .val (.long a2), .second, .val (.long b2), .second, .val (.long vq), .second, .unset, .unset, .unset, .unset] [(.ref b9)])) _
    refine XS.dup X9.here hx rfl (hb hby at_3) rfl rfl ?_
    show Steps p.tables e below (T9.setTop (mkF m 4 #[.val (.long vl), .second, .val (.long a1), .second, .val (.long b1), .second, .val (.long a2), .second, .val (.long b2), .second, .val (.long vq), .second, .unset, .unset, .unset, .unset] [(.ref b9), (.ref b9)])) _
    refine XS.lloadN X9.here hx rfl (hb hby at_4) rfl ?_
    show Steps p.tables e below (T9.setTop (mkF m 5 #[.val (.long vl), .second, .val (.long a1), .second, .val (.long b1), .second, .val (.long a2), .second, .val (.long b2), .second, .val (.long vq), .second, .unset, .unset, .unset, .unset] [(.long vl), (.ref b9), (.ref b9)])) _
    refine st10.trans ?_
    show Steps p.tables e below (T10.setTop (mkF m 8 #[.val (.long vl), .second, .val (.long a1), .second, .val (.long b1), .second, .val (.long a2), .second, .val (.long b2), .second, .val (.long vq), .second, .unset, .unset, .unset, .unset] [(.ref b9)])) _
    refine XS.astore X10.here hx rfl (hb hby at_8) rfl rfl (l' := #[.val (.long vl), .second, .val (.long a1), .second, .val (.long b1), .second, .val (.long a2), .second, .val (.long b2), .second, .val (.long vq), .second, .val (.ref b9), .unset, .unset, .unset]) rfl ?_
    show Steps p.tables e below (T10.setTop (mkF m 10 #[.val (.long vl), .second, .val (.long a1), .second, .val (.long b1), .second, .val (.long a2), .second, .val (.long b2), .second, .val (.long vq), .second, .val (.ref b9), .unset, .unset, .unset] [])) _
    refine XS.aload X10.here hx rfl (hb hby at_10) rfl rfl ?_
    show Steps p.tables e below (T10.setTop (mkF m 12 #[.val (.long vl), .second, .val (.long a1), .second, .val (.long b1), .second, .val (.long a2), .second, .val (.long b2), .second, .val (.long vq), .second, .val (.ref b9), .unset, .unset, .unset] [(.ref b9)])) _
    refine XS.lloadN X10.here hx rfl (hb hby at_12) rfl ?_
    show Steps p.tables e below (T10.setTop (mkF m 13 #[.val (.long vl), .second, .val (.long a1), .second, .val (.long b1), .second, .val (.long a2), .second, .val (.long b2), .second, .val (.long vq), .second, .val (.ref b9), .unset, .unset, .unset] [(.long a1), (.ref b9)])) _
    refine XS.lload X10.here hx rfl (hb hby at_13) rfl ?_
    show Steps p.tables e below (T10.setTop (mkF m 15 #[.val (.long vl), .second, .val (.long a1), .second, .val (.long b1), .second, .val (.long a2), .second, .val (.long b2), .second, .val (.long vq), .second, .val (.ref b9), .unset, .unset, .unset] [(.long b1), (.long a1), (.ref b9)])) _
    refine st11.trans ?_
    show Steps p.tables e below (T11.setTop (mkF m 18 #[.val (.long vl), .second, .val (.long a1), .second, .val (.long b1), .second, .val (.long a2), .second, .val (.long b2), .second, .val (.long vq), .second, .val (.ref b9), .unset, .unset, .unset] [])) _
    refine XS.aload X11.here hx rfl (hb hby at_18) rfl rfl ?_
    show Steps p.tables e below (T11.setTop (mkF m 20 #[.val (.long vl), .second, .val (.long a1), .second, .val (.long b1), .second, .val (.long a2), .second, .val (.long b2), .second, .val (.long vq), .second, .val (.ref b9), .unset, .unset, .unset] [(.ref b9)])) _
    refine XS.lload X11.here hx rfl (hb hby at_20) rfl ?_
    show Steps p.tables e below (T11.setTop (mkF m 22 #[.val (.long vl), .second, .val (.long a1), .second, .val (.long b1), .second, .val (.long a2), .second, .val (.long b2), .second, .val (.long vq), .second, .val (.ref b9), .unset, .unset, .unset] [(.long a2), (.ref b9)])) _
    refine XS.lload X11.here hx rfl (hb hby at_22) rfl ?_
    show Steps p.tables e below (T11.setTop (mkF m 24 #[.val (.long vl), .second, .val (.long a1), .second, .val (.long b1), .second, .val (.long a2), .second, .val (.long b2), .second, .val (.long vq), .second, .val (.ref b9), .unset, .unset, .unset] [(.long b2), (.long a2), (.ref b9)])) _
    refine st12.trans ?_
    show Steps p.tables e below (T12.setTop (mkF m 27 #[.val (.long vl), .second, .val (.long a1), .second, .val (.long b1), .second, .val (.long a2), .second, .val (.long b2), .second, .val (.long vq), .second, .val (.ref b9), .unset, .unset, .unset] [])) _
    refine XS.lload X12.here hx rfl (hb hby at_27) rfl ?_
    show Steps p.tables e below (T12.setTop (mkF m 29 #[.val (.long vl), .second, .val (.long a1), .second, .val (.long b1), .second, .val (.long a2), .second, .val (.long b2), .second, .val (.long vq), .second, .val (.ref b9), .unset, .unset, .unset] [(.long b1)])) _
    refine XS.lloadN X12.here hx rfl (hb hby at_29) rfl ?_
    show Steps p.tables e below (T12.setTop (mkF m 30 #[.val (.long vl), .second, .val (.long a1), .second, .val (.long b1), .second, .val (.long a2), .second, .val (.long b2), .second, .val (.long vq), .second, .val (.ref b9), .unset, .unset, .unset] [(.long a1), (.long b1)])) _
    refine XS.lsub X12.here hx rfl (hb hby at_30) rfl ?_
    show Steps p.tables e below (T12.setTop (mkF m 31 #[.val (.long vl), .second, .val (.long a1), .second, .val (.long b1), .second, .val (.long a2), .second, .val (.long b2), .second, .val (.long vq), .second, .val (.ref b9), .unset, .unset, .unset] [(.long (b1 - a1))])) _
    refine XS.lload X12.here hx rfl (hb hby at_31) rfl ?_
    show Steps p.tables e below (T12.setTop (mkF m 33 #[.val (.long vl), .second, .val (.long a1), .second, .val (.long b1), .second, .val (.long a2), .second, .val (.long b2), .second, .val (.long vq), .second, .val (.ref b9), .unset, .unset, .unset] [(.long b2), (.long (b1 - a1))])) _
    refine XS.lload X12.here hx rfl (hb hby at_33) rfl ?_
    show Steps p.tables e below (T12.setTop (mkF m 35 #[.val (.long vl), .second, .val (.long a1), .second, .val (.long b1), .second, .val (.long a2), .second, .val (.long b2), .second, .val (.long vq), .second, .val (.ref b9), .unset, .unset, .unset] [(.long a2), (.long b2), (.long (b1 - a1))])) _
    refine XS.lsub X12.here hx rfl (hb hby at_35) rfl ?_
    show Steps p.tables e below (T12.setTop (mkF m 36 #[.val (.long vl), .second, .val (.long a1), .second, .val (.long b1), .second, .val (.long a2), .second, .val (.long b2), .second, .val (.long vq), .second, .val (.ref b9), .unset, .unset, .unset] [(.long (b2 - a2)), (.long (b1 - a1))])) _
    refine XS.ladd X12.here hx rfl (hb hby at_36) rfl ?_
    show Steps p.tables e below (T12.setTop (mkF m 37 #[.val (.long vl), .second, .val (.long a1), .second, .val (.long b1), .second, .val (.long a2), .second, .val (.long b2), .second, .val (.long vq), .second, .val (.ref b9), .unset, .unset, .unset] [(.long ((b1 - a1) + (b2 - a2)))])) _
    refine XS.lstore X12.here hx rfl (hb hby at_37) rfl (l' := #[.val (.long vl), .second, .val (.long a1), .second, .val (.long b1), .second, .val (.long a2), .second, .val (.long b2), .second, .val (.long vq), .second, .val (.ref b9), .val (.long ((b1 - a1) + (b2 - a2))), .second, .unset]) rfl ?_
    show Steps p.tables e below (T12.setTop (mkF m 39 #[.val (.long vl), .second, .val (.long a1), .second, .val (.long b1), .second, .val (.long a2), .second, .val (.long b2), .second, .val (.long vq), .second, .val (.ref b9), .val (.long ((b1 - a1) + (b2 - a2))), .second, .unset] [])) _
    refine seg13 _ ?_
    show Steps p.tables e below (T12.setTop (mkF m 61 #[.val (.long vl), .second, .val (.long a1), .second, .val (.long b1), .second, .val (.long a2), .second, .val (.long b2), .second, .val (.long vq), .second, .val (.ref b9), .val (.long ((b1 - a1) + (b2 - a2))), .second, .unset] [(.int z13)])) _
    refine XS.istore X12.here hx rfl (hb hby at_61) rfl (l' := #[.val (.long vl), .second, .val (.long a1), .second, .val (.long b1), .second, .val (.long a2), .second, .val (.long b2), .second, .val (.long vq), .second, .val (.ref b9), .val (.long ((b1 - a1) + (b2 - a2))), .second, .val (.int z13)]) rfl ?_
    show Steps p.tables e below (T12.setTop (mkF m 63 #[.val (.long vl), .second, .val (.long a1), .second, .val (.long b1), .second, .val (.long a2), .second, .val (.long b2), .second, .val (.long vq), .second, .val (.ref b9), .val (.long ((b1 - a1) + (b2 - a2))), .second, .val (.int z13)] [])) _
    refine XS.aload X12.here hx rfl (hb hby at_63) rfl rfl ?_
    show Steps p.tables e below (T12.setTop (mkF m 65 #[.val (.long vl), .second, .val (.long a1), .second, .val (.long b1), .second, .val (.long a2), .second, .val (.long b2), .second, .val (.long vq), .second, .val (.ref b9), .val (.long ((b1 - a1) + (b2 - a2))), .second, .val (.int z13)] [(.ref b9)])) _
    refine XS.lconst X12.here hx rfl (hb hby at_65) ?_
    show Steps p.tables e below (T12.setTop (mkF m 66 #[.val (.long vl), .second, .val (.long a1), .second, .val (.long b1), .second, .val (.long a2), .second, .val (.long b2), .second, .val (.long vq), .second, .val (.ref b9), .val (.long ((b1 - a1) + (b2 - a2))), .second, .val (.int z13)] [(.long (0 : Int64)), (.ref b9)])) _
    refine XS.lload X12.here hx rfl (hb hby at_66) rfl ?_
    show Steps p.tables e below (T12.setTop (mkF m 68 #[.val (.long vl), .second, .val (.long a1), .second, .val (.long b1), .second, .val (.long a2), .second, .val (.long b2), .second, .val (.long vq), .second, .val (.ref b9), .val (.long ((b1 - a1) + (b2 - a2))), .second, .val (.int z13)] [(.long vq), (.long (0 : Int64)), (.ref b9)])) _
    refine st16.trans ?_
    show Steps p.tables e below (T16.setTop (mkF m 71 #[.val (.long vl), .second, .val (.long a1), .second, .val (.long b1), .second, .val (.long a2), .second, .val (.long b2), .second, .val (.long vq), .second, .val (.ref b9), .val (.long ((b1 - a1) + (b2 - a2))), .second, .val (.int z13)] [(.int r16)])) _
    refine XS.iload X16.here hx rfl (hb hby at_71) rfl ?_
    show Steps p.tables e below (T16.setTop (mkF m 73 #[.val (.long vl), .second, .val (.long a1), .second, .val (.long b1), .second, .val (.long a2), .second, .val (.long b2), .second, .val (.long vq), .second, .val (.ref b9), .val (.long ((b1 - a1) + (b2 - a2))), .second, .val (.int z13)] [(.int z13), (.int r16)])) _
    refine XS.icmpNo X16.here hx rfl (hb hby at_73) rfl (teq (hr16.trans ((own_e vl a1 b1 a2 b2 vq).trans hz13.symm) : r16 = z13)).2 ?_
    show Steps p.tables e below (T16.setTop (mkF m 76 #[.val (.long vl), .second, .val (.long a1), .second, .val (.long b1), .second, .val (.long a2), .second, .val (.long b2), .second, .val (.long vq), .second, .val (.ref b9), .val (.long ((b1 - a1) + (b2 - a2))), .second, .val (.int z13)] [])) _
    refine XS.iconst X16.here hx rfl (hb hby at_76) ?_
    show Steps p.tables e below (T16.setTop (mkF m 77 #[.val (.long vl), .second, .val (.long a1), .second, .val (.long b1), .second, .val (.long a2), .second, .val (.long b2), .second, .val (.long vq), .second, .val (.ref b9), .val (.long ((b1 - a1) + (b2 - a2))), .second, .val (.int z13)] [(.int (1 : Int32))])) _
    refine XS.goto X16.here hx rfl (pc0 := 77) (pc' := 81) rfl (hb hby at_77) (by decide) (by decide) ?_
    show Steps p.tables e below (T16.setTop (mkF m 81 #[.val (.long vl), .second, .val (.long a1), .second, .val (.long b1), .second, .val (.long a2), .second, .val (.long b2), .second, .val (.long vq), .second, .val (.ref b9), .val (.long ((b1 - a1) + (b2 - a2))), .second, .val (.int z13)] [(.int (1 : Int32))])) _
    exact retN X16 hx (t := .boolean) Bd.returns (by simp) (hb hby at_81) hr
  · show Q_law Z vl a1 b1 a2 b2 vq h0 n0 _ T16.heap _
    rw [e16]
    exact ⟨rfl, N16⟩
set_option maxRecDepth 65536 in
set_option maxHeartbeats 40000000 in
theorem comes_1 {Post : Tables → Env → Array Value → State → Outcome → State → Prop} (hpost : ∀ tb e args s v u, (limb_1_1.after args s (.returned v) u = true ∧ limb_1_2.after args s (.returned v) u = true ∧ True) → FrameEnd s (.returned v) u (Jvm.fieldLocs frame_1_writes args s ++ Jvm.arrayLocs frame_1_arrays args s ++ Jvm.staticLocs frame_1_statics s) 16 128 → Post tb e args s (.returned v) u) :
    ArmFor flags0 classFile x code maxLocals ret World_1 tables_1 room_1 Calls_1 rest_1 Pre_1 Post := by
  intro l hfl _ _ p e ha hc hk s m args below hf hA hF happ hP
  obtain ⟨hcalls, hrest, hpre⟩ := hP
  obtain ⟨-, -, -, hnamed, -, -, -, hat⟩ := (Spec.applies_iff hf).mp happ
  obtain ⟨hg, hn⟩ := and_e (Cond.before_iff.mp (show (Jvm.Cond.and given_1 narrow_1).before args s = true from hpre))
  obtain ⟨hg0, hr0⟩ := and_e hg
  obtain ⟨ha0, hr1⟩ := and_e hr0
  obtain ⟨ha1, hr2⟩ := and_e hr1
  obtain ⟨ha2, hr3⟩ := and_e hr2
  obtain ⟨ha3, hr4⟩ := and_e hr3
  obtain ⟨ha4, hr5⟩ := and_e hr4
  obtain ⟨w0, w1, w2, w3, w4, w5, rfl⟩ : ∃ w0 w1 w2 w3 w4 w5 : Value, args = #[w0, w1, w2, w3, w4, w5] := by
    have hs : args.size = 6 := by simpa [Cond.value, given_1] using hg0
    obtain ⟨L⟩ := args
    match L, hs with
    | [w0, w1, w2, w3, w4, w5], _ => exact ⟨w0, w1, w2, w3, w4, w5, rfl⟩
  have hw := fun d (hd : d ∈ tables_1) => atoms_spec (ws := Jvm.Cond.code x code maxLocals ret :: tables_1) hat d (List.mem_cons_of_mem _ hd)
  obtain ⟨i0, ei0⟩ := isL_v ha0
  obtain rfl : w0 = (.long i0) := Option.some.inj ei0
  obtain ⟨i1, ei1⟩ := isL_v ha1
  obtain rfl : w1 = (.long i1) := Option.some.inj ei1
  obtain ⟨i2, ei2⟩ := isL_v ha2
  obtain rfl : w2 = (.long i2) := Option.some.inj ei2
  obtain ⟨i3, ei3⟩ := isL_v ha3
  obtain rfl : w3 = (.long i3) := Option.some.inj ei3
  obtain ⟨i4, ei4⟩ := isL_v ha4
  obtain rfl : w4 = (.long i4) := Option.some.inj ei4
  obtain ⟨i5, ei5⟩ := isL_v hr5
  obtain rfl : w5 = (.long i5) := Option.some.inj ei5
  obtain ⟨n, o, h1, h2, h3, _, L, rfl, ⟨rfl, N⟩, hq⟩ := rm_law l s _ hw tables_1 i0 i1 i2 i3 i4 i5 s.heap s.heap.size (Nat.le_refl _)  p e ha hc hk s m _ below hf ((Spec.applies_iff_loose hf).mp happ).1 ⟨rfl, State.Warmed39.refl s, rfl⟩ trivial
  refine ⟨n, _, h1, h2, h3, hpost _ _ _ _ _ _ ⟨Cond.after_iff.mpr rfl, Cond.after_iff.mpr (eq_i res_at (Term.int_eval (1)) rfl), trivial⟩ ⟨hq.1, hq.2.1, (hq.2.2.sift fun y hy => Or.inr (N y hy)).mono (by decide) (by decide)⟩⟩
theorem main_1_1 : Claimed_1_1 := comes_1 fun _ _ _ _ _ _ h hF => ⟨h.1, hF⟩
theorem main_1_2 : Claimed_1_2 := comes_1 fun _ _ _ _ _ _ h hF => ⟨h.2.1, hF⟩
end Jvm.Pilot.@@N@@
namespace Jvm.Pilot.@@N@@
open Jvm Jvm.ClassFile Sem Op Lib Jvm.Free Jvm.Stand Jvm.Pilot.@@N@@.Jvm.D
/-! MADE BY PROGRAM (witnessworld.py) out of the Statement's table words and the real class files: 9 classes; the members and pool entries that the words name. The judged class is class 1, her method 1. -/
namespace start1
open Jvm.ClassFile
def u (s : String) : CpInfo := .utf8 (stringToUtf16 s)
/-- a pool by its gaps: so many unusable entries, then the entry; so many at the end -/
def gap : Nat → List CpInfo → List CpInfo
  | 0, r => r
  | n + 1, r => .unusable :: gap n r
def poolList (es : List (Nat × CpInfo)) (last : Nat) : List CpInfo := es.foldr (fun e r => gap e.1 (e.2 :: r)) (gap last [])
def pool (es : List (Nat × CpInfo)) (last : Nat) : Array CpInfo := ⟨poolList es last⟩
def fileOf (pool : Array CpInfo) (this : Nat) (attrs : Array Attribute := #[]) (ms : Array MethodInfo := #[]) (fl : Nat := 33) (sup : Nat := 0) (ifs : Array Nat := #[]) (fds : Array FieldInfo := #[]) : ClassFile where
  minorVersion := 0
  majorVersion := 65
  constantPool := pool
  accessFlags := fl
  thisClass := this
  superClass := sup
  interfaces := ifs
  fields := fds
  methods := ms
  attributes := attrs
def plain (name : String) (sup : Option ClassId) : Class where
  name := name
  kind := .ordinary
  loader := none
  accessFlags := 33
  super := sup
  interfaces := #[]
  cf := none
  fields := #[]
  methods := #[]
  instanceTypes := #[]
  staticTypes := #[]
  resolved := #[]
  callSites := []
  init := .initialized
  statics := none
  mirror := none

def pool0 : Array CpInfo := pool [(5, u "<init>"), (0, u "()V"), (1, .class_ 10), (1, u "java/lang/Object")] 113

def k0c0 : Code := { maxStack := 0, maxLocals := 1, code := object_method_1_code, exceptionTable := #[], attributes := #[] }
def k0m0 : Method := { name := "<init>", desc := "()V", sig := { parameters := [], returnType := none }, accessFlags := 1, code := some k0c0 }
/-- java/lang/Object -/
def k0 : Class := { plain "java/lang/Object" none with
  accessFlags := 33
  interfaces := #[]
  cf := some (fileOf pool0 8 #[] #[{ accessFlags := 1, nameIndex := 5, descriptorIndex := 6, attributes := #[] }] 33 0 #[] #[])
  fields := #[]
  methods := #[k0m0]
  instanceTypes := #[]
  staticTypes := #[]
  resolved := Array.replicate 124 none
  statics := none }

def pool1 : Array CpInfo := pool [(2, .class_ 4), (1, u "java/lang/Object"), (0, u "<init>"), (0, u "()V"), (0, .class_ 8), (0, u "dev/leasehold/server/ValueMemory"), (0, .methodref 7 10), (0, .nameAndType 5 11), (0, u "(J)V"), (0, .methodref 7 13), (0, .nameAndType 14 15), (0, u "replaceLatest"), (0, u "(JJ)V"), (0, .methodref 7 17), (0, .nameAndType 18 19), (0, u "admits"), (0, u "(JJ)Z"), (0, .class_ 21), (0, u "dev/leasehold/server/ValueMemoryReplaceLatestPinLaw"), (2, u "law"), (0, u "(JJJJJJ)Z")] 3

def k1m0 : Method := { name := "<init>", desc := "()V", sig := { parameters := [], returnType := none }, accessFlags := 1, code := none }
def k1c1 : Code := { maxStack := 6, maxLocals := 16, code := code, exceptionTable := #[], attributes := #[] }
def k1m1 : Method := { name := "law", desc := "(JJJJJJ)Z", sig := { parameters := [.long, .long, .long, .long, .long, .long], returnType := some .boolean }, accessFlags := 9, code := some k1c1 }
/-- dev/leasehold/server/ValueMemoryReplaceLatestPinLaw -/
def k1 : Class := { plain "dev/leasehold/server/ValueMemoryReplaceLatestPinLaw" (some 0) with
  accessFlags := 49
  interfaces := #[]
  cf := some (fileOf pool1 20 #[] #[{ accessFlags := 1, nameIndex := 5, descriptorIndex := 6, attributes := #[] }, { accessFlags := 9, nameIndex := 24, descriptorIndex := 25, attributes := #[] }] 49 2 #[] #[])
  fields := #[]
  methods := #[k1m0, k1m1]
  instanceTypes := #[]
  staticTypes := #[]
  resolved := Array.replicate 29 none
  statics := none }

def pool2 : Array CpInfo := pool [(1, .methodref 2 3), (0, .class_ 4), (0, .nameAndType 5 6), (0, u "java/lang/Object"), (0, u "<init>"), (0, u "()V"), (0, .fieldref 8 9), (0, .class_ 10), (0, .nameAndType 11 12), (0, u "dev/leasehold/server/ValueMemory"), (0, u "limit"), (0, u "J"), (17, .fieldref 8 31), (0, .nameAndType 32 12), (0, u "latest"), (2, u "older"), (0, u "BYTES_PER_VERSION"), (0, u "I"), (2, u "(J)V"), (4, u "admits"), (0, u "(JJ)Z"), (1, u "replaceLatest"), (0, u "(JJ)V")] 6

def k2c0 : Code := { maxStack := 3, maxLocals := 3, code := prog_139_method_1_code, exceptionTable := #[], attributes := #[] }
def k2m0 : Method := { name := "<init>", desc := "(J)V", sig := { parameters := [.long], returnType := none }, accessFlags := 0, code := some k2c0 }
def k2c1 : Code := { maxStack := 4, maxLocals := 5, code := prog_139_method_3_code, exceptionTable := #[], attributes := #[] }
def k2m1 : Method := { name := "admits", desc := "(JJ)Z", sig := { parameters := [.long, .long], returnType := some .boolean }, accessFlags := 0, code := some k2c1 }
def k2c2 : Code := { maxStack := 7, maxLocals := 5, code := prog_139_method_4_code, exceptionTable := #[], attributes := #[] }
def k2m2 : Method := { name := "replaceLatest", desc := "(JJ)V", sig := { parameters := [.long, .long], returnType := none }, accessFlags := 0, code := some k2c2 }
/-- dev/leasehold/server/ValueMemory -/
def k2 : Class := { plain "dev/leasehold/server/ValueMemory" (some 0) with
  accessFlags := 48
  interfaces := #[]
  cf := some (fileOf pool2 8 #[] #[{ accessFlags := 0, nameIndex := 5, descriptorIndex := 40, attributes := #[] }, { accessFlags := 0, nameIndex := 45, descriptorIndex := 46, attributes := #[] }, { accessFlags := 0, nameIndex := 48, descriptorIndex := 49, attributes := #[] }] 48 2 #[] #[{ accessFlags := 24, nameIndex := 36, descriptorIndex := 37, attributes := #[] }, { accessFlags := 18, nameIndex := 11, descriptorIndex := 12, attributes := #[] }, { accessFlags := 2, nameIndex := 32, descriptorIndex := 12, attributes := #[] }, { accessFlags := 2, nameIndex := 35, descriptorIndex := 12, attributes := #[] }])
  fields := #[{ name := "BYTES_PER_VERSION", type := .int, accessFlags := 24, slot := 0, constantValue := 0 }, { name := "limit", type := .long, accessFlags := 18, slot := 0, constantValue := 0 }, { name := "latest", type := .long, accessFlags := 2, slot := 1, constantValue := 0 }, { name := "older", type := .long, accessFlags := 2, slot := 2, constantValue := 0 }]
  methods := #[k2m0, k2m1, k2m2]
  instanceTypes := #[.long, .long, .long]
  staticTypes := #[.int]
  resolved := Array.replicate 56 none
  statics := none }

def pool3 : Array CpInfo := pool [(1, u "java/lang/Cloneable"), (0, .class_ 1), (0, u "java/lang/Object"), (0, .class_ 3)] 3

/-- java/lang/Cloneable -/
def k3 : Class := { plain "java/lang/Cloneable" (some 0) with
  accessFlags := 1537
  interfaces := #[]
  cf := some (fileOf pool3 2 #[] #[] 1537 4 #[] #[])
  fields := #[]
  methods := #[]
  instanceTypes := #[]
  staticTypes := #[]
  resolved := Array.replicate 8 none
  statics := none }

def pool4 : Array CpInfo := pool [(1, u "java/io/Serializable"), (0, .class_ 1), (0, u "java/lang/Object"), (0, .class_ 3)] 3

/-- java/io/Serializable -/
def k4 : Class := { plain "java/io/Serializable" (some 0) with
  accessFlags := 1537
  interfaces := #[]
  cf := some (fileOf pool4 2 #[] #[] 1537 4 #[] #[])
  fields := #[]
  methods := #[]
  instanceTypes := #[]
  staticTypes := #[]
  resolved := Array.replicate 8 none
  statics := none }

/-- the primitive byte -/
def k5 : Class := { plain "byte" none with kind := .primitive 'B', accessFlags := 0x411 }
/-- [B -/
def k6 : Class := { plain "[B" (some 0) with kind := .array 5 .byte, interfaces := #[3, 4], accessFlags := 1041 }

/-- the primitive int -/
def k7 : Class := { plain "int" none with kind := .primitive 'I', accessFlags := 0x411 }
/-- [I -/
def k8 : Class := { plain "[I" (some 0) with kind := .array 7 .int, interfaces := #[3, 4], accessFlags := 1041 }

def heap : Heap := #[]
def classes : Array Class := #[k0, k1, k2, k3, k4, k5, k6, k7, k8]
def interned : List (Array UInt16 × Addr) := []
def slotsUsed : Nat := 0
def theMethod : MethodId := ⟨1, 1⟩
def args0 : Array Value := #[.long 5, .long 3, .long 9, .long 5, .long 3, .long 9]
def aboutOver (below : List Frame) : State where
  vm := { classes := classes, interned := interned.toArray }
  heap := heap
  slotsUsed := slotsUsed
  threads := #[{ frames := .invoking theMethod args0 :: below }]
def below0 : List Frame := [.native { method := ⟨0, 0⟩, args := #[] }]
def about1 : State := aboutOver below0
def p0 : Program := .bare "" "" ""
def e0 : Env := launch0.env 0 0 0
theorem w_frames : about1.frames = Frame.invoking theMethod args0 :: below0 := rfl
set_option maxRecDepth 65536 in
theorem w_args : argsFit about1.vm theMethod args0 = true := by decide +kernel
set_option maxRecDepth 65536 in
theorem w_heap : heapFits about1 = true := by decide +kernel
set_option maxRecDepth 65536 in
theorem w_runnable : about1.curStatus? = some .runnable := by decide +kernel
set_option maxRecDepth 65536 in
theorem w_alone : about1.alone = true := by decide +kernel
set_option maxRecDepth 65536 in
theorem w_named : about1.methodNamed? x = some theMethod := by decide +kernel
set_option maxRecDepth 65536 in
theorem w_hears : about1.hears theMethod below0 = true := by decide +kernel
set_option maxRecDepth 65536 in
theorem w_ripe : about1.ripe theMethod args0 below0 = true := by decide +kernel
theorem w_running : about1.status = .running := rfl
set_option maxRecDepth 65536 in
theorem w_room : about1.hasRoom e0.platform room_1 = true :=
  launch0.hasRoom_least _ room_1 (by decide +kernel) (by decide +kernel) (by decide +kernel) (by decide +kernel) (by decide +kernel) (by decide +kernel)
theorem allAtoms_all (ts : List Jvm.Cond) (a : Array Jvm.Value) (st : Jvm.State) : (allAtoms ts).before a st = ts.all (fun c => c.before a st) := by
  induction ts with
  | nil => rfl
  | cons c t ih =>
    show (Jvm.Cond.and c (allAtoms t)).before a st = _
    rw [Jvm.Cond.before_and, ih, List.all_cons]
def words1 : List Jvm.Cond := Jvm.Cond.code x code maxLocals ret :: tables_1
/-- a 'code' word, met by the world's own term for the bytes: nothing is compared byte by byte -/
theorem code_word {y : MethodName} {bytes : ByteArray} {mx : Nat} {rt : Option FieldType} {a : Array Value} {s : State} {m : MethodId} {meth : Method} {c : Code} (h1 : s.methodNamed? y = some m) (h2 : s.vm.method? m = some meth) (h3 : meth.code = some c) (h4 : c.code = bytes)
    (h5 : (c.maxLocals == mx && c.exceptionTable.isEmpty && decide (c.maxStack ≤ mostOperands) && decide (meth.sig.returnType = rt) && !meth.locks && decide (parseMethodDescriptor y.desc = some meth.sig)) = true) : (Jvm.Cond.code y bytes mx rt).before a s = true := by
  simp only [Bool.and_eq_true, beq_iff_eq, Bool.not_eq_true', decide_eq_true_eq] at h5
  obtain ⟨⟨⟨⟨⟨g1, g2⟩, g3⟩, g4⟩, g5⟩, g6⟩ := h5
  simp [Cond.before, Cond.holds, Cond.value, h1, h2, h3, h4, g1, g2, g3, g4, g5, g6]
def isCode : Jvm.Cond → Bool
  | .code _ _ _ _ => true
  | _ => false
theorem all_split {L : List Jvm.Cond} {P : Jvm.Cond → Bool} (h1 : L.all (fun c => isCode c || P c) = true) (h2 : ∀ c ∈ L.filter isCode, P c = true) : L.all P = true := by
  refine List.all_eq_true.mpr fun c hc => ?_
  have h := List.all_eq_true.mp h1 c hc
  rcases Bool.eq_false_or_eq_true (isCode c) with hi | hi
  · exact h2 c (List.mem_filter.mpr ⟨hc, hi⟩)
  · simpa [hi] using h
set_option maxRecDepth 65536 in
theorem w_c0 : (Jvm.Cond.code x code maxLocals ret).before args0 about1 = true := code_word (m := ⟨1, 1⟩) (meth := k1m1) (c := k1c1) (by decide +kernel) rfl rfl rfl (by decide +kernel)
set_option maxRecDepth 65536 in
theorem w_c1 : (Jvm.Cond.code ({ cls := "dev/leasehold/server/ValueMemory", name := "<init>", desc := "(J)V" } : Jvm.MethodName) prog_139_method_1_code (3 : Nat) (Option.none : Option Jvm.ClassFile.FieldType)).before args0 about1 = true := code_word (m := ⟨2, 0⟩) (meth := k2m0) (c := k2c0) (by decide +kernel) rfl rfl rfl (by decide +kernel)
set_option maxRecDepth 65536 in
theorem w_c2 : (Jvm.Cond.code ({ cls := "java/lang/Object", name := "<init>", desc := "()V" } : Jvm.MethodName) object_method_1_code (1 : Nat) (Option.none : Option Jvm.ClassFile.FieldType)).before args0 about1 = true := code_word (m := ⟨0, 0⟩) (meth := k0m0) (c := k0c0) (by decide +kernel) rfl rfl rfl (by decide +kernel)
set_option maxRecDepth 65536 in
theorem w_c3 : (Jvm.Cond.code ({ cls := "dev/leasehold/server/ValueMemory", name := "replaceLatest", desc := "(JJ)V" } : Jvm.MethodName) prog_139_method_4_code (5 : Nat) (Option.none : Option Jvm.ClassFile.FieldType)).before args0 about1 = true := code_word (m := ⟨2, 2⟩) (meth := k2m2) (c := k2c2) (by decide +kernel) rfl rfl rfl (by decide +kernel)
set_option maxRecDepth 65536 in
theorem w_c4 : (Jvm.Cond.code ({ cls := "dev/leasehold/server/ValueMemory", name := "admits", desc := "(JJ)Z" } : Jvm.MethodName) prog_139_method_3_code (5 : Nat) (Option.some Jvm.ClassFile.FieldType.boolean)).before args0 about1 = true := code_word (m := ⟨2, 1⟩) (meth := k2m1) (c := k2c1) (by decide +kernel) rfl rfl rfl (by decide +kernel)
def codes1 : List Jvm.Cond := [Jvm.Cond.code x code maxLocals ret, Jvm.Cond.code ({ cls := "dev/leasehold/server/ValueMemory", name := "<init>", desc := "(J)V" } : Jvm.MethodName) prog_139_method_1_code (3 : Nat) (Option.none : Option Jvm.ClassFile.FieldType), Jvm.Cond.code ({ cls := "java/lang/Object", name := "<init>", desc := "()V" } : Jvm.MethodName) object_method_1_code (1 : Nat) (Option.none : Option Jvm.ClassFile.FieldType), Jvm.Cond.code ({ cls := "dev/leasehold/server/ValueMemory", name := "replaceLatest", desc := "(JJ)V" } : Jvm.MethodName) prog_139_method_4_code (5 : Nat) (Option.none : Option Jvm.ClassFile.FieldType), Jvm.Cond.code ({ cls := "dev/leasehold/server/ValueMemory", name := "admits", desc := "(JJ)Z" } : Jvm.MethodName) prog_139_method_3_code (5 : Nat) (Option.some Jvm.ClassFile.FieldType.boolean)]
set_option maxRecDepth 65536 in
theorem codes_eq : words1.filter isCode = codes1 := rfl
theorem w_codes : ∀ c ∈ words1.filter isCode, c.before args0 about1 = true := by
  rw [codes_eq]
  intro c hc
  simp only [codes1, List.mem_cons, List.not_mem_nil, or_false] at hc
  rcases hc with rfl | rfl | rfl | rfl | rfl
  · exact w_c0
  · exact w_c1
  · exact w_c2
  · exact w_c3
  · exact w_c4
set_option maxRecDepth 65536 in
theorem w_t1 : words1.all (fun c => isCode c || c.before args0 about1) = true := by decide +kernel
theorem w_tables : (allAtoms (Jvm.Cond.code x code maxLocals ret :: tables_1)).before args0 about1 = true := by
  rw [allAtoms_all]
  show words1.all (fun c => c.before args0 about1) = true
  refine all_split ?_ w_codes
  rw [w_t1]
set_option maxRecDepth 65536 in
theorem w_case : (Jvm.Cond.and given_1 narrow_1).before args0 about1 = true := by decide +kernel
theorem w_applies : (headSpec (Jvm.Cond.code x code maxLocals ret :: tables_1) room_1).applies x e0.platform about1 = true :=
  (Spec.applies_iff w_frames).mpr ⟨w_running, w_runnable, w_alone, w_named, w_hears, w_ripe, w_room, w_tables⟩
theorem atStart : AtStart classFile x code maxLocals ret World_1 tables_1 room_1 Calls_1 rest_1 Pre_1 launch0 p0 e0 about1 theMethod args0 below0 :=
  ⟨lists_1, trivial, launch0.admits_env _ _ _, launch0.least_env, fairChoices_fair.cas, fairChoices_fair.clock, w_frames, w_args, w_heap, w_applies, trivial, trivial, w_case⟩
end start1
theorem witness_1 : WitnessClaimed_1 := ⟨start1.p0, start1.e0, start1.about1, start1.theMethod, start1.args0, start1.below0, start1.atStart⟩
end Jvm.Pilot.@@N@@
