import JvmDerived
import JvmDerived.Pilot.@@N@@Statement
import JvmDerived.Pilot.@@N@@Code
set_option linter.unusedVariables false
set_option linter.unusedSimpArgs false
namespace Jvm.RoadKit
open Sem ClassFile Op Lib Jvm.Stand Jvm.Free Jvm.LawKit
section New
variable {p : Program} {l : Launch} {e : Env} {R : Room} {s : State} {m : MethodId} {args : Array Value} {below : List Frame} {meth : Method} {c : Code} {T : State} {locs : List Loc} {cells slots : Nat}
theorem retI (X : Stand p l e R s m args below meth c T locs cells slots) (hx : p.tables.exec = Jvm.exec) {pc : Nat} {Ls : Array Slot} {z : Int32} {rest : List Value} (hret : meth.sig.returnType = some .int) (hd : decode c.code pc = .ok (.ireturn, 1)) {fs : List Frame}
    (hl : ∀ (f : JFrame) (acts : List Action), f.method = m → f.locked = none → f.entered = [] → (doReturn e (T.setTop f) acts (some (.int z))).1 = T.setFrames fs) : Steps p.tables e below (T.setTop (mkF m pc Ls (.int z :: rest))) (T.setFrames fs) := by
  have hm' : T.vm.method? m = some meth := X.method'
  have hn : narrow .int (.int z) = .int z := rfl
  show Steps p.tables e below (T.setTop { method := m, pc := pc, locals := Ls, stack := _ :: rest, locked := none }) _
  jvm_step X.here [X.here.top, hx, hd, hm', hret, hn]
  first | (intro acts; rw [hl _ acts rfl rfl rfl]) | rw [hl _ _ rfl rfl rfl]
  exact Steps.refl _
end New
end Jvm.RoadKit
namespace Jvm.Pilot.@@N@@
open Jvm Jvm.ClassFile Sem Op Lib Jvm.Free Jvm.Stand Jvm.LawKit Jvm.RoadKit Bundle Jvm.Pilot.@@N@@.Jvm.D
theorem own_b (vp : Int64) (vn : Int32) (k : Int64) (k0 : 0 ≤ k.toInt) (k1 : k.toInt < 2) : ((((vp <<< ((32 : Int32) &&& 0x3f).toInt64) ||| ((vn &&& (2147483647 : Int32)).toInt64 <<< ((1 : Int32) &&& 0x3f).toInt64)) ||| k) &&& (1 : Int64)).toInt = k.toInt := by
  have a1 := c_lshl vp 32 32 (by decide)
  have a2 := c_lshl (vn &&& (2147483647 : Int32)).toInt64 1 1 (by decide)
  have a3 := c_mask vn 2147483647 31 (by decide) (by decide)
  have a4 := c_i2l (vn &&& (2147483647 : Int32))
  have r1 := rng32 vn
  simp only [Nat.reducePow] at a1 a2 a3
  generalize (vp <<< ((32 : Int32) &&& 0x3f).toInt64) = A at *
  generalize ((vn &&& (2147483647 : Int32)).toInt64 <<< ((1 : Int32) &&& 0x3f).toInt64) = B at *
  have rA := rng64 A
  have rB := rng64 B
  have a5 := c_orL A B 32 (by decide) 4294967296 (by decide) (by omega) (by omega) (by omega)
  have rAB := rng64 (A ||| B)
  have a6 := c_orL (A ||| B) k 1 (by decide) 2 (by decide) (by omega) k0 k1
  have a7 := c_maskL ((A ||| B) ||| k) 1 1 (by decide) (by decide)
  simp only [Nat.reducePow] at a7
  omega
theorem own_b0 (vp : Int64) (vn : Int32) : ((((vp <<< ((32 : Int32) &&& 0x3f).toInt64) ||| ((vn &&& (2147483647 : Int32)).toInt64 <<< ((1 : Int32) &&& 0x3f).toInt64)) ||| (0 : Int64)) &&& (1 : Int64)) = 0 := Int64.toInt_inj.mp (own_b vp vn 0 (by decide) (by decide))
theorem own_b1 (vp : Int64) (vn : Int32) : ¬ ((((vp <<< ((32 : Int32) &&& 0x3f).toInt64) ||| ((vn &&& (2147483647 : Int32)).toInt64 <<< ((1 : Int32) &&& 0x3f).toInt64)) ||| (1 : Int64)) &&& (1 : Int64)) = 0 := fun q => by
  have h := own_b vp vn 1 (by decide) (by decide)
  rw [q] at h; revert h; decide
theorem pn_0 : plainName "com/example/odeta/odeta/SafraTree" = true := by first | (simp [plainName, overriddenIn]; done) | decide +kernel
theorem d_prog_58_method_16_code_0 : decode prog_58_method_16_code 0 = .ok (.lload_n 0, 1) := by decide +kernel
theorem d_prog_58_method_16_code_1 : decode prog_58_method_16_code 1 = .ok (.lconst 1, 1) := by decide +kernel
theorem d_prog_58_method_16_code_2 : decode prog_58_method_16_code 2 = .ok (.land, 1) := by decide +kernel
theorem d_prog_58_method_16_code_3 : decode prog_58_method_16_code 3 = .ok (.lconst 0, 1) := by decide +kernel
theorem d_prog_58_method_16_code_4 : decode prog_58_method_16_code 4 = .ok (.lcmp, 1) := by decide +kernel
theorem d_prog_58_method_16_code_5 : decode prog_58_method_16_code 5 = .ok (.ifCond .eq 7, 3) := by decide +kernel
theorem d_prog_58_method_16_code_12 : decode prog_58_method_16_code 12 = .ok (.iconst 0, 1) := by decide +kernel
theorem d_prog_58_method_16_code_13 : decode prog_58_method_16_code 13 = .ok (.ireturn, 1) := by decide +kernel
theorem d_prog_58_method_16_code_8 : decode prog_58_method_16_code 8 = .ok (.iconst 1, 1) := by decide +kernel
theorem d_prog_58_method_16_code_9 : decode prog_58_method_16_code 9 = .ok (.goto 4, 3) := by decide +kernel
theorem ef_mk (m : MethodId) (va : Int64) : entryFrame m #[(.long va)] 2 = mkF m 0 #[.val (.long va), .second] [] := by first | (simp [entryFrame, mkF, argsToLocals, Value.category]; done) | rfl
def Q_mk (Z : State) (va : Int64) (h0 : Heap) (n0 : Nat) (v : Option Value) (h : Heap) (L : List Loc) : Prop := (∃ z : Int32, v = some (.int z) ∧ (z = if (va &&& (1 : Int64)) = 0 then 0 else 1)) ∧ Fr n0 L ∧ h = h0
set_option maxRecDepth 65536 in
set_option maxHeartbeats 40000000 in
theorem rm_mk (l : Launch) (Z : State) (a0 : Array Value) (hw : ∀ d ∈ tables_1, d.before a0 Z = true) (ws : List Jvm.Cond) (va : Int64) (h0 : Heap) (n0 : Nat) (Z0 : n0 ≤ h0.size) :
    MetFree l (⟨"com/example/odeta/odeta/SafraTree", "marked", "(J)Z"⟩ : MethodName) (head1 (Jvm.Cond.code (⟨"com/example/odeta/odeta/SafraTree", "marked", "(J)Z"⟩ : MethodName) prog_58_method_16_code 2 (some .boolean) :: ws) ({ frames := 0, cells := 0, slots := 0, locals := 0 } : Room)) (fun a U => a = #[(.long va)] ∧ Z.Warmed39 U.vm ∧ U.heap = h0) (fun _ _ _ _ _ => True) (fun _ U o U' => ∃ v L, o = .returned v ∧ Q_mk Z va h0 n0 v U'.heap L ∧ FrameEnd U o U' L ({ frames := 0, cells := 0, slots := 0, locals := 0 } : Room).cells ({ frames := 0, cells := 0, slots := 0, locals := 0 } : Room).slots) := by
  refine MetFree.of_bodySF (plainFor_of_name pn_0) hisR ?_
  intro p e s m args below meth c s₁ Bd hml0 hP hK
  obtain ⟨rfl, hZ, hh⟩ := hP
  have hx := Bd.exec
  have hby := Bd.bytes
  have hml : c.maxLocals = 2 := hml0
  have hown : s.vm.findClass "com/example/odeta/odeta/SafraTree" = some m.cls := findClass_of_methodNamed Bd.named
  have hnm := (name_of_methodNamed Bd.named Bd.method).1
  have X0 : Stand p l e ({ frames := 0, cells := 0, slots := 0, locals := 0 } : Room) s m #[(.long va)] below meth c s₁ [] 0 0 := Stand.of_body Bd
  have e0 : s₁.heap = h0 := by rw [← hh, Bd.state]; rfl
  have N0 := Fr.nil n0
  have pre0 : ∀ t, Steps p.tables e below (s₁.setTop (mkF m 0 #[.val (.long va), .second] [])) t → Steps p.tables e below (s₁.setTop (entryFrame m #[(.long va)] 2)) t := fun t k => castTop (ef_mk m va) k
  by_cases h5_1 : (va &&& (1 : Int64)) = (0 : Int64)
  · obtain ⟨fs, hr, hrun, hended, hW, hsame⟩ := X0.leave (v := some (.int (0 : Int32))) (fun h => by rw [Bd.returns] at h; cases h)
    refine ⟨_, _, pre0 _ ?_, hrun, hended, _, _, rfl, ?_, ⟨_, rfl⟩, hW, hsame.mono (by decide) (by decide)⟩
    · show Steps p.tables e below (s₁.setTop (mkF m 0 #[.val (.long va), .second] [])) _
      refine XS.lloadN X0.here hx rfl (hb hby d_prog_58_method_16_code_0) rfl ?_
      show Steps p.tables e below (s₁.setTop (mkF m 1 #[.val (.long va), .second] [(.long va)])) _
      refine XS.lconst X0.here hx rfl (hb hby d_prog_58_method_16_code_1) ?_
      show Steps p.tables e below (s₁.setTop (mkF m 2 #[.val (.long va), .second] [(.long (1 : Int64)), (.long va)])) _
      refine XS.land X0.here hx rfl (hb hby d_prog_58_method_16_code_2) rfl ?_
      show Steps p.tables e below (s₁.setTop (mkF m 3 #[.val (.long va), .second] [(.long (va &&& (1 : Int64)))])) _
      refine XS.lconst X0.here hx rfl (hb hby d_prog_58_method_16_code_3) ?_
      show Steps p.tables e below (s₁.setTop (mkF m 4 #[.val (.long va), .second] [(.long (0 : Int64)), (.long (va &&& (1 : Int64)))])) _
      refine XS.lcmp X0.here hx rfl (hb hby d_prog_58_method_16_code_4) rfl ?_
      show Steps p.tables e below (s₁.setTop (mkF m 5 #[.val (.long va), .second] [(.int (lcmpW (va &&& (1 : Int64)) (0 : Int64)))])) _
      refine XS.ifYes X0.here hx rfl (pc0 := 5) (pc' := 12) rfl (hb hby d_prog_58_method_16_code_5) rfl ((if0 _ _).trans (teq ((lw_eq _ _).mpr h5_1)).1) (by decide) (by decide) ?_
      show Steps p.tables e below (s₁.setTop (mkF m 12 #[.val (.long va), .second] [])) _
      refine XS.iconst X0.here hx rfl (hb hby d_prog_58_method_16_code_12) ?_
      show Steps p.tables e below (s₁.setTop (mkF m 13 #[.val (.long va), .second] [(.int (0 : Int32))])) _
      exact retN X0 hx (t := .boolean) Bd.returns (by simp) (hb hby d_prog_58_method_16_code_13) hr
    · show Q_mk Z va h0 n0 _ s₁.heap _
      rw [e0]
      exact ⟨⟨_, rfl, by simp [h5_1]⟩, N0, rfl⟩
  · obtain ⟨fs, hr, hrun, hended, hW, hsame⟩ := X0.leave (v := some (.int (1 : Int32))) (fun h => by rw [Bd.returns] at h; cases h)
    refine ⟨_, _, pre0 _ ?_, hrun, hended, _, _, rfl, ?_, ⟨_, rfl⟩, hW, hsame.mono (by decide) (by decide)⟩
    · show Steps p.tables e below (s₁.setTop (mkF m 0 #[.val (.long va), .second] [])) _
      refine XS.lloadN X0.here hx rfl (hb hby d_prog_58_method_16_code_0) rfl ?_
      show Steps p.tables e below (s₁.setTop (mkF m 1 #[.val (.long va), .second] [(.long va)])) _
      refine XS.lconst X0.here hx rfl (hb hby d_prog_58_method_16_code_1) ?_
      show Steps p.tables e below (s₁.setTop (mkF m 2 #[.val (.long va), .second] [(.long (1 : Int64)), (.long va)])) _
      refine XS.land X0.here hx rfl (hb hby d_prog_58_method_16_code_2) rfl ?_
      show Steps p.tables e below (s₁.setTop (mkF m 3 #[.val (.long va), .second] [(.long (va &&& (1 : Int64)))])) _
      refine XS.lconst X0.here hx rfl (hb hby d_prog_58_method_16_code_3) ?_
      show Steps p.tables e below (s₁.setTop (mkF m 4 #[.val (.long va), .second] [(.long (0 : Int64)), (.long (va &&& (1 : Int64)))])) _
      refine XS.lcmp X0.here hx rfl (hb hby d_prog_58_method_16_code_4) rfl ?_
      show Steps p.tables e below (s₁.setTop (mkF m 5 #[.val (.long va), .second] [(.int (lcmpW (va &&& (1 : Int64)) (0 : Int64)))])) _
      refine XS.ifNo X0.here hx rfl (hb hby d_prog_58_method_16_code_5) rfl ((if0 _ _).trans (feq (fun q => h5_1 ((lw_eq _ _).mp q))).1) ?_
      show Steps p.tables e below (s₁.setTop (mkF m 8 #[.val (.long va), .second] [])) _
      refine XS.iconst X0.here hx rfl (hb hby d_prog_58_method_16_code_8) ?_
      show Steps p.tables e below (s₁.setTop (mkF m 9 #[.val (.long va), .second] [(.int (1 : Int32))])) _
      refine XS.goto X0.here hx rfl (pc0 := 9) (pc' := 13) rfl (hb hby d_prog_58_method_16_code_9) (by decide) (by decide) ?_
      show Steps p.tables e below (s₁.setTop (mkF m 13 #[.val (.long va), .second] [(.int (1 : Int32))])) _
      exact retN X0 hx (t := .boolean) Bd.returns (by simp) (hb hby d_prog_58_method_16_code_13) hr
    · show Q_mk Z va h0 n0 _ s₁.heap _
      rw [e0]
      exact ⟨⟨_, rfl, by simp [h5_1]⟩, N0, rfl⟩
theorem pn_1 : plainName "com/example/odeta/odeta/SafraTreeMarkedPinLaw" = true := by first | (simp [plainName, overriddenIn]; done) | decide +kernel
theorem pd_0 : parseMethodDescriptor "(J)Z" = some ⟨[.long], some .boolean⟩ := by decide +kernel
theorem ef_law (m : MethodId) (vp : Int64) (vn : Int32) (vf : Int32) : entryFrame m #[(.long vp), (.int vn), (.int vf)] maxLocals = mkF m 0 #[.val (.long vp), .second, .val (.int vn), .val (.int vf), .unset, .unset, .unset] [] := by first | (simp [entryFrame, mkF, argsToLocals, Value.category, maxLocals]; done) | rfl
def Q_law (Z : State) (vp : Int64) (vn : Int32) (vf : Int32) (h0 : Heap) (n0 : Nat) (v : Option Value) (h : Heap) (L : List Loc) : Prop := v = some (.int 1) ∧ Fr n0 L
set_option maxRecDepth 65536 in
set_option maxHeartbeats 40000000 in
theorem rm_law (l : Launch) (Z : State) (a0 : Array Value) (hw : ∀ d ∈ tables_1, d.before a0 Z = true) (ws : List Jvm.Cond) (vp : Int64) (vn : Int32) (vf : Int32) (h0 : Heap) (n0 : Nat) (Z0 : n0 ≤ h0.size) :
    MetFree l x (head1 (Jvm.Cond.code x code maxLocals ret :: ws) room_1) (fun a U => a = #[(.long vp), (.int vn), (.int vf)] ∧ Z.Warmed39 U.vm ∧ U.heap = h0) (fun _ _ _ _ _ => True) (fun _ U o U' => ∃ v L, o = .returned v ∧ Q_law Z vp vn vf h0 n0 v U'.heap L ∧ FrameEnd U o U' L room_1.cells room_1.slots) := by
  refine MetFree.of_bodySF (plainFor_of_name pn_1) hisR ?_
  intro p e s m args below meth c s₁ Bd hml0 hP hK
  obtain ⟨rfl, hZ, hh⟩ := hP
  have hx := Bd.exec
  have hby := Bd.bytes
  have hml : c.maxLocals = 7 := hml0
  have hown : s.vm.findClass "com/example/odeta/odeta/SafraTreeMarkedPinLaw" = some m.cls := findClass_of_methodNamed Bd.named
  have hnm := (name_of_methodNamed Bd.named Bd.method).1
  have X0 : Stand p l e room_1 s m #[(.long vp), (.int vn), (.int vf)] below meth c s₁ [] 0 0 := Stand.of_body Bd
  have e0 : s₁.heap = h0 := by rw [← hh, Bd.state]; rfl
  have N0 := Fr.nil n0
  have pre0 : ∀ t, Steps p.tables e below (s₁.setTop (mkF m 0 #[.val (.long vp), .second, .val (.int vn), .val (.int vf), .unset, .unset, .unset] [])) t → Steps p.tables e below (s₁.setTop (entryFrame m #[(.long vp), (.int vn), (.int vf)] maxLocals)) t := fun t k => castTop (ef_law m vp vn vf) k
  by_cases h3_2 : (vf &&& (1 : Int32)) = (0 : Int32)
  · obtain ⟨_, _, ⟨T3, L3, k3, n3⟩, -, X3, ⟨Lc3, hQ3, l3, y3, z3⟩, st3⟩ := Jvm.LawKit.callS X0 hx (y := (⟨"com/example/odeta/odeta/SafraTree", "marked", "(J)Z"⟩ : MethodName)) hown (mvT hZ (hw _ (List.mem_of_getElem? (i := 1) rfl))) (mvT hZ (hw _ (List.mem_of_getElem? (i := 2) rfl))) (mvT hZ (hw _ (List.mem_of_getElem? (i := 3) rfl))) (mvT hZ (hw _ (List.mem_of_getElem? (i := 4) rfl))) (by decide) (backOf (W := 0) (rm_mk l Z a0 hw [] (((vp <<< ((32 : Int32) &&& 0x3f).toInt64) ||| (((vn &&& (2147483647 : Int32)).toInt64) <<< ((1 : Int32) &&& 0x3f).toInt64)) ||| (0 : Int64)) h0 n0 Z0 ) hZ (hw _ (List.mem_of_getElem? (i := 4) rfl)) (hw _ (List.mem_of_getElem? (i := 3) rfl)) (by decide) (by decide)) (g := (mkF m 40 #[.val (.long vp), .second, .val (.int vn), .val (.int vf), .val (.int (0 : Int32)), .val (.long (((vp <<< ((32 : Int32) &&& 0x3f).toInt64) ||| (((vn &&& (2147483647 : Int32)).toInt64) <<< ((1 : Int32) &&& 0x3f).toInt64)) ||| (0 : Int64))), .second] [(.long (((vp <<< ((32 : Int32) &&& 0x3f).toInt64) ||| (((vn &&& (2147483647 : Int32)).toInt64) <<< ((1 : Int32) &&& 0x3f).toInt64)) ||| (0 : Int64)))])) rfl (by rw [hml]; rfl) (argsL := [(.long (((vp <<< ((32 : Int32) &&& 0x3f).toInt64) ||| (((vn &&& (2147483647 : Int32)).toInt64) <<< ((1 : Int32) &&& 0x3f).toInt64)) ||| (0 : Int64)))]) (rest := []) (lenOf pd_0 rfl) rfl (by show 2 * 0 + _ ≤ _; exact Nat.le_of_eq rfl) (hb hby at_40) (fun _ _ => ⟨rfl, e0, (by decide : 0 + 0 ≤ _), (by decide : 0 + 0 ≤ _)⟩)
    dsimp only [Pt.U, Pt.locs, Pt.cells, Pt.slots] at X3 l3 y3 z3 st3 hQ3
    subst l3 y3 z3
    obtain ⟨⟨r3, rfl, hr3⟩, N3q, e3⟩ := hQ3
    have N3 := Fr.app N0 N3q
    obtain ⟨fs, hr, hrun, hended, hW, hsame⟩ := X3.leave (v := some (.int (1 : Int32))) (fun h => by rw [Bd.returns] at h; cases h)
    refine ⟨_, _, pre0 _ ?_, hrun, hended, _, _, rfl, ?_, ⟨_, rfl⟩, hW, hsame.mono (by decide) (by decide)⟩
    · show Steps p.tables e below (s₁.setTop (mkF m 0 #[.val (.long vp), .second, .val (.int vn), .val (.int vf), .unset, .unset, .unset] [])) _
      refine XS.iloadN X0.here hx rfl (hb hby at_0) rfl ?_
      show Steps p.tables e below (s₁.setTop (mkF m 1 #[.val (.long vp), .second, .val (.int vn), .val (.int vf), .unset, .unset, .unset] [(.int vf)])) _
      refine XS.iconst X0.here hx rfl (hb hby at_1) ?_
      show Steps p.tables e below (s₁.setTop (mkF m 2 #[.val (.long vp), .second, .val (.int vn), .val (.int vf), .unset, .unset, .unset] [(.int (1 : Int32)), (.int vf)])) _
      refine XS.iand X0.here hx rfl (hb hby at_2) rfl ?_
      show Steps p.tables e below (s₁.setTop (mkF m 3 #[.val (.long vp), .second, .val (.int vn), .val (.int vf), .unset, .unset, .unset] [(.int (vf &&& (1 : Int32)))])) _
      refine XS.ifYes X0.here hx rfl (pc0 := 3) (pc' := 10) rfl (hb hby at_3) rfl ((if0 _ _).trans (teq h3_2).1) (by decide) (by decide) ?_
      show Steps p.tables e below (s₁.setTop (mkF m 10 #[.val (.long vp), .second, .val (.int vn), .val (.int vf), .unset, .unset, .unset] [])) _
      refine XS.iconst X0.here hx rfl (hb hby at_10) ?_
      show Steps p.tables e below (s₁.setTop (mkF m 11 #[.val (.long vp), .second, .val (.int vn), .val (.int vf), .unset, .unset, .unset] [(.int (0 : Int32))])) _
      refine XS.istore X0.here hx rfl (hb hby at_11) rfl (l' := #[.val (.long vp), .second, .val (.int vn), .val (.int vf), .val (.int (0 : Int32)), .unset, .unset]) rfl ?_
      show Steps p.tables e below (s₁.setTop (mkF m 13 #[.val (.long vp), .second, .val (.int vn), .val (.int vf), .val (.int (0 : Int32)), .unset, .unset] [])) _
      refine XS.lloadN X0.here hx rfl (hb hby at_13) rfl ?_
      show Steps p.tables e below (s₁.setTop (mkF m 14 #[.val (.long vp), .second, .val (.int vn), .val (.int vf), .val (.int (0 : Int32)), .unset, .unset] [(.long vp)])) _
      refine XS.bipush X0.here hx rfl (hb hby at_14) ?_
      show Steps p.tables e below (s₁.setTop (mkF m 16 #[.val (.long vp), .second, .val (.int vn), .val (.int vf), .val (.int (0 : Int32)), .unset, .unset] [(.int (32 : Int32)), (.long vp)])) _
      refine XS.lshl X0.here hx rfl (hb hby at_16) rfl ?_
      show Steps p.tables e below (s₁.setTop (mkF m 17 #[.val (.long vp), .second, .val (.int vn), .val (.int vf), .val (.int (0 : Int32)), .unset, .unset] [(.long (vp <<< ((32 : Int32) &&& 0x3f).toInt64))])) _
      refine XS.iloadN X0.here hx rfl (hb hby at_17) rfl ?_
      show Steps p.tables e below (s₁.setTop (mkF m 18 #[.val (.long vp), .second, .val (.int vn), .val (.int vf), .val (.int (0 : Int32)), .unset, .unset] [(.int vn), (.long (vp <<< ((32 : Int32) &&& 0x3f).toInt64))])) _
      refine X0.ldcInt hx hown (mvT hZ (hw _ (List.mem_of_getElem? (i := 0) rfl))) (g := (mkF m 18 #[.val (.long vp), .second, .val (.int vn), .val (.int vf), .val (.int (0 : Int32)), .unset, .unset] [(.int vn), (.long (vp <<< ((32 : Int32) &&& 0x3f).toInt64))])) rfl (hb hby at_18) _ ?_
      show Steps p.tables e below (s₁.setTop (mkF m 20 #[.val (.long vp), .second, .val (.int vn), .val (.int vf), .val (.int (0 : Int32)), .unset, .unset] [(.int (2147483647 : Int32)), (.int vn), (.long (vp <<< ((32 : Int32) &&& 0x3f).toInt64))])) _
      refine XS.iand X0.here hx rfl (hb hby at_20) rfl ?_
      show Steps p.tables e below (s₁.setTop (mkF m 21 #[.val (.long vp), .second, .val (.int vn), .val (.int vf), .val (.int (0 : Int32)), .unset, .unset] [(.int (vn &&& (2147483647 : Int32))), (.long (vp <<< ((32 : Int32) &&& 0x3f).toInt64))])) _
      refine XS.i2l X0.here hx rfl (hb hby at_21) rfl ?_
      show Steps p.tables e below (s₁.setTop (mkF m 22 #[.val (.long vp), .second, .val (.int vn), .val (.int vf), .val (.int (0 : Int32)), .unset, .unset] [(.long ((vn &&& (2147483647 : Int32)).toInt64)), (.long (vp <<< ((32 : Int32) &&& 0x3f).toInt64))])) _
      refine XS.iconst X0.here hx rfl (hb hby at_22) ?_
      show Steps p.tables e below (s₁.setTop (mkF m 23 #[.val (.long vp), .second, .val (.int vn), .val (.int vf), .val (.int (0 : Int32)), .unset, .unset] [(.int (1 : Int32)), (.long ((vn &&& (2147483647 : Int32)).toInt64)), (.long (vp <<< ((32 : Int32) &&& 0x3f).toInt64))])) _
      refine XS.lshl X0.here hx rfl (hb hby at_23) rfl ?_
      show Steps p.tables e below (s₁.setTop (mkF m 24 #[.val (.long vp), .second, .val (.int vn), .val (.int vf), .val (.int (0 : Int32)), .unset, .unset] [(.long (((vn &&& (2147483647 : Int32)).toInt64) <<< ((1 : Int32) &&& 0x3f).toInt64)), (.long (vp <<< ((32 : Int32) &&& 0x3f).toInt64))])) _
      refine XS.lor X0.here hx rfl (hb hby at_24) rfl ?_
      show Steps p.tables e below (s₁.setTop (mkF m 25 #[.val (.long vp), .second, .val (.int vn), .val (.int vf), .val (.int (0 : Int32)), .unset, .unset] [(.long ((vp <<< ((32 : Int32) &&& 0x3f).toInt64) ||| (((vn &&& (2147483647 : Int32)).toInt64) <<< ((1 : Int32) &&& 0x3f).toInt64)))])) _
      refine XS.iload X0.here hx rfl (hb hby at_25) rfl ?_
      show Steps p.tables e below (s₁.setTop (mkF m 27 #[.val (.long vp), .second, .val (.int vn), .val (.int vf), .val (.int (0 : Int32)), .unset, .unset] [(.int (0 : Int32)), (.long ((vp <<< ((32 : Int32) &&& 0x3f).toInt64) ||| (((vn &&& (2147483647 : Int32)).toInt64) <<< ((1 : Int32) &&& 0x3f).toInt64)))])) _
      refine XS.ifYes X0.here hx rfl (pc0 := 27) (pc' := 34) rfl (hb hby at_27) rfl ((if0 _ _).trans (teq (by decide : (0 : Int32) = (0 : Int32))).1) (by decide) (by decide) ?_
      show Steps p.tables e below (s₁.setTop (mkF m 34 #[.val (.long vp), .second, .val (.int vn), .val (.int vf), .val (.int (0 : Int32)), .unset, .unset] [(.long ((vp <<< ((32 : Int32) &&& 0x3f).toInt64) ||| (((vn &&& (2147483647 : Int32)).toInt64) <<< ((1 : Int32) &&& 0x3f).toInt64)))])) _
      refine XS.lconst X0.here hx rfl (hb hby at_34) ?_
      show Steps p.tables e below (s₁.setTop (mkF m 35 #[.val (.long vp), .second, .val (.int vn), .val (.int vf), .val (.int (0 : Int32)), .unset, .unset] [(.long (0 : Int64)), (.long ((vp <<< ((32 : Int32) &&& 0x3f).toInt64) ||| (((vn &&& (2147483647 : Int32)).toInt64) <<< ((1 : Int32) &&& 0x3f).toInt64)))])) _
      refine XS.lor X0.here hx rfl (hb hby at_35) rfl ?_
      show Steps p.tables e below (s₁.setTop (mkF m 36 #[.val (.long vp), .second, .val (.int vn), .val (.int vf), .val (.int (0 : Int32)), .unset, .unset] [(.long (((vp <<< ((32 : Int32) &&& 0x3f).toInt64) ||| (((vn &&& (2147483647 : Int32)).toInt64) <<< ((1 : Int32) &&& 0x3f).toInt64)) ||| (0 : Int64)))])) _
      refine XS.lstore X0.here hx rfl (hb hby at_36) rfl (l' := #[.val (.long vp), .second, .val (.int vn), .val (.int vf), .val (.int (0 : Int32)), .val (.long (((vp <<< ((32 : Int32) &&& 0x3f).toInt64) ||| (((vn &&& (2147483647 : Int32)).toInt64) <<< ((1 : Int32) &&& 0x3f).toInt64)) ||| (0 : Int64))), .second]) rfl ?_
      show Steps p.tables e below (s₁.setTop (mkF m 38 #[.val (.long vp), .second, .val (.int vn), .val (.int vf), .val (.int (0 : Int32)), .val (.long (((vp <<< ((32 : Int32) &&& 0x3f).toInt64) ||| (((vn &&& (2147483647 : Int32)).toInt64) <<< ((1 : Int32) &&& 0x3f).toInt64)) ||| (0 : Int64))), .second] [])) _
      refine XS.lload X0.here hx rfl (hb hby at_38) rfl ?_
      show Steps p.tables e below (s₁.setTop (mkF m 40 #[.val (.long vp), .second, .val (.int vn), .val (.int vf), .val (.int (0 : Int32)), .val (.long (((vp <<< ((32 : Int32) &&& 0x3f).toInt64) ||| (((vn &&& (2147483647 : Int32)).toInt64) <<< ((1 : Int32) &&& 0x3f).toInt64)) ||| (0 : Int64))), .second] [(.long (((vp <<< ((32 : Int32) &&& 0x3f).toInt64) ||| (((vn &&& (2147483647 : Int32)).toInt64) <<< ((1 : Int32) &&& 0x3f).toInt64)) ||| (0 : Int64)))])) _
      refine st3 _ ?_
      show Steps p.tables e below (T3.setTop (mkF m 43 #[.val (.long vp), .second, .val (.int vn), .val (.int vf), .val (.int (0 : Int32)), .val (.long (((vp <<< ((32 : Int32) &&& 0x3f).toInt64) ||| (((vn &&& (2147483647 : Int32)).toInt64) <<< ((1 : Int32) &&& 0x3f).toInt64)) ||| (0 : Int64))), .second] [(.int r3)])) _
      refine XS.iload X3.here hx rfl (hb hby at_43) rfl ?_
      show Steps p.tables e below (T3.setTop (mkF m 45 #[.val (.long vp), .second, .val (.int vn), .val (.int vf), .val (.int (0 : Int32)), .val (.long (((vp <<< ((32 : Int32) &&& 0x3f).toInt64) ||| (((vn &&& (2147483647 : Int32)).toInt64) <<< ((1 : Int32) &&& 0x3f).toInt64)) ||| (0 : Int64))), .second] [(.int (0 : Int32)), (.int r3)])) _
      refine XS.icmpNo X3.here hx rfl (hb hby at_45) rfl (teq (hr3.trans (if_pos (own_b0 vp vn)) : r3 = (0 : Int32))).2 ?_
      show Steps p.tables e below (T3.setTop (mkF m 48 #[.val (.long vp), .second, .val (.int vn), .val (.int vf), .val (.int (0 : Int32)), .val (.long (((vp <<< ((32 : Int32) &&& 0x3f).toInt64) ||| (((vn &&& (2147483647 : Int32)).toInt64) <<< ((1 : Int32) &&& 0x3f).toInt64)) ||| (0 : Int64))), .second] [])) _
      refine XS.iconst X3.here hx rfl (hb hby at_48) ?_
      show Steps p.tables e below (T3.setTop (mkF m 49 #[.val (.long vp), .second, .val (.int vn), .val (.int vf), .val (.int (0 : Int32)), .val (.long (((vp <<< ((32 : Int32) &&& 0x3f).toInt64) ||| (((vn &&& (2147483647 : Int32)).toInt64) <<< ((1 : Int32) &&& 0x3f).toInt64)) ||| (0 : Int64))), .second] [(.int (1 : Int32))])) _
      refine XS.goto X3.here hx rfl (pc0 := 49) (pc' := 53) rfl (hb hby at_49) (by decide) (by decide) ?_
      show Steps p.tables e below (T3.setTop (mkF m 53 #[.val (.long vp), .second, .val (.int vn), .val (.int vf), .val (.int (0 : Int32)), .val (.long (((vp <<< ((32 : Int32) &&& 0x3f).toInt64) ||| (((vn &&& (2147483647 : Int32)).toInt64) <<< ((1 : Int32) &&& 0x3f).toInt64)) ||| (0 : Int64))), .second] [(.int (1 : Int32))])) _
      exact retN X3 hx (t := .boolean) Bd.returns (by simp) (hb hby at_53) hr
    · show Q_law Z vp vn vf h0 n0 _ T3.heap _
      rw [e3]
      exact ⟨rfl, N3⟩
  · obtain ⟨_, _, ⟨T4, L4, k4, n4⟩, -, X4, ⟨Lc4, hQ4, l4, y4, z4⟩, st4⟩ := Jvm.LawKit.callS X0 hx (y := (⟨"com/example/odeta/odeta/SafraTree", "marked", "(J)Z"⟩ : MethodName)) hown (mvT hZ (hw _ (List.mem_of_getElem? (i := 1) rfl))) (mvT hZ (hw _ (List.mem_of_getElem? (i := 2) rfl))) (mvT hZ (hw _ (List.mem_of_getElem? (i := 3) rfl))) (mvT hZ (hw _ (List.mem_of_getElem? (i := 4) rfl))) (by decide) (backOf (W := 0) (rm_mk l Z a0 hw [] (((vp <<< ((32 : Int32) &&& 0x3f).toInt64) ||| (((vn &&& (2147483647 : Int32)).toInt64) <<< ((1 : Int32) &&& 0x3f).toInt64)) ||| (1 : Int64)) h0 n0 Z0 ) hZ (hw _ (List.mem_of_getElem? (i := 4) rfl)) (hw _ (List.mem_of_getElem? (i := 3) rfl)) (by decide) (by decide)) (g := (mkF m 40 #[.val (.long vp), .second, .val (.int vn), .val (.int vf), .val (.int (1 : Int32)), .val (.long (((vp <<< ((32 : Int32) &&& 0x3f).toInt64) ||| (((vn &&& (2147483647 : Int32)).toInt64) <<< ((1 : Int32) &&& 0x3f).toInt64)) ||| (1 : Int64))), .second] [(.long (((vp <<< ((32 : Int32) &&& 0x3f).toInt64) ||| (((vn &&& (2147483647 : Int32)).toInt64) <<< ((1 : Int32) &&& 0x3f).toInt64)) ||| (1 : Int64)))])) rfl (by rw [hml]; rfl) (argsL := [(.long (((vp <<< ((32 : Int32) &&& 0x3f).toInt64) ||| (((vn &&& (2147483647 : Int32)).toInt64) <<< ((1 : Int32) &&& 0x3f).toInt64)) ||| (1 : Int64)))]) (rest := []) (lenOf pd_0 rfl) rfl (by show 2 * 0 + _ ≤ _; exact Nat.le_of_eq rfl) (hb hby at_40) (fun _ _ => ⟨rfl, e0, (by decide : 0 + 0 ≤ _), (by decide : 0 + 0 ≤ _)⟩)
    dsimp only [Pt.U, Pt.locs, Pt.cells, Pt.slots] at X4 l4 y4 z4 st4 hQ4
    subst l4 y4 z4
    obtain ⟨⟨r4, rfl, hr4⟩, N4q, e4⟩ := hQ4
    have N4 := Fr.app N0 N4q
    obtain ⟨fs, hr, hrun, hended, hW, hsame⟩ := X4.leave (v := some (.int (1 : Int32))) (fun h => by rw [Bd.returns] at h; cases h)
    refine ⟨_, _, pre0 _ ?_, hrun, hended, _, _, rfl, ?_, ⟨_, rfl⟩, hW, hsame.mono (by decide) (by decide)⟩
    · show Steps p.tables e below (s₁.setTop (mkF m 0 #[.val (.long vp), .second, .val (.int vn), .val (.int vf), .unset, .unset, .unset] [])) _
      refine XS.iloadN X0.here hx rfl (hb hby at_0) rfl ?_
      show Steps p.tables e below (s₁.setTop (mkF m 1 #[.val (.long vp), .second, .val (.int vn), .val (.int vf), .unset, .unset, .unset] [(.int vf)])) _
      refine XS.iconst X0.here hx rfl (hb hby at_1) ?_
      show Steps p.tables e below (s₁.setTop (mkF m 2 #[.val (.long vp), .second, .val (.int vn), .val (.int vf), .unset, .unset, .unset] [(.int (1 : Int32)), (.int vf)])) _
      refine XS.iand X0.here hx rfl (hb hby at_2) rfl ?_
      show Steps p.tables e below (s₁.setTop (mkF m 3 #[.val (.long vp), .second, .val (.int vn), .val (.int vf), .unset, .unset, .unset] [(.int (vf &&& (1 : Int32)))])) _
      refine XS.ifNo X0.here hx rfl (hb hby at_3) rfl ((if0 _ _).trans (feq h3_2).1) ?_
      show Steps p.tables e below (s₁.setTop (mkF m 6 #[.val (.long vp), .second, .val (.int vn), .val (.int vf), .unset, .unset, .unset] [])) _
      refine XS.iconst X0.here hx rfl (hb hby at_6) ?_
      show Steps p.tables e below (s₁.setTop (mkF m 7 #[.val (.long vp), .second, .val (.int vn), .val (.int vf), .unset, .unset, .unset] [(.int (1 : Int32))])) _
      refine XS.goto X0.here hx rfl (pc0 := 7) (pc' := 11) rfl (hb hby at_7) (by decide) (by decide) ?_
      show Steps p.tables e below (s₁.setTop (mkF m 11 #[.val (.long vp), .second, .val (.int vn), .val (.int vf), .unset, .unset, .unset] [(.int (1 : Int32))])) _
      refine XS.istore X0.here hx rfl (hb hby at_11) rfl (l' := #[.val (.long vp), .second, .val (.int vn), .val (.int vf), .val (.int (1 : Int32)), .unset, .unset]) rfl ?_
      show Steps p.tables e below (s₁.setTop (mkF m 13 #[.val (.long vp), .second, .val (.int vn), .val (.int vf), .val (.int (1 : Int32)), .unset, .unset] [])) _
      refine XS.lloadN X0.here hx rfl (hb hby at_13) rfl ?_
      show Steps p.tables e below (s₁.setTop (mkF m 14 #[.val (.long vp), .second, .val (.int vn), .val (.int vf), .val (.int (1 : Int32)), .unset, .unset] [(.long vp)])) _
      refine XS.bipush X0.here hx rfl (hb hby at_14) ?_
      show Steps p.tables e below (s₁.setTop (mkF m 16 #[.val (.long vp), .second, .val (.int vn), .val (.int vf), .val (.int (1 : Int32)), .unset, .unset] [(.int (32 : Int32)), (.long vp)])) _
      refine XS.lshl X0.here hx rfl (hb hby at_16) rfl ?_
      show Steps p.tables e below (s₁.setTop (mkF m 17 #[.val (.long vp), .second, .val (.int vn), .val (.int vf), .val (.int (1 : Int32)), .unset, .unset] [(.long (vp <<< ((32 : Int32) &&& 0x3f).toInt64))])) _
      refine XS.iloadN X0.here hx rfl (hb hby at_17) rfl ?_
      show Steps p.tables e below (s₁.setTop (mkF m 18 #[.val (.long vp), .second, .val (.int vn), .val (.int vf), .val (.int (1 : Int32)), .unset, .unset] [(.int vn), (.long (vp <<< ((32 : Int32) &&& 0x3f).toInt64))])) _
      refine X0.ldcInt hx hown (mvT hZ (hw _ (List.mem_of_getElem? (i := 0) rfl))) (g := (mkF m 18 #[.val (.long vp), .second, .val (.int vn), .val (.int vf), .val (.int (1 : Int32)), .unset, .unset] [(.int vn), (.long (vp <<< ((32 : Int32) &&& 0x3f).toInt64))])) rfl (hb hby at_18) _ ?_
      show Steps p.tables e below (s₁.setTop (mkF m 20 #[.val (.long vp), .second, .val (.int vn), .val (.int vf), .val (.int (1 : Int32)), .unset, .unset] [(.int (2147483647 : Int32)), (.int vn), (.long (vp <<< ((32 : Int32) &&& 0x3f).toInt64))])) _
      refine XS.iand X0.here hx rfl (hb hby at_20) rfl ?_
      show Steps p.tables e below (s₁.setTop (mkF m 21 #[.val (.long vp), .second, .val (.int vn), .val (.int vf), .val (.int (1 : Int32)), .unset, .unset] [(.int (vn &&& (2147483647 : Int32))), (.long (vp <<< ((32 : Int32) &&& 0x3f).toInt64))])) _
      refine XS.i2l X0.here hx rfl (hb hby at_21) rfl ?_
      show Steps p.tables e below (s₁.setTop (mkF m 22 #[.val (.long vp), .second, .val (.int vn), .val (.int vf), .val (.int (1 : Int32)), .unset, .unset] [(.long ((vn &&& (2147483647 : Int32)).toInt64)), (.long (vp <<< ((32 : Int32) &&& 0x3f).toInt64))])) _
      refine XS.iconst X0.here hx rfl (hb hby at_22) ?_
      show Steps p.tables e below (s₁.setTop (mkF m 23 #[.val (.long vp), .second, .val (.int vn), .val (.int vf), .val (.int (1 : Int32)), .unset, .unset] [(.int (1 : Int32)), (.long ((vn &&& (2147483647 : Int32)).toInt64)), (.long (vp <<< ((32 : Int32) &&& 0x3f).toInt64))])) _
      refine XS.lshl X0.here hx rfl (hb hby at_23) rfl ?_
      show Steps p.tables e below (s₁.setTop (mkF m 24 #[.val (.long vp), .second, .val (.int vn), .val (.int vf), .val (.int (1 : Int32)), .unset, .unset] [(.long (((vn &&& (2147483647 : Int32)).toInt64) <<< ((1 : Int32) &&& 0x3f).toInt64)), (.long (vp <<< ((32 : Int32) &&& 0x3f).toInt64))])) _
      refine XS.lor X0.here hx rfl (hb hby at_24) rfl ?_
      show Steps p.tables e below (s₁.setTop (mkF m 25 #[.val (.long vp), .second, .val (.int vn), .val (.int vf), .val (.int (1 : Int32)), .unset, .unset] [(.long ((vp <<< ((32 : Int32) &&& 0x3f).toInt64) ||| (((vn &&& (2147483647 : Int32)).toInt64) <<< ((1 : Int32) &&& 0x3f).toInt64)))])) _
      refine XS.iload X0.here hx rfl (hb hby at_25) rfl ?_
      show Steps p.tables e below (s₁.setTop (mkF m 27 #[.val (.long vp), .second, .val (.int vn), .val (.int vf), .val (.int (1 : Int32)), .unset, .unset] [(.int (1 : Int32)), (.long ((vp <<< ((32 : Int32) &&& 0x3f).toInt64) ||| (((vn &&& (2147483647 : Int32)).toInt64) <<< ((1 : Int32) &&& 0x3f).toInt64)))])) _
      refine XS.ifNo X0.here hx rfl (hb hby at_27) rfl ((if0 _ _).trans (feq (by decide : ¬ ((1 : Int32) = (0 : Int32)))).1) ?_
      show Steps p.tables e below (s₁.setTop (mkF m 30 #[.val (.long vp), .second, .val (.int vn), .val (.int vf), .val (.int (1 : Int32)), .unset, .unset] [(.long ((vp <<< ((32 : Int32) &&& 0x3f).toInt64) ||| (((vn &&& (2147483647 : Int32)).toInt64) <<< ((1 : Int32) &&& 0x3f).toInt64)))])) _
      refine XS.lconst X0.here hx rfl (hb hby at_30) ?_
      show Steps p.tables e below (s₁.setTop (mkF m 31 #[.val (.long vp), .second, .val (.int vn), .val (.int vf), .val (.int (1 : Int32)), .unset, .unset] [(.long (1 : Int64)), (.long ((vp <<< ((32 : Int32) &&& 0x3f).toInt64) ||| (((vn &&& (2147483647 : Int32)).toInt64) <<< ((1 : Int32) &&& 0x3f).toInt64)))])) _
      refine XS.goto X0.here hx rfl (pc0 := 31) (pc' := 35) rfl (hb hby at_31) (by decide) (by decide) ?_
      show Steps p.tables e below (s₁.setTop (mkF m 35 #[.val (.long vp), .second, .val (.int vn), .val (.int vf), .val (.int (1 : Int32)), .unset, .unset] [(.long (1 : Int64)), (.long ((vp <<< ((32 : Int32) &&& 0x3f).toInt64) ||| (((vn &&& (2147483647 : Int32)).toInt64) <<< ((1 : Int32) &&& 0x3f).toInt64)))])) _
      refine XS.lor X0.here hx rfl (hb hby at_35) rfl ?_
      show Steps p.tables e below (s₁.setTop (mkF m 36 #[.val (.long vp), .second, .val (.int vn), .val (.int vf), .val (.int (1 : Int32)), .unset, .unset] [(.long (((vp <<< ((32 : Int32) &&& 0x3f).toInt64) ||| (((vn &&& (2147483647 : Int32)).toInt64) <<< ((1 : Int32) &&& 0x3f).toInt64)) ||| (1 : Int64)))])) _
      refine XS.lstore X0.here hx rfl (hb hby at_36) rfl (l' := #[.val (.long vp), .second, .val (.int vn), .val (.int vf), .val (.int (1 : Int32)), .val (.long (((vp <<< ((32 : Int32) &&& 0x3f).toInt64) ||| (((vn &&& (2147483647 : Int32)).toInt64) <<< ((1 : Int32) &&& 0x3f).toInt64)) ||| (1 : Int64))), .second]) rfl ?_
      show Steps p.tables e below (s₁.setTop (mkF m 38 #[.val (.long vp), .second, .val (.int vn), .val (.int vf), .val (.int (1 : Int32)), .val (.long (((vp <<< ((32 : Int32) &&& 0x3f).toInt64) ||| (((vn &&& (2147483647 : Int32)).toInt64) <<< ((1 : Int32) &&& 0x3f).toInt64)) ||| (1 : Int64))), .second] [])) _
      refine XS.lload X0.here hx rfl (hb hby at_38) rfl ?_
      show Steps p.tables e below (s₁.setTop (mkF m 40 #[.val (.long vp), .second, .val (.int vn), .val (.int vf), .val (.int (1 : Int32)), .val (.long (((vp <<< ((32 : Int32) &&& 0x3f).toInt64) ||| (((vn &&& (2147483647 : Int32)).toInt64) <<< ((1 : Int32) &&& 0x3f).toInt64)) ||| (1 : Int64))), .second] [(.long (((vp <<< ((32 : Int32) &&& 0x3f).toInt64) ||| (((vn &&& (2147483647 : Int32)).toInt64) <<< ((1 : Int32) &&& 0x3f).toInt64)) ||| (1 : Int64)))])) _
      refine st4 _ ?_
      show Steps p.tables e below (T4.setTop (mkF m 43 #[.val (.long vp), .second, .val (.int vn), .val (.int vf), .val (.int (1 : Int32)), .val (.long (((vp <<< ((32 : Int32) &&& 0x3f).toInt64) ||| (((vn &&& (2147483647 : Int32)).toInt64) <<< ((1 : Int32) &&& 0x3f).toInt64)) ||| (1 : Int64))), .second] [(.int r4)])) _
      refine XS.iload X4.here hx rfl (hb hby at_43) rfl ?_
      show Steps p.tables e below (T4.setTop (mkF m 45 #[.val (.long vp), .second, .val (.int vn), .val (.int vf), .val (.int (1 : Int32)), .val (.long (((vp <<< ((32 : Int32) &&& 0x3f).toInt64) ||| (((vn &&& (2147483647 : Int32)).toInt64) <<< ((1 : Int32) &&& 0x3f).toInt64)) ||| (1 : Int64))), .second] [(.int (1 : Int32)), (.int r4)])) _
      refine XS.icmpNo X4.here hx rfl (hb hby at_45) rfl (teq (hr4.trans (if_neg (own_b1 vp vn)) : r4 = (1 : Int32))).2 ?_
      show Steps p.tables e below (T4.setTop (mkF m 48 #[.val (.long vp), .second, .val (.int vn), .val (.int vf), .val (.int (1 : Int32)), .val (.long (((vp <<< ((32 : Int32) &&& 0x3f).toInt64) ||| (((vn &&& (2147483647 : Int32)).toInt64) <<< ((1 : Int32) &&& 0x3f).toInt64)) ||| (1 : Int64))), .second] [])) _
      refine XS.iconst X4.here hx rfl (hb hby at_48) ?_
      show Steps p.tables e below (T4.setTop (mkF m 49 #[.val (.long vp), .second, .val (.int vn), .val (.int vf), .val (.int (1 : Int32)), .val (.long (((vp <<< ((32 : Int32) &&& 0x3f).toInt64) ||| (((vn &&& (2147483647 : Int32)).toInt64) <<< ((1 : Int32) &&& 0x3f).toInt64)) ||| (1 : Int64))), .second] [(.int (1 : Int32))])) _
      refine XS.goto X4.here hx rfl (pc0 := 49) (pc' := 53) rfl (hb hby at_49) (by decide) (by decide) ?_
      show Steps p.tables e below (T4.setTop (mkF m 53 #[.val (.long vp), .second, .val (.int vn), .val (.int vf), .val (.int (1 : Int32)), .val (.long (((vp <<< ((32 : Int32) &&& 0x3f).toInt64) ||| (((vn &&& (2147483647 : Int32)).toInt64) <<< ((1 : Int32) &&& 0x3f).toInt64)) ||| (1 : Int64))), .second] [(.int (1 : Int32))])) _
      exact retN X4 hx (t := .boolean) Bd.returns (by simp) (hb hby at_53) hr
    · show Q_law Z vp vn vf h0 n0 _ T4.heap _
      rw [e4]
      exact ⟨rfl, N4⟩
set_option maxRecDepth 65536 in
set_option maxHeartbeats 40000000 in
theorem comes_1 {Post : Tables → Env → Array Value → State → Outcome → State → Prop} (hpost : ∀ tb e args s v u, (limb_1_1.after args s (.returned v) u = true ∧ limb_1_2.after args s (.returned v) u = true ∧ True) → FrameEnd s (.returned v) u (Jvm.fieldLocs frame_1_writes args s ++ Jvm.arrayLocs frame_1_arrays args s ++ Jvm.staticLocs frame_1_statics s) 0 0 → Post tb e args s (.returned v) u) :
    ArmFor flags0 classFile x code maxLocals ret World_1 tables_1 room_1 Calls_1 rest_1 Pre_1 Post := by
  intro l hfl _ _ p e ha hc hk s m args below hf hA hF happ hP
  obtain ⟨hcalls, hrest, hpre⟩ := hP
  obtain ⟨-, -, -, hnamed, -, -, -, hat⟩ := (Spec.applies_iff hf).mp happ
  obtain ⟨hg, hn⟩ := and_e (Cond.before_iff.mp (show (Jvm.Cond.and given_1 narrow_1).before args s = true from hpre))
  obtain ⟨hg0, hr0⟩ := and_e hg
  obtain ⟨ha0, hr1⟩ := and_e hr0
  obtain ⟨ha1, hr2⟩ := and_e hr1
  obtain ⟨w0, w1, w2, rfl⟩ : ∃ w0 w1 w2 : Value, args = #[w0, w1, w2] := by
    have hs : args.size = 3 := by simpa [Cond.value, given_1] using hg0
    obtain ⟨L⟩ := args
    match L, hs with
    | [w0, w1, w2], _ => exact ⟨w0, w1, w2, rfl⟩
  have hw := fun d (hd : d ∈ tables_1) => atoms_spec (ws := Jvm.Cond.code x code maxLocals ret :: tables_1) hat d (List.mem_cons_of_mem _ hd)
  obtain ⟨i0, ei0⟩ := isL_v ha0
  obtain rfl : w0 = (.long i0) := Option.some.inj ei0
  obtain ⟨i1, ei1⟩ := is_v ha1
  obtain rfl : w1 = (.int i1) := Option.some.inj ei1
  obtain ⟨i2, ei2⟩ := is_v hr2
  obtain rfl : w2 = (.int i2) := Option.some.inj ei2
  obtain ⟨n, o, h1, h2, h3, _, L, rfl, ⟨rfl, N⟩, hq⟩ := rm_law l s _ hw tables_1 i0 i1 i2 s.heap s.heap.size (Nat.le_refl _)  p e ha hc hk s m _ below hf ((Spec.applies_iff_loose hf).mp happ).1 ⟨rfl, State.Warmed39.refl s, rfl⟩ trivial
  refine ⟨n, _, h1, h2, h3, hpost _ _ _ _ _ _ ⟨Cond.after_iff.mpr rfl, Cond.after_iff.mpr (eq_i res_at (Term.int_eval (1)) rfl), trivial⟩ ⟨hq.1, hq.2.1, (hq.2.2.sift fun y hy => Or.inr (N y hy)).mono (by decide) (by decide)⟩⟩
theorem main_1_1 : Claimed_1_1 := comes_1 fun _ _ _ _ _ _ h hF => ⟨h.1, hF⟩
theorem main_1_2 : Claimed_1_2 := comes_1 fun _ _ _ _ _ _ h hF => ⟨h.2.1, hF⟩
end Jvm.Pilot.@@N@@
namespace Jvm.Pilot.@@N@@
open Jvm Jvm.ClassFile Sem Op Lib Jvm.Free Jvm.Stand Jvm.Pilot.@@N@@.Jvm.D
/-! MADE BY PROGRAM (witnessworld.py) out of the Statement's table words and the real class files: 9 classes; the members and pool entries that the words name. The judged class is class 1, her method 1. -/
namespace start1
open Jvm.ClassFile
def u (s : String) : CpInfo := .utf8 (stringToUtf16 s)
/-- a pool by its gaps: so many unusable entries, then the entry; so many at the end -/
def gap : Nat → List CpInfo → List CpInfo
  | 0, r => r
  | n + 1, r => .unusable :: gap n r
def poolList (es : List (Nat × CpInfo)) (last : Nat) : List CpInfo := es.foldr (fun e r => gap e.1 (e.2 :: r)) (gap last [])
def pool (es : List (Nat × CpInfo)) (last : Nat) : Array CpInfo := ⟨poolList es last⟩
def fileOf (pool : Array CpInfo) (this : Nat) (attrs : Array Attribute := #[]) (ms : Array MethodInfo := #[]) (fl : Nat := 33) (sup : Nat := 0) (ifs : Array Nat := #[]) (fds : Array FieldInfo := #[]) : ClassFile where
  minorVersion := 0
  majorVersion := 65
  constantPool := pool
  accessFlags := fl
  thisClass := this
  superClass := sup
  interfaces := ifs
  fields := fds
  methods := ms
  attributes := attrs
def plain (name : String) (sup : Option ClassId) : Class where
  name := name
  kind := .ordinary
  loader := none
  accessFlags := 33
  super := sup
  interfaces := #[]
  cf := none
  fields := #[]
  methods := #[]
  instanceTypes := #[]
  staticTypes := #[]
  resolved := #[]
  callSites := []
  init := .initialized
  statics := none
  mirror := none

def pool0 : Array CpInfo := pool [(5, u "<init>"), (0, u "()V"), (1, .class_ 10), (1, u "java/lang/Object")] 113

def k0m0 : Method := { name := "<init>", desc := "()V", sig := { parameters := [], returnType := none }, accessFlags := 1, code := none }
/-- java/lang/Object -/
def k0 : Class := { plain "java/lang/Object" none with
  accessFlags := 33
  interfaces := #[]
  cf := some (fileOf pool0 8 #[] #[{ accessFlags := 1, nameIndex := 5, descriptorIndex := 6, attributes := #[] }] 33 0 #[] #[])
  fields := #[]
  methods := #[k0m0]
  instanceTypes := #[]
  staticTypes := #[]
  resolved := Array.replicate 124 none
  statics := none }

def pool1 : Array CpInfo := pool [(2, .class_ 4), (1, u "java/lang/Object"), (0, u "<init>"), (0, u "()V"), (0, .integer 2147483647), (0, .methodref 9 10), (0, .class_ 11), (0, .nameAndType 12 13), (0, u "com/example/odeta/odeta/SafraTree"), (0, u "marked"), (0, u "(J)Z"), (0, .class_ 15), (0, u "com/example/odeta/odeta/SafraTreeMarkedPinLaw"), (2, u "law"), (0, u "(JII)Z")] 3

def k1m0 : Method := { name := "<init>", desc := "()V", sig := { parameters := [], returnType := none }, accessFlags := 1, code := none }
def k1c1 : Code := { maxStack := 5, maxLocals := 7, code := code, exceptionTable := #[], attributes := #[] }
def k1m1 : Method := { name := "law", desc := "(JII)Z", sig := { parameters := [.long, .int, .int], returnType := some .boolean }, accessFlags := 9, code := some k1c1 }
/-- com/example/odeta/odeta/SafraTreeMarkedPinLaw -/
def k1 : Class := { plain "com/example/odeta/odeta/SafraTreeMarkedPinLaw" (some 0) with
  accessFlags := 49
  interfaces := #[]
  cf := some (fileOf pool1 14 #[] #[{ accessFlags := 1, nameIndex := 5, descriptorIndex := 6, attributes := #[] }, { accessFlags := 9, nameIndex := 18, descriptorIndex := 19, attributes := #[] }] 49 2 #[] #[])
  fields := #[]
  methods := #[k1m0, k1m1]
  instanceTypes := #[]
  staticTypes := #[]
  resolved := Array.replicate 23 none
  statics := none }

def pool2 : Array CpInfo := pool [(2, .class_ 4), (1, u "java/lang/Object"), (6, .class_ 13), (1, u "com/example/odeta/odeta/SafraTree"), (0, u "namesInUse"), (0, u "Ljava/util/BitSet;"), (2, u "states"), (0, .class_ 20), (0, u "com/example/odeta/odeta/SafraTree$Node"), (2, u "pool"), (0, u "[Lcom/example/odeta/odeta/SafraTree$Node;"), (2, u "automaton"), (0, u "Lcom/example/odeta/odeta/BuchiAutomaton;"), (8, u "accepting"), (8, u "size"), (3, u "nodeLength"), (3, u "I"), (25, u "root"), (0, u "Lcom/example/odeta/odeta/SafraTree$Node;"), (12, u "marked"), (3, u "STEPS"), (0, u "[Lcom/example/odeta/odeta/SafraStep;"), (5, .class_ 107), (1, u "com/example/odeta/odeta/SafraTree$1"), (90, u "(J)Z")] 67

def k2c0 : Code := { maxStack := 4, maxLocals := 2, code := prog_58_method_16_code, exceptionTable := #[], attributes := #[] }
def k2m0 : Method := { name := "marked", desc := "(J)Z", sig := { parameters := [.long], returnType := some .boolean }, accessFlags := 8, code := some k2c0 }
/-- com/example/odeta/odeta/SafraTree -/
def k2 : Class := { plain "com/example/odeta/odeta/SafraTree" (some 0) with
  accessFlags := 48
  interfaces := #[]
  cf := some (fileOf pool2 11 #[.nestMembers #[105, 19]] #[{ accessFlags := 8, nameIndex := 94, descriptorIndex := 198, attributes := #[] }] 48 2 #[] #[{ accessFlags := 26, nameIndex := 98, descriptorIndex := 99, attributes := #[] }, { accessFlags := 18, nameIndex := 27, descriptorIndex := 28, attributes := #[] }, { accessFlags := 18, nameIndex := 37, descriptorIndex := 15, attributes := #[] }, { accessFlags := 18, nameIndex := 50, descriptorIndex := 54, attributes := #[] }, { accessFlags := 18, nameIndex := 14, descriptorIndex := 15, attributes := #[] }, { accessFlags := 18, nameIndex := 18, descriptorIndex := 15, attributes := #[] }, { accessFlags := 2, nameIndex := 23, descriptorIndex := 24, attributes := #[] }, { accessFlags := 2, nameIndex := 46, descriptorIndex := 54, attributes := #[] }, { accessFlags := 2, nameIndex := 80, descriptorIndex := 81, attributes := #[] }])
  fields := #[{ name := "STEPS", type := (.array (.object "com/example/odeta/odeta/SafraStep")), accessFlags := 26, slot := 0, constantValue := 0 }, { name := "automaton", type := (.object "com/example/odeta/odeta/BuchiAutomaton"), accessFlags := 18, slot := 0, constantValue := 0 }, { name := "accepting", type := (.object "java/util/BitSet"), accessFlags := 18, slot := 1, constantValue := 0 }, { name := "nodeLength", type := .int, accessFlags := 18, slot := 2, constantValue := 0 }, { name := "namesInUse", type := (.object "java/util/BitSet"), accessFlags := 18, slot := 3, constantValue := 0 }, { name := "states", type := (.object "java/util/BitSet"), accessFlags := 18, slot := 4, constantValue := 0 }, { name := "pool", type := (.array (.object "com/example/odeta/odeta/SafraTree$Node")), accessFlags := 2, slot := 5, constantValue := 0 }, { name := "size", type := .int, accessFlags := 2, slot := 6, constantValue := 0 }, { name := "root", type := (.object "com/example/odeta/odeta/SafraTree$Node"), accessFlags := 2, slot := 7, constantValue := 0 }]
  methods := #[k2m0]
  instanceTypes := #[(.object "com/example/odeta/odeta/BuchiAutomaton"), (.object "java/util/BitSet"), .int, (.object "java/util/BitSet"), (.object "java/util/BitSet"), (.array (.object "com/example/odeta/odeta/SafraTree$Node")), .int, (.object "com/example/odeta/odeta/SafraTree$Node")]
  staticTypes := #[(.array (.object "com/example/odeta/odeta/SafraStep"))]
  resolved := Array.replicate 266 none
  statics := none }

def pool3 : Array CpInfo := pool [(1, u "java/lang/Cloneable"), (0, .class_ 1), (0, u "java/lang/Object"), (0, .class_ 3)] 3

/-- java/lang/Cloneable -/
def k3 : Class := { plain "java/lang/Cloneable" (some 0) with
  accessFlags := 1537
  interfaces := #[]
  cf := some (fileOf pool3 2 #[] #[] 1537 4 #[] #[])
  fields := #[]
  methods := #[]
  instanceTypes := #[]
  staticTypes := #[]
  resolved := Array.replicate 8 none
  statics := none }

def pool4 : Array CpInfo := pool [(1, u "java/io/Serializable"), (0, .class_ 1), (0, u "java/lang/Object"), (0, .class_ 3)] 3

/-- java/io/Serializable -/
def k4 : Class := { plain "java/io/Serializable" (some 0) with
  accessFlags := 1537
  interfaces := #[]
  cf := some (fileOf pool4 2 #[] #[] 1537 4 #[] #[])
  fields := #[]
  methods := #[]
  instanceTypes := #[]
  staticTypes := #[]
  resolved := Array.replicate 8 none
  statics := none }

/-- the primitive byte -/
def k5 : Class := { plain "byte" none with kind := .primitive 'B', accessFlags := 0x411 }
/-- [B -/
def k6 : Class := { plain "[B" (some 0) with kind := .array 5 .byte, interfaces := #[3, 4], accessFlags := 1041 }

/-- the primitive int -/
def k7 : Class := { plain "int" none with kind := .primitive 'I', accessFlags := 0x411 }
/-- [I -/
def k8 : Class := { plain "[I" (some 0) with kind := .array 7 .int, interfaces := #[3, 4], accessFlags := 1041 }

def heap : Heap := #[]
def classes : Array Class := #[k0, k1, k2, k3, k4, k5, k6, k7, k8]
def interned : List (Array UInt16 × Addr) := []
def slotsUsed : Nat := 0
def theMethod : MethodId := ⟨1, 1⟩
def args0 : Array Value := #[.long 5, .int 7, .int 3]
def aboutOver (below : List Frame) : State where
  vm := { classes := classes, interned := interned.toArray }
  heap := heap
  slotsUsed := slotsUsed
  threads := #[{ frames := .invoking theMethod args0 :: below }]
def below0 : List Frame := [.native { method := ⟨0, 0⟩, args := #[] }]
def about1 : State := aboutOver below0
def p0 : Program := .bare "" "" ""
def e0 : Env := launch0.env 0 0 0
theorem w_frames : about1.frames = Frame.invoking theMethod args0 :: below0 := rfl
set_option maxRecDepth 65536 in
theorem w_args : argsFit about1.vm theMethod args0 = true := by decide +kernel
set_option maxRecDepth 65536 in
theorem w_heap : heapFits about1 = true := by decide +kernel
set_option maxRecDepth 65536 in
theorem w_runnable : about1.curStatus? = some .runnable := by decide +kernel
set_option maxRecDepth 65536 in
theorem w_alone : about1.alone = true := by decide +kernel
set_option maxRecDepth 65536 in
theorem w_named : about1.methodNamed? x = some theMethod := by decide +kernel
set_option maxRecDepth 65536 in
theorem w_hears : about1.hears theMethod below0 = true := by decide +kernel
set_option maxRecDepth 65536 in
theorem w_ripe : about1.ripe theMethod args0 below0 = true := by decide +kernel
theorem w_running : about1.status = .running := rfl
set_option maxRecDepth 65536 in
theorem w_room : about1.hasRoom e0.platform room_1 = true :=
  launch0.hasRoom_least _ room_1 (by decide +kernel) (by decide +kernel) (by decide +kernel) (by decide +kernel) (by decide +kernel) (by decide +kernel)
theorem allAtoms_all (ts : List Jvm.Cond) (a : Array Jvm.Value) (st : Jvm.State) : (allAtoms ts).before a st = ts.all (fun c => c.before a st) := by
  induction ts with
  | nil => rfl
  | cons c t ih =>
    show (Jvm.Cond.and c (allAtoms t)).before a st = _
    rw [Jvm.Cond.before_and, ih, List.all_cons]
def words1 : List Jvm.Cond := Jvm.Cond.code x code maxLocals ret :: tables_1
/-- a 'code' word, met by the world's own term for the bytes: nothing is compared byte by byte -/
theorem code_word {y : MethodName} {bytes : ByteArray} {mx : Nat} {rt : Option FieldType} {a : Array Value} {s : State} {m : MethodId} {meth : Method} {c : Code} (h1 : s.methodNamed? y = some m) (h2 : s.vm.method? m = some meth) (h3 : meth.code = some c) (h4 : c.code = bytes)
    (h5 : (c.maxLocals == mx && c.exceptionTable.isEmpty && decide (c.maxStack ≤ mostOperands) && decide (meth.sig.returnType = rt) && !meth.locks && decide (parseMethodDescriptor y.desc = some meth.sig)) = true) : (Jvm.Cond.code y bytes mx rt).before a s = true := by
  simp only [Bool.and_eq_true, beq_iff_eq, Bool.not_eq_true', decide_eq_true_eq] at h5
  obtain ⟨⟨⟨⟨⟨g1, g2⟩, g3⟩, g4⟩, g5⟩, g6⟩ := h5
  simp [Cond.before, Cond.holds, Cond.value, h1, h2, h3, h4, g1, g2, g3, g4, g5, g6]
def isCode : Jvm.Cond → Bool
  | .code _ _ _ _ => true
  | _ => false
theorem all_split {L : List Jvm.Cond} {P : Jvm.Cond → Bool} (h1 : L.all (fun c => isCode c || P c) = true) (h2 : ∀ c ∈ L.filter isCode, P c = true) : L.all P = true := by
  refine List.all_eq_true.mpr fun c hc => ?_
  have h := List.all_eq_true.mp h1 c hc
  rcases Bool.eq_false_or_eq_true (isCode c) with hi | hi
  · exact h2 c (List.mem_filter.mpr ⟨hc, hi⟩)
  · simpa [hi] using h
set_option maxRecDepth 65536 in
theorem w_c0 : (Jvm.Cond.code x code maxLocals ret).before args0 about1 = true := code_word (m := ⟨1, 1⟩) (meth := k1m1) (c := k1c1) (by decide +kernel) rfl rfl rfl (by decide +kernel)
set_option maxRecDepth 65536 in
theorem w_c1 : (Jvm.Cond.code ({ cls := "com/example/odeta/odeta/SafraTree", name := "marked", desc := "(J)Z" } : Jvm.MethodName) prog_58_method_16_code (2 : Nat) (Option.some Jvm.ClassFile.FieldType.boolean)).before args0 about1 = true := code_word (m := ⟨2, 0⟩) (meth := k2m0) (c := k2c0) (by decide +kernel) rfl rfl rfl (by decide +kernel)
def codes1 : List Jvm.Cond := [Jvm.Cond.code x code maxLocals ret, Jvm.Cond.code ({ cls := "com/example/odeta/odeta/SafraTree", name := "marked", desc := "(J)Z" } : Jvm.MethodName) prog_58_method_16_code (2 : Nat) (Option.some Jvm.ClassFile.FieldType.boolean)]
set_option maxRecDepth 65536 in
theorem codes_eq : words1.filter isCode = codes1 := rfl
theorem w_codes : ∀ c ∈ words1.filter isCode, c.before args0 about1 = true := by
  rw [codes_eq]
  intro c hc
  simp only [codes1, List.mem_cons, List.not_mem_nil, or_false] at hc
  rcases hc with rfl | rfl
  · exact w_c0
  · exact w_c1
set_option maxRecDepth 65536 in
theorem w_t1 : words1.all (fun c => isCode c || c.before args0 about1) = true := by decide +kernel
theorem w_tables : (allAtoms (Jvm.Cond.code x code maxLocals ret :: tables_1)).before args0 about1 = true := by
  rw [allAtoms_all]
  show words1.all (fun c => c.before args0 about1) = true
  refine all_split ?_ w_codes
  rw [w_t1]
set_option maxRecDepth 65536 in
theorem w_case : (Jvm.Cond.and given_1 narrow_1).before args0 about1 = true := by decide +kernel
theorem w_applies : (headSpec (Jvm.Cond.code x code maxLocals ret :: tables_1) room_1).applies x e0.platform about1 = true :=
  (Spec.applies_iff w_frames).mpr ⟨w_running, w_runnable, w_alone, w_named, w_hears, w_ripe, w_room, w_tables⟩
theorem atStart : AtStart classFile x code maxLocals ret World_1 tables_1 room_1 Calls_1 rest_1 Pre_1 launch0 p0 e0 about1 theMethod args0 below0 :=
  ⟨lists_1, trivial, launch0.admits_env _ _ _, launch0.least_env, fairChoices_fair.cas, fairChoices_fair.clock, w_frames, w_args, w_heap, w_applies, trivial, trivial, w_case⟩
end start1
theorem witness_1 : WitnessClaimed_1 := ⟨start1.p0, start1.e0, start1.about1, start1.theMethod, start1.args0, start1.below0, start1.atStart⟩
end Jvm.Pilot.@@N@@
