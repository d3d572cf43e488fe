import JvmDerived
import JvmDerived.Pilot.@@N@@Statement
import JvmDerived.Pilot.@@N@@Code
set_option linter.unusedVariables false
set_option linter.unusedSimpArgs false
namespace Jvm.RoadKit
open Sem ClassFile Op Lib Jvm.Stand Jvm.Free Jvm.LawKit
section New
variable {p : Program} {l : Launch} {e : Env} {R : Room} {s : State} {m : MethodId} {args : Array Value} {below : List Frame} {meth : Method} {c : Code} {T : State} {locs : List Loc} {cells slots : Nat}
theorem retI (X : Stand p l e R s m args below meth c T locs cells slots) (hx : p.tables.exec = Jvm.exec) {pc : Nat} {Ls : Array Slot} {z : Int32} {rest : List Value} (hret : meth.sig.returnType = some .int) (hd : decode c.code pc = .ok (.ireturn, 1)) {fs : List Frame}
    (hl : ∀ (f : JFrame) (acts : List Action), f.method = m → f.locked = none → f.entered = [] → (doReturn e (T.setTop f) acts (some (.int z))).1 = T.setFrames fs) : Steps p.tables e below (T.setTop (mkF m pc Ls (.int z :: rest))) (T.setFrames fs) := by
  have hm' : T.vm.method? m = some meth := X.method'
  have hn : narrow .int (.int z) = .int z := rfl
  show Steps p.tables e below (T.setTop { method := m, pc := pc, locals := Ls, stack := _ :: rest, locked := none }) _
  jvm_step X.here [X.here.top, hx, hd, hm', hret, hn]
  first | (intro acts; rw [hl _ acts rfl rfl rfl]) | rw [hl _ _ rfl rfl rfl]
  exact Steps.refl _
end New
end Jvm.RoadKit
namespace Jvm.Pilot.@@N@@
open Jvm Jvm.ClassFile Sem Op Lib Jvm.Free Jvm.Stand Jvm.LawKit Jvm.RoadKit Bundle Jvm.Pilot.@@N@@.Jvm.D
theorem own_nl (vx r : Int32) (hr : r = ((1 : Int32) + (((((vx &&& (2147483647 : Int32)) % (2147483585 : Int32)) + (64 : Int32)) - (1 : Int32)) / (64 : Int32)))) : ¬ r < (1 : Int32) ∧ ¬ ((64 : Int64) * (r.toInt64 - (1 : Int64))) < ((vx &&& (2147483647 : Int32)) % (2147483585 : Int32)).toInt64 ∧ ((64 : Int64) * ((r.toInt64 - (1 : Int64)) - (1 : Int64))) < ((vx &&& (2147483647 : Int32)) % (2147483585 : Int32)).toInt64 := by
  have a1 := c_mask vx 2147483647 31 (by decide) (by decide)
  have a2 := (c_irem (vx &&& (2147483647 : Int32)) 2147483585 2147483585 (by decide)).1
  simp only [Nat.reducePow] at a1
  have a3 := c_i2l ((vx &&& (2147483647 : Int32)) % (2147483585 : Int32))
  generalize ((vx &&& (2147483647 : Int32)) % (2147483585 : Int32)) = S at *
  have a4 := c_iadd S 64
  have a5 := c_isub (S + 64) 1
  have a6 := (c_idiv (S + 64 - 1) 64 64 (by decide) (by decide)).1
  have a7 := c_iadd 1 ((S + 64 - 1) / 64)
  have e1 : (1 : Int32).toInt = 1 := by decide
  have e64 : (64 : Int32).toInt = 64 := by decide
  have f1 : (1 : Int64).toInt = 1 := by decide
  have f64 : (64 : Int64).toInt = 64 := by decide
  rw [← hr] at a7
  have hS : 0 ≤ S.toInt ∧ S.toInt ≤ 2147483584 := by omega
  have b2 := rng32 (S + 64)
  have b3 := rng32 (S + 64 - 1)
  have h1 : (S + 64 - 1).toInt = S.toInt + 63 := by omega
  have h2 : ((S + 64 - 1) / 64).toInt = (S.toInt + 63) / 64 := by rw [a6 (by omega), h1]
  have b4 := rng32 r
  have h3 : r.toInt = 1 + (S.toInt + 63) / 64 := by omega
  have a8 := c_i2l r
  have a9 := c_lsub r.toInt64 1
  have b5 := rng64 (r.toInt64 - 1)
  have h4 : (r.toInt64 - 1).toInt = (S.toInt + 63) / 64 := by omega
  have a10 := c_lsub (r.toInt64 - 1) 1
  have b6 := rng64 (r.toInt64 - 1 - 1)
  have h5 : (r.toInt64 - 1 - 1).toInt = (S.toInt + 63) / 64 - 1 := by omega
  have a11 := c_lmul 64 (r.toInt64 - 1)
  have a12 := c_lmul 64 (r.toInt64 - 1 - 1)
  have b7 := rng64 (64 * (r.toInt64 - 1))
  have b8 := rng64 (64 * (r.toInt64 - 1 - 1))
  rw [f64, h4] at a11
  rw [f64, h5] at a12
  have h6 : (64 * (r.toInt64 - 1)).toInt = 64 * ((S.toInt + 63) / 64) := by omega
  have h7 : (64 * (r.toInt64 - 1 - 1)).toInt = 64 * ((S.toInt + 63) / 64 - 1) := by omega
  rw [Int32.lt_iff_toInt_lt, Int64.lt_iff_toInt_lt, Int64.lt_iff_toInt_lt, h6, h7, h3, a3, e1]
  refine ⟨?_, ?_, ?_⟩ <;> omega
theorem pn_0 : plainName "com/example/odeta/odeta/SafraTree" = true := by first | (simp [plainName, overriddenIn]; done) | decide +kernel
theorem d_prog_58_method_2_code_0 : decode prog_58_method_2_code 0 = .ok (.iconst 1, 1) := by decide +kernel
theorem d_prog_58_method_2_code_1 : decode prog_58_method_2_code 1 = .ok (.iload_n 0, 1) := by decide +kernel
theorem d_prog_58_method_2_code_2 : decode prog_58_method_2_code 2 = .ok (.bipush 64, 2) := by decide +kernel
theorem d_prog_58_method_2_code_4 : decode prog_58_method_2_code 4 = .ok (.iadd, 1) := by decide +kernel
theorem d_prog_58_method_2_code_5 : decode prog_58_method_2_code 5 = .ok (.iconst 1, 1) := by decide +kernel
theorem d_prog_58_method_2_code_6 : decode prog_58_method_2_code 6 = .ok (.isub, 1) := by decide +kernel
theorem d_prog_58_method_2_code_7 : decode prog_58_method_2_code 7 = .ok (.bipush 64, 2) := by decide +kernel
theorem d_prog_58_method_2_code_9 : decode prog_58_method_2_code 9 = .ok (.idiv, 1) := by decide +kernel
theorem d_prog_58_method_2_code_10 : decode prog_58_method_2_code 10 = .ok (.iadd, 1) := by decide +kernel
theorem d_prog_58_method_2_code_11 : decode prog_58_method_2_code 11 = .ok (.ireturn, 1) := by decide +kernel
theorem ef_nl (m : MethodId) (va : Int32) : entryFrame m #[(.int va)] 1 = mkF m 0 #[.val (.int va)] [] := by first | (simp [entryFrame, mkF, argsToLocals, Value.category]; done) | rfl
def Q_nl (Z : State) (va : Int32) (h0 : Heap) (n0 : Nat) (v : Option Value) (h : Heap) (L : List Loc) : Prop := (∃ z : Int32, v = some (.int z) ∧ (z = ((1 : Int32) + (((va + (64 : Int32)) - (1 : Int32)) / (64 : Int32))))) ∧ Fr n0 L ∧ h = h0
set_option maxRecDepth 65536 in
set_option maxHeartbeats 40000000 in
theorem rm_nl (l : Launch) (Z : State) (a0 : Array Value) (hw : ∀ d ∈ tables_1, d.before a0 Z = true) (ws : List Jvm.Cond) (va : Int32) (h0 : Heap) (n0 : Nat) (Z0 : n0 ≤ h0.size) :
    MetFree l (⟨"com/example/odeta/odeta/SafraTree", "nodeLength", "(I)I"⟩ : MethodName) (head1 (Jvm.Cond.code (⟨"com/example/odeta/odeta/SafraTree", "nodeLength", "(I)I"⟩ : MethodName) prog_58_method_2_code 1 (some .int) :: ws) ({ frames := 0, cells := 0, slots := 0, locals := 0 } : Room)) (fun a U => a = #[(.int va)] ∧ Z.Warmed39 U.vm ∧ U.heap = h0) (fun _ _ _ _ _ => True) (fun _ U o U' => ∃ v L, o = .returned v ∧ Q_nl Z va h0 n0 v U'.heap L ∧ FrameEnd U o U' L ({ frames := 0, cells := 0, slots := 0, locals := 0 } : Room).cells ({ frames := 0, cells := 0, slots := 0, locals := 0 } : Room).slots) := by
  refine MetFree.of_bodySF (plainFor_of_name pn_0) hisR ?_
  intro p e s m args below meth c s₁ Bd hml0 hP hK
  obtain ⟨rfl, hZ, hh⟩ := hP
  have hx := Bd.exec
  have hby := Bd.bytes
  have hml : c.maxLocals = 1 := hml0
  have hown : s.vm.findClass "com/example/odeta/odeta/SafraTree" = some m.cls := findClass_of_methodNamed Bd.named
  have hnm := (name_of_methodNamed Bd.named Bd.method).1
  have X0 : Stand p l e ({ frames := 0, cells := 0, slots := 0, locals := 0 } : Room) s m #[(.int va)] below meth c s₁ [] 0 0 := Stand.of_body Bd
  have e0 : s₁.heap = h0 := by rw [← hh, Bd.state]; rfl
  have N0 := Fr.nil n0
  have pre0 : ∀ t, Steps p.tables e below (s₁.setTop (mkF m 0 #[.val (.int va)] [])) t → Steps p.tables e below (s₁.setTop (entryFrame m #[(.int va)] 1)) t := fun t k => castTop (ef_nl m va) k
  obtain ⟨fs, hr, hrun, hended, hW, hsame⟩ := X0.leave (v := some (.int ((1 : Int32) + (((va + (64 : Int32)) - (1 : Int32)) / (64 : Int32))))) (fun h => by rw [Bd.returns] at h; cases h)
  refine ⟨_, _, pre0 _ ?_, hrun, hended, _, _, rfl, ?_, ⟨_, rfl⟩, hW, hsame.mono (by decide) (by decide)⟩
  · show Steps p.tables e below (s₁.setTop (mkF m 0 #[.val (.int va)] [])) _
    refine XS.iconst X0.here hx rfl (hb hby d_prog_58_method_2_code_0) ?_
    show Steps p.tables e below (s₁.setTop (mkF m 1 #[.val (.int va)] [(.int (1 : Int32))])) _
    refine XS.iloadN X0.here hx rfl (hb hby d_prog_58_method_2_code_1) rfl ?_
    show Steps p.tables e below (s₁.setTop (mkF m 2 #[.val (.int va)] [(.int va), (.int (1 : Int32))])) _
    refine XS.bipush X0.here hx rfl (hb hby d_prog_58_method_2_code_2) ?_
    show Steps p.tables e below (s₁.setTop (mkF m 4 #[.val (.int va)] [(.int (64 : Int32)), (.int va), (.int (1 : Int32))])) _
    refine XS.iadd X0.here hx rfl (hb hby d_prog_58_method_2_code_4) rfl ?_
    show Steps p.tables e below (s₁.setTop (mkF m 5 #[.val (.int va)] [(.int (va + (64 : Int32))), (.int (1 : Int32))])) _
    refine XS.iconst X0.here hx rfl (hb hby d_prog_58_method_2_code_5) ?_
    show Steps p.tables e below (s₁.setTop (mkF m 6 #[.val (.int va)] [(.int (1 : Int32)), (.int (va + (64 : Int32))), (.int (1 : Int32))])) _
    refine XS.isub X0.here hx rfl (hb hby d_prog_58_method_2_code_6) rfl ?_
    show Steps p.tables e below (s₁.setTop (mkF m 7 #[.val (.int va)] [(.int ((va + (64 : Int32)) - (1 : Int32))), (.int (1 : Int32))])) _
    refine XS.bipush X0.here hx rfl (hb hby d_prog_58_method_2_code_7) ?_
    show Steps p.tables e below (s₁.setTop (mkF m 9 #[.val (.int va)] [(.int (64 : Int32)), (.int ((va + (64 : Int32)) - (1 : Int32))), (.int (1 : Int32))])) _
    refine XS.idiv X0.here hx rfl (hb hby d_prog_58_method_2_code_9) rfl (by decide) ?_
    show Steps p.tables e below (s₁.setTop (mkF m 10 #[.val (.int va)] [(.int (((va + (64 : Int32)) - (1 : Int32)) / (64 : Int32))), (.int (1 : Int32))])) _
    refine XS.iadd X0.here hx rfl (hb hby d_prog_58_method_2_code_10) rfl ?_
    show Steps p.tables e below (s₁.setTop (mkF m 11 #[.val (.int va)] [(.int ((1 : Int32) + (((va + (64 : Int32)) - (1 : Int32)) / (64 : Int32))))])) _
    exact retI X0 hx Bd.returns (hb hby d_prog_58_method_2_code_11) hr
  · show Q_nl Z va h0 n0 _ s₁.heap _
    rw [e0]
    exact ⟨⟨_, rfl, rfl⟩, N0, rfl⟩
theorem pn_1 : plainName "com/example/odeta/odeta/SafraTreeNodeLengthPinLaw" = true := by first | (simp [plainName, overriddenIn]; done) | decide +kernel
theorem pd_0 : parseMethodDescriptor "(I)I" = some ⟨[.int], some .int⟩ := by decide +kernel
theorem ef_law (m : MethodId) (vx : Int32) : entryFrame m #[(.int vx)] maxLocals = mkF m 0 #[.val (.int vx), .unset, .unset, .unset, .unset, .unset, .unset, .unset] [] := by first | (simp [entryFrame, mkF, argsToLocals, Value.category, maxLocals]; done) | rfl
def Q_law (Z : State) (vx : Int32) (h0 : Heap) (n0 : Nat) (v : Option Value) (h : Heap) (L : List Loc) : Prop := v = some (.int 1) ∧ Fr n0 L
set_option maxRecDepth 65536 in
set_option maxHeartbeats 40000000 in
theorem rm_law (l : Launch) (Z : State) (a0 : Array Value) (hw : ∀ d ∈ tables_1, d.before a0 Z = true) (ws : List Jvm.Cond) (vx : Int32) (h0 : Heap) (n0 : Nat) (Z0 : n0 ≤ h0.size) :
    MetFree l x (head1 (Jvm.Cond.code x code maxLocals ret :: ws) room_1) (fun a U => a = #[(.int vx)] ∧ Z.Warmed39 U.vm ∧ U.heap = h0) (fun _ _ _ _ _ => True) (fun _ U o U' => ∃ v L, o = .returned v ∧ Q_law Z vx h0 n0 v U'.heap L ∧ FrameEnd U o U' L room_1.cells room_1.slots) := by
  refine MetFree.of_bodySF (plainFor_of_name pn_1) hisR ?_
  intro p e s m args below meth c s₁ Bd hml0 hP hK
  obtain ⟨rfl, hZ, hh⟩ := hP
  have hx := Bd.exec
  have hby := Bd.bytes
  have hml : c.maxLocals = 8 := hml0
  have hown : s.vm.findClass "com/example/odeta/odeta/SafraTreeNodeLengthPinLaw" = some m.cls := findClass_of_methodNamed Bd.named
  have hnm := (name_of_methodNamed Bd.named Bd.method).1
  have X0 : Stand p l e room_1 s m #[(.int vx)] below meth c s₁ [] 0 0 := Stand.of_body Bd
  have e0 : s₁.heap = h0 := by rw [← hh, Bd.state]; rfl
  have N0 := Fr.nil n0
  have pre0 : ∀ t, Steps p.tables e below (s₁.setTop (mkF m 0 #[.val (.int vx), .unset, .unset, .unset, .unset, .unset, .unset, .unset] [])) t → Steps p.tables e below (s₁.setTop (entryFrame m #[(.int vx)] maxLocals)) t := fun t k => castTop (ef_law m vx) k
  obtain ⟨_, _, ⟨T1, L1, k1, n1⟩, -, X1, ⟨Lc1, hQ1, l1, y1, z1⟩, st1⟩ := Jvm.LawKit.callS X0 hx (y := (⟨"com/example/odeta/odeta/SafraTree", "nodeLength", "(I)I"⟩ : MethodName)) hown (mvT hZ (hw _ (List.mem_of_getElem? (i := 2) rfl))) (mvT hZ (hw _ (List.mem_of_getElem? (i := 3) rfl))) (mvT hZ (hw _ (List.mem_of_getElem? (i := 4) rfl))) (mvT hZ (hw _ (List.mem_of_getElem? (i := 5) rfl))) (by decide) (backOf (W := 0) (rm_nl l Z a0 hw [] ((vx &&& (2147483647 : Int32)) % (2147483585 : Int32)) h0 n0 Z0 ) hZ (hw _ (List.mem_of_getElem? (i := 5) rfl)) (hw _ (List.mem_of_getElem? (i := 4) rfl)) (by decide) (by decide)) (g := (mkF m 9 #[.val (.int vx), .val (.int ((vx &&& (2147483647 : Int32)) % (2147483585 : Int32))), .unset, .unset, .unset, .unset, .unset, .unset] [(.int ((vx &&& (2147483647 : Int32)) % (2147483585 : Int32)))])) rfl (by rw [hml]; rfl) (argsL := [(.int ((vx &&& (2147483647 : Int32)) % (2147483585 : Int32)))]) (rest := []) (lenOf pd_0 rfl) rfl (by show 2 * 0 + _ ≤ _; exact Nat.le_of_eq rfl) (hb hby at_9) (fun _ _ => ⟨rfl, e0, (by decide : 0 + 0 ≤ _), (by decide : 0 + 0 ≤ _)⟩)
  dsimp only [Pt.U, Pt.locs, Pt.cells, Pt.slots] at X1 l1 y1 z1 st1 hQ1
  subst l1 y1 z1
  obtain ⟨⟨r1, rfl, hr1⟩, N1q, e1⟩ := hQ1
  have N1 := Fr.app N0 N1q
  obtain ⟨fs, hr, hrun, hended, hW, hsame⟩ := X1.leave (v := some (.int (1 : Int32))) (fun h => by rw [Bd.returns] at h; cases h)
  refine ⟨_, _, pre0 _ ?_, hrun, hended, _, _, rfl, ?_, ⟨_, rfl⟩, hW, hsame.mono (by decide) (by decide)⟩
  · show Steps p.tables e below (s₁.setTop (mkF m 0 #[.val (.int vx), .unset, .unset, .unset, .unset, .unset, .unset, .unset] [])) _
    refine XS.iloadN X0.here hx rfl (hb hby at_0) rfl ?_
    show Steps p.tables e below (s₁.setTop (mkF m 1 #[.val (.int vx), .unset, .unset, .unset, .unset, .unset, .unset, .unset] [(.int vx)])) _
    refine X0.ldcInt hx hown (mvT hZ (hw _ (List.mem_of_getElem? (i := 0) rfl))) (g := (mkF m 1 #[.val (.int vx), .unset, .unset, .unset, .unset, .unset, .unset, .unset] [(.int vx)])) rfl (hb hby at_1) _ ?_
    show Steps p.tables e below (s₁.setTop (mkF m 3 #[.val (.int vx), .unset, .unset, .unset, .unset, .unset, .unset, .unset] [(.int (2147483647 : Int32)), (.int vx)])) _
    refine XS.iand X0.here hx rfl (hb hby at_3) rfl ?_
    show Steps p.tables e below (s₁.setTop (mkF m 4 #[.val (.int vx), .unset, .unset, .unset, .unset, .unset, .unset, .unset] [(.int (vx &&& (2147483647 : Int32)))])) _
    refine X0.ldcInt hx hown (mvT hZ (hw _ (List.mem_of_getElem? (i := 1) rfl))) (g := (mkF m 4 #[.val (.int vx), .unset, .unset, .unset, .unset, .unset, .unset, .unset] [(.int (vx &&& (2147483647 : Int32)))])) rfl (hb hby at_4) _ ?_
    show Steps p.tables e below (s₁.setTop (mkF m 6 #[.val (.int vx), .unset, .unset, .unset, .unset, .unset, .unset, .unset] [(.int (2147483585 : Int32)), (.int (vx &&& (2147483647 : Int32)))])) _
    refine iremM X0 hx rfl (hb hby at_6) rfl (by decide) ?_
    show Steps p.tables e below (s₁.setTop (mkF m 7 #[.val (.int vx), .unset, .unset, .unset, .unset, .unset, .unset, .unset] [(.int ((vx &&& (2147483647 : Int32)) % (2147483585 : Int32)))])) _
    refine XS.istoreN X0.here hx rfl (hb hby at_7) rfl (l' := #[.val (.int vx), .val (.int ((vx &&& (2147483647 : Int32)) % (2147483585 : Int32))), .unset, .unset, .unset, .unset, .unset, .unset]) rfl ?_
    show Steps p.tables e below (s₁.setTop (mkF m 8 #[.val (.int vx), .val (.int ((vx &&& (2147483647 : Int32)) % (2147483585 : Int32))), .unset, .unset, .unset, .unset, .unset, .unset] [])) _
    refine XS.iloadN X0.here hx rfl (hb hby at_8) rfl ?_
    show Steps p.tables e below (s₁.setTop (mkF m 9 #[.val (.int vx), .val (.int ((vx &&& (2147483647 : Int32)) % (2147483585 : Int32))), .unset, .unset, .unset, .unset, .unset, .unset] [(.int ((vx &&& (2147483647 : Int32)) % (2147483585 : Int32)))])) _
    refine st1 _ ?_
    show Steps p.tables e below (T1.setTop (mkF m 12 #[.val (.int vx), .val (.int ((vx &&& (2147483647 : Int32)) % (2147483585 : Int32))), .unset, .unset, .unset, .unset, .unset, .unset] [(.int r1)])) _
    refine XS.istoreN X1.here hx rfl (hb hby at_12) rfl (l' := #[.val (.int vx), .val (.int ((vx &&& (2147483647 : Int32)) % (2147483585 : Int32))), .val (.int r1), .unset, .unset, .unset, .unset, .unset]) rfl ?_
    show Steps p.tables e below (T1.setTop (mkF m 13 #[.val (.int vx), .val (.int ((vx &&& (2147483647 : Int32)) % (2147483585 : Int32))), .val (.int r1), .unset, .unset, .unset, .unset, .unset] [])) _
    refine XS.iloadN X1.here hx rfl (hb hby at_13) rfl ?_
    show Steps p.tables e below (T1.setTop (mkF m 14 #[.val (.int vx), .val (.int ((vx &&& (2147483647 : Int32)) % (2147483585 : Int32))), .val (.int r1), .unset, .unset, .unset, .unset, .unset] [(.int r1)])) _
    refine XS.i2l X1.here hx rfl (hb hby at_14) rfl ?_
    show Steps p.tables e below (T1.setTop (mkF m 15 #[.val (.int vx), .val (.int ((vx &&& (2147483647 : Int32)) % (2147483585 : Int32))), .val (.int r1), .unset, .unset, .unset, .unset, .unset] [(.long (r1.toInt64))])) _
    refine XS.lconst X1.here hx rfl (hb hby at_15) ?_
    show Steps p.tables e below (T1.setTop (mkF m 16 #[.val (.int vx), .val (.int ((vx &&& (2147483647 : Int32)) % (2147483585 : Int32))), .val (.int r1), .unset, .unset, .unset, .unset, .unset] [(.long (1 : Int64)), (.long (r1.toInt64))])) _
    refine XS.lsub X1.here hx rfl (hb hby at_16) rfl ?_
    show Steps p.tables e below (T1.setTop (mkF m 17 #[.val (.int vx), .val (.int ((vx &&& (2147483647 : Int32)) % (2147483585 : Int32))), .val (.int r1), .unset, .unset, .unset, .unset, .unset] [(.long ((r1.toInt64) - (1 : Int64)))])) _
    refine XS.lstoreN X1.here hx rfl (hb hby at_17) rfl (l' := #[.val (.int vx), .val (.int ((vx &&& (2147483647 : Int32)) % (2147483585 : Int32))), .val (.int r1), .val (.long ((r1.toInt64) - (1 : Int64))), .second, .unset, .unset, .unset]) rfl ?_
    show Steps p.tables e below (T1.setTop (mkF m 18 #[.val (.int vx), .val (.int ((vx &&& (2147483647 : Int32)) % (2147483585 : Int32))), .val (.int r1), .val (.long ((r1.toInt64) - (1 : Int64))), .second, .unset, .unset, .unset] [])) _
    refine XS.iloadN X1.here hx rfl (hb hby at_18) rfl ?_
    show Steps p.tables e below (T1.setTop (mkF m 19 #[.val (.int vx), .val (.int ((vx &&& (2147483647 : Int32)) % (2147483585 : Int32))), .val (.int r1), .val (.long ((r1.toInt64) - (1 : Int64))), .second, .unset, .unset, .unset] [(.int r1)])) _
    refine XS.iconst X1.here hx rfl (hb hby at_19) ?_
    show Steps p.tables e below (T1.setTop (mkF m 20 #[.val (.int vx), .val (.int ((vx &&& (2147483647 : Int32)) % (2147483585 : Int32))), .val (.int r1), .val (.long ((r1.toInt64) - (1 : Int64))), .second, .unset, .unset, .unset] [(.int (1 : Int32)), (.int r1)])) _
    refine XS.icmpNo X1.here hx rfl (hb hby at_20) rfl (flt ((own_nl vx r1 hr1).1 : ¬ (r1 < (1 : Int32)))).1 ?_
    show Steps p.tables e below (T1.setTop (mkF m 23 #[.val (.int vx), .val (.int ((vx &&& (2147483647 : Int32)) % (2147483585 : Int32))), .val (.int r1), .val (.long ((r1.toInt64) - (1 : Int64))), .second, .unset, .unset, .unset] [])) _
    refine XS.iconst X1.here hx rfl (hb hby at_23) ?_
    show Steps p.tables e below (T1.setTop (mkF m 24 #[.val (.int vx), .val (.int ((vx &&& (2147483647 : Int32)) % (2147483585 : Int32))), .val (.int r1), .val (.long ((r1.toInt64) - (1 : Int64))), .second, .unset, .unset, .unset] [(.int (1 : Int32))])) _
    refine XS.goto X1.here hx rfl (pc0 := 24) (pc' := 28) rfl (hb hby at_24) (by decide) (by decide) ?_
    show Steps p.tables e below (T1.setTop (mkF m 28 #[.val (.int vx), .val (.int ((vx &&& (2147483647 : Int32)) % (2147483585 : Int32))), .val (.int r1), .val (.long ((r1.toInt64) - (1 : Int64))), .second, .unset, .unset, .unset] [(.int (1 : Int32))])) _
    refine XS.istore X1.here hx rfl (hb hby at_28) rfl (l' := #[.val (.int vx), .val (.int ((vx &&& (2147483647 : Int32)) % (2147483585 : Int32))), .val (.int r1), .val (.long ((r1.toInt64) - (1 : Int64))), .second, .val (.int (1 : Int32)), .unset, .unset]) rfl ?_
    show Steps p.tables e below (T1.setTop (mkF m 30 #[.val (.int vx), .val (.int ((vx &&& (2147483647 : Int32)) % (2147483585 : Int32))), .val (.int r1), .val (.long ((r1.toInt64) - (1 : Int64))), .second, .val (.int (1 : Int32)), .unset, .unset] [])) _
    refine X1.ldc2Long hx hown (mvT hZ (hw _ (List.mem_of_getElem? (i := 6) rfl))) (g := (mkF m 30 #[.val (.int vx), .val (.int ((vx &&& (2147483647 : Int32)) % (2147483585 : Int32))), .val (.int r1), .val (.long ((r1.toInt64) - (1 : Int64))), .second, .val (.int (1 : Int32)), .unset, .unset] [])) rfl (hb hby at_30) _ ?_
    show Steps p.tables e below (T1.setTop (mkF m 33 #[.val (.int vx), .val (.int ((vx &&& (2147483647 : Int32)) % (2147483585 : Int32))), .val (.int r1), .val (.long ((r1.toInt64) - (1 : Int64))), .second, .val (.int (1 : Int32)), .unset, .unset] [(.long (64 : Int64))])) _
    refine XS.lloadN X1.here hx rfl (hb hby at_33) rfl ?_
    show Steps p.tables e below (T1.setTop (mkF m 34 #[.val (.int vx), .val (.int ((vx &&& (2147483647 : Int32)) % (2147483585 : Int32))), .val (.int r1), .val (.long ((r1.toInt64) - (1 : Int64))), .second, .val (.int (1 : Int32)), .unset, .unset] [(.long ((r1.toInt64) - (1 : Int64))), (.long (64 : Int64))])) _
    refine XS.lmul X1.here hx rfl (hb hby at_34) rfl ?_
    show Steps p.tables e below (T1.setTop (mkF m 35 #[.val (.int vx), .val (.int ((vx &&& (2147483647 : Int32)) % (2147483585 : Int32))), .val (.int r1), .val (.long ((r1.toInt64) - (1 : Int64))), .second, .val (.int (1 : Int32)), .unset, .unset] [(.long ((64 : Int64) * ((r1.toInt64) - (1 : Int64))))])) _
    refine XS.iloadN X1.here hx rfl (hb hby at_35) rfl ?_
    show Steps p.tables e below (T1.setTop (mkF m 36 #[.val (.int vx), .val (.int ((vx &&& (2147483647 : Int32)) % (2147483585 : Int32))), .val (.int r1), .val (.long ((r1.toInt64) - (1 : Int64))), .second, .val (.int (1 : Int32)), .unset, .unset] [(.int ((vx &&& (2147483647 : Int32)) % (2147483585 : Int32))), (.long ((64 : Int64) * ((r1.toInt64) - (1 : Int64))))])) _
    refine XS.i2l X1.here hx rfl (hb hby at_36) rfl ?_
    show Steps p.tables e below (T1.setTop (mkF m 37 #[.val (.int vx), .val (.int ((vx &&& (2147483647 : Int32)) % (2147483585 : Int32))), .val (.int r1), .val (.long ((r1.toInt64) - (1 : Int64))), .second, .val (.int (1 : Int32)), .unset, .unset] [(.long (((vx &&& (2147483647 : Int32)) % (2147483585 : Int32)).toInt64)), (.long ((64 : Int64) * ((r1.toInt64) - (1 : Int64))))])) _
    refine XS.lcmp X1.here hx rfl (hb hby at_37) rfl ?_
    show Steps p.tables e below (T1.setTop (mkF m 38 #[.val (.int vx), .val (.int ((vx &&& (2147483647 : Int32)) % (2147483585 : Int32))), .val (.int r1), .val (.long ((r1.toInt64) - (1 : Int64))), .second, .val (.int (1 : Int32)), .unset, .unset] [(.int (lcmpW ((64 : Int64) * ((r1.toInt64) - (1 : Int64))) (((vx &&& (2147483647 : Int32)) % (2147483585 : Int32)).toInt64)))])) _
    refine XS.ifNo X1.here hx rfl (hb hby at_38) rfl ((if0 _ _).trans (flt (fun q => ((own_nl vx r1 hr1).2.1 : ¬ (((64 : Int64) * ((r1.toInt64) - (1 : Int64))) < (((vx &&& (2147483647 : Int32)) % (2147483585 : Int32)).toInt64))) ((lw_lt _ _).mp q))).1) ?_
    show Steps p.tables e below (T1.setTop (mkF m 41 #[.val (.int vx), .val (.int ((vx &&& (2147483647 : Int32)) % (2147483585 : Int32))), .val (.int r1), .val (.long ((r1.toInt64) - (1 : Int64))), .second, .val (.int (1 : Int32)), .unset, .unset] [])) _
    refine XS.iconst X1.here hx rfl (hb hby at_41) ?_
    show Steps p.tables e below (T1.setTop (mkF m 42 #[.val (.int vx), .val (.int ((vx &&& (2147483647 : Int32)) % (2147483585 : Int32))), .val (.int r1), .val (.long ((r1.toInt64) - (1 : Int64))), .second, .val (.int (1 : Int32)), .unset, .unset] [(.int (1 : Int32))])) _
    refine XS.goto X1.here hx rfl (pc0 := 42) (pc' := 46) rfl (hb hby at_42) (by decide) (by decide) ?_
    show Steps p.tables e below (T1.setTop (mkF m 46 #[.val (.int vx), .val (.int ((vx &&& (2147483647 : Int32)) % (2147483585 : Int32))), .val (.int r1), .val (.long ((r1.toInt64) - (1 : Int64))), .second, .val (.int (1 : Int32)), .unset, .unset] [(.int (1 : Int32))])) _
    refine XS.istore X1.here hx rfl (hb hby at_46) rfl (l' := #[.val (.int vx), .val (.int ((vx &&& (2147483647 : Int32)) % (2147483585 : Int32))), .val (.int r1), .val (.long ((r1.toInt64) - (1 : Int64))), .second, .val (.int (1 : Int32)), .val (.int (1 : Int32)), .unset]) rfl ?_
    show Steps p.tables e below (T1.setTop (mkF m 48 #[.val (.int vx), .val (.int ((vx &&& (2147483647 : Int32)) % (2147483585 : Int32))), .val (.int r1), .val (.long ((r1.toInt64) - (1 : Int64))), .second, .val (.int (1 : Int32)), .val (.int (1 : Int32)), .unset] [])) _
    refine X1.ldc2Long hx hown (mvT hZ (hw _ (List.mem_of_getElem? (i := 6) rfl))) (g := (mkF m 48 #[.val (.int vx), .val (.int ((vx &&& (2147483647 : Int32)) % (2147483585 : Int32))), .val (.int r1), .val (.long ((r1.toInt64) - (1 : Int64))), .second, .val (.int (1 : Int32)), .val (.int (1 : Int32)), .unset] [])) rfl (hb hby at_48) _ ?_
    show Steps p.tables e below (T1.setTop (mkF m 51 #[.val (.int vx), .val (.int ((vx &&& (2147483647 : Int32)) % (2147483585 : Int32))), .val (.int r1), .val (.long ((r1.toInt64) - (1 : Int64))), .second, .val (.int (1 : Int32)), .val (.int (1 : Int32)), .unset] [(.long (64 : Int64))])) _
    refine XS.lloadN X1.here hx rfl (hb hby at_51) rfl ?_
    show Steps p.tables e below (T1.setTop (mkF m 52 #[.val (.int vx), .val (.int ((vx &&& (2147483647 : Int32)) % (2147483585 : Int32))), .val (.int r1), .val (.long ((r1.toInt64) - (1 : Int64))), .second, .val (.int (1 : Int32)), .val (.int (1 : Int32)), .unset] [(.long ((r1.toInt64) - (1 : Int64))), (.long (64 : Int64))])) _
    refine XS.lconst X1.here hx rfl (hb hby at_52) ?_
    show Steps p.tables e below (T1.setTop (mkF m 53 #[.val (.int vx), .val (.int ((vx &&& (2147483647 : Int32)) % (2147483585 : Int32))), .val (.int r1), .val (.long ((r1.toInt64) - (1 : Int64))), .second, .val (.int (1 : Int32)), .val (.int (1 : Int32)), .unset] [(.long (1 : Int64)), (.long ((r1.toInt64) - (1 : Int64))), (.long (64 : Int64))])) _
    refine XS.lsub X1.here hx rfl (hb hby at_53) rfl ?_
    show Steps p.tables e below (T1.setTop (mkF m 54 #[.val (.int vx), .val (.int ((vx &&& (2147483647 : Int32)) % (2147483585 : Int32))), .val (.int r1), .val (.long ((r1.toInt64) - (1 : Int64))), .second, .val (.int (1 : Int32)), .val (.int (1 : Int32)), .unset] [(.long (((r1.toInt64) - (1 : Int64)) - (1 : Int64))), (.long (64 : Int64))])) _
    refine XS.lmul X1.here hx rfl (hb hby at_54) rfl ?_
    show Steps p.tables e below (T1.setTop (mkF m 55 #[.val (.int vx), .val (.int ((vx &&& (2147483647 : Int32)) % (2147483585 : Int32))), .val (.int r1), .val (.long ((r1.toInt64) - (1 : Int64))), .second, .val (.int (1 : Int32)), .val (.int (1 : Int32)), .unset] [(.long ((64 : Int64) * (((r1.toInt64) - (1 : Int64)) - (1 : Int64))))])) _
    refine XS.iloadN X1.here hx rfl (hb hby at_55) rfl ?_
    show Steps p.tables e below (T1.setTop (mkF m 56 #[.val (.int vx), .val (.int ((vx &&& (2147483647 : Int32)) % (2147483585 : Int32))), .val (.int r1), .val (.long ((r1.toInt64) - (1 : Int64))), .second, .val (.int (1 : Int32)), .val (.int (1 : Int32)), .unset] [(.int ((vx &&& (2147483647 : Int32)) % (2147483585 : Int32))), (.long ((64 : Int64) * (((r1.toInt64) - (1 : Int64)) - (1 : Int64))))])) _
    refine XS.i2l X1.here hx rfl (hb hby at_56) rfl ?_
    show Steps p.tables e below (T1.setTop (mkF m 57 #[.val (.int vx), .val (.int ((vx &&& (2147483647 : Int32)) % (2147483585 : Int32))), .val (.int r1), .val (.long ((r1.toInt64) - (1 : Int64))), .second, .val (.int (1 : Int32)), .val (.int (1 : Int32)), .unset] [(.long (((vx &&& (2147483647 : Int32)) % (2147483585 : Int32)).toInt64)), (.long ((64 : Int64) * (((r1.toInt64) - (1 : Int64)) - (1 : Int64))))])) _
    refine XS.lcmp X1.here hx rfl (hb hby at_57) rfl ?_
    show Steps p.tables e below (T1.setTop (mkF m 58 #[.val (.int vx), .val (.int ((vx &&& (2147483647 : Int32)) % (2147483585 : Int32))), .val (.int r1), .val (.long ((r1.toInt64) - (1 : Int64))), .second, .val (.int (1 : Int32)), .val (.int (1 : Int32)), .unset] [(.int (lcmpW ((64 : Int64) * (((r1.toInt64) - (1 : Int64)) - (1 : Int64))) (((vx &&& (2147483647 : Int32)) % (2147483585 : Int32)).toInt64)))])) _
    refine XS.ifNo X1.here hx rfl (hb hby at_58) rfl ((if0 _ _).trans (tlt ((lw_lt _ _).mpr ((own_nl vx r1 hr1).2.2 : ((64 : Int64) * (((r1.toInt64) - (1 : Int64)) - (1 : Int64))) < (((vx &&& (2147483647 : Int32)) % (2147483585 : Int32)).toInt64)))).2.1) ?_
    show Steps p.tables e below (T1.setTop (mkF m 61 #[.val (.int vx), .val (.int ((vx &&& (2147483647 : Int32)) % (2147483585 : Int32))), .val (.int r1), .val (.long ((r1.toInt64) - (1 : Int64))), .second, .val (.int (1 : Int32)), .val (.int (1 : Int32)), .unset] [])) _
    refine XS.iconst X1.here hx rfl (hb hby at_61) ?_
    show Steps p.tables e below (T1.setTop (mkF m 62 #[.val (.int vx), .val (.int ((vx &&& (2147483647 : Int32)) % (2147483585 : Int32))), .val (.int r1), .val (.long ((r1.toInt64) - (1 : Int64))), .second, .val (.int (1 : Int32)), .val (.int (1 : Int32)), .unset] [(.int (1 : Int32))])) _
    refine XS.goto X1.here hx rfl (pc0 := 62) (pc' := 66) rfl (hb hby at_62) (by decide) (by decide) ?_
    show Steps p.tables e below (T1.setTop (mkF m 66 #[.val (.int vx), .val (.int ((vx &&& (2147483647 : Int32)) % (2147483585 : Int32))), .val (.int r1), .val (.long ((r1.toInt64) - (1 : Int64))), .second, .val (.int (1 : Int32)), .val (.int (1 : Int32)), .unset] [(.int (1 : Int32))])) _
    refine XS.istore X1.here hx rfl (hb hby at_66) rfl (l' := #[.val (.int vx), .val (.int ((vx &&& (2147483647 : Int32)) % (2147483585 : Int32))), .val (.int r1), .val (.long ((r1.toInt64) - (1 : Int64))), .second, .val (.int (1 : Int32)), .val (.int (1 : Int32)), .val (.int (1 : Int32))]) rfl ?_
    show Steps p.tables e below (T1.setTop (mkF m 68 #[.val (.int vx), .val (.int ((vx &&& (2147483647 : Int32)) % (2147483585 : Int32))), .val (.int r1), .val (.long ((r1.toInt64) - (1 : Int64))), .second, .val (.int (1 : Int32)), .val (.int (1 : Int32)), .val (.int (1 : Int32))] [])) _
    refine XS.iload X1.here hx rfl (hb hby at_68) rfl ?_
    show Steps p.tables e below (T1.setTop (mkF m 70 #[.val (.int vx), .val (.int ((vx &&& (2147483647 : Int32)) % (2147483585 : Int32))), .val (.int r1), .val (.long ((r1.toInt64) - (1 : Int64))), .second, .val (.int (1 : Int32)), .val (.int (1 : Int32)), .val (.int (1 : Int32))] [(.int (1 : Int32))])) _
    refine XS.ifNo X1.here hx rfl (hb hby at_70) rfl ((if0 _ _).trans (feq (by decide : ¬ ((1 : Int32) = (0 : Int32)))).1) ?_
    show Steps p.tables e below (T1.setTop (mkF m 73 #[.val (.int vx), .val (.int ((vx &&& (2147483647 : Int32)) % (2147483585 : Int32))), .val (.int r1), .val (.long ((r1.toInt64) - (1 : Int64))), .second, .val (.int (1 : Int32)), .val (.int (1 : Int32)), .val (.int (1 : Int32))] [])) _
    refine XS.iload X1.here hx rfl (hb hby at_73) rfl ?_
    show Steps p.tables e below (T1.setTop (mkF m 75 #[.val (.int vx), .val (.int ((vx &&& (2147483647 : Int32)) % (2147483585 : Int32))), .val (.int r1), .val (.long ((r1.toInt64) - (1 : Int64))), .second, .val (.int (1 : Int32)), .val (.int (1 : Int32)), .val (.int (1 : Int32))] [(.int (1 : Int32))])) _
    refine XS.ifNo X1.here hx rfl (hb hby at_75) rfl ((if0 _ _).trans (feq (by decide : ¬ ((1 : Int32) = (0 : Int32)))).1) ?_
    show Steps p.tables e below (T1.setTop (mkF m 78 #[.val (.int vx), .val (.int ((vx &&& (2147483647 : Int32)) % (2147483585 : Int32))), .val (.int r1), .val (.long ((r1.toInt64) - (1 : Int64))), .second, .val (.int (1 : Int32)), .val (.int (1 : Int32)), .val (.int (1 : Int32))] [])) _
    refine XS.iload X1.here hx rfl (hb hby at_78) rfl ?_
    show Steps p.tables e below (T1.setTop (mkF m 80 #[.val (.int vx), .val (.int ((vx &&& (2147483647 : Int32)) % (2147483585 : Int32))), .val (.int r1), .val (.long ((r1.toInt64) - (1 : Int64))), .second, .val (.int (1 : Int32)), .val (.int (1 : Int32)), .val (.int (1 : Int32))] [(.int (1 : Int32))])) _
    refine XS.ifNo X1.here hx rfl (hb hby at_80) rfl ((if0 _ _).trans (feq (by decide : ¬ ((1 : Int32) = (0 : Int32)))).1) ?_
    show Steps p.tables e below (T1.setTop (mkF m 83 #[.val (.int vx), .val (.int ((vx &&& (2147483647 : Int32)) % (2147483585 : Int32))), .val (.int r1), .val (.long ((r1.toInt64) - (1 : Int64))), .second, .val (.int (1 : Int32)), .val (.int (1 : Int32)), .val (.int (1 : Int32))] [])) _
    refine XS.iconst X1.here hx rfl (hb hby at_83) ?_
    show Steps p.tables e below (T1.setTop (mkF m 84 #[.val (.int vx), .val (.int ((vx &&& (2147483647 : Int32)) % (2147483585 : Int32))), .val (.int r1), .val (.long ((r1.toInt64) - (1 : Int64))), .second, .val (.int (1 : Int32)), .val (.int (1 : Int32)), .val (.int (1 : Int32))] [(.int (1 : Int32))])) _
    refine XS.goto X1.here hx rfl (pc0 := 84) (pc' := 88) rfl (hb hby at_84) (by decide) (by decide) ?_
    show Steps p.tables e below (T1.setTop (mkF m 88 #[.val (.int vx), .val (.int ((vx &&& (2147483647 : Int32)) % (2147483585 : Int32))), .val (.int r1), .val (.long ((r1.toInt64) - (1 : Int64))), .second, .val (.int (1 : Int32)), .val (.int (1 : Int32)), .val (.int (1 : Int32))] [(.int (1 : Int32))])) _
    exact retN X1 hx (t := .boolean) Bd.returns (by simp) (hb hby at_88) hr
  · show Q_law Z vx h0 n0 _ T1.heap _
    rw [e1]
    exact ⟨rfl, N1⟩
set_option maxRecDepth 65536 in
set_option maxHeartbeats 40000000 in
theorem comes_1 {Post : Tables → Env → Array Value → State → Outcome → State → Prop} (hpost : ∀ tb e args s v u, (limb_1_1.after args s (.returned v) u = true ∧ limb_1_2.after args s (.returned v) u = true ∧ True) → FrameEnd s (.returned v) u (Jvm.fieldLocs frame_1_writes args s ++ Jvm.arrayLocs frame_1_arrays args s ++ Jvm.staticLocs frame_1_statics s) 0 0 → Post tb e args s (.returned v) u) :
    ArmFor flags0 classFile x code maxLocals ret World_1 tables_1 room_1 Calls_1 rest_1 Pre_1 Post := by
  intro l hfl _ _ p e ha hc hk s m args below hf hA hF happ hP
  obtain ⟨hcalls, hrest, hpre⟩ := hP
  obtain ⟨-, -, -, hnamed, -, -, -, hat⟩ := (Spec.applies_iff hf).mp happ
  obtain ⟨hg, hn⟩ := and_e (Cond.before_iff.mp (show (Jvm.Cond.and given_1 narrow_1).before args s = true from hpre))
  obtain ⟨hg0, hr0⟩ := and_e hg
  obtain ⟨w0, rfl⟩ : ∃ w0 : Value, args = #[w0] := by
    have hs : args.size = 1 := by simpa [Cond.value, given_1] using hg0
    obtain ⟨L⟩ := args
    match L, hs with
    | [w0], _ => exact ⟨w0, rfl⟩
  have hw := fun d (hd : d ∈ tables_1) => atoms_spec (ws := Jvm.Cond.code x code maxLocals ret :: tables_1) hat d (List.mem_cons_of_mem _ hd)
  obtain ⟨i0, ei0⟩ := is_v hr0
  obtain rfl : w0 = (.int i0) := Option.some.inj ei0
  obtain ⟨n, o, h1, h2, h3, _, L, rfl, ⟨rfl, N⟩, hq⟩ := rm_law l s _ hw tables_1 i0 s.heap s.heap.size (Nat.le_refl _)  p e ha hc hk s m _ below hf ((Spec.applies_iff_loose hf).mp happ).1 ⟨rfl, State.Warmed39.refl s, rfl⟩ trivial
  refine ⟨n, _, h1, h2, h3, hpost _ _ _ _ _ _ ⟨Cond.after_iff.mpr rfl, Cond.after_iff.mpr (eq_i res_at (Term.int_eval (1)) rfl), trivial⟩ ⟨hq.1, hq.2.1, (hq.2.2.sift fun y hy => Or.inr (N y hy)).mono (by decide) (by decide)⟩⟩
theorem main_1_1 : Claimed_1_1 := comes_1 fun _ _ _ _ _ _ h hF => ⟨h.1, hF⟩
theorem main_1_2 : Claimed_1_2 := comes_1 fun _ _ _ _ _ _ h hF => ⟨h.2.1, hF⟩
end Jvm.Pilot.@@N@@
namespace Jvm.Pilot.@@N@@
open Jvm Jvm.ClassFile Sem Op Lib Jvm.Free Jvm.Stand Jvm.Pilot.@@N@@.Jvm.D
/-! MADE BY PROGRAM (witnessworld.py) out of the Statement's table words and the real class files: 9 classes; the members and pool entries that the words name. The judged class is class 1, her method 1. -/
namespace start1
open Jvm.ClassFile
def u (s : String) : CpInfo := .utf8 (stringToUtf16 s)
/-- a pool by its gaps: so many unusable entries, then the entry; so many at the end -/
def gap : Nat → List CpInfo → List CpInfo
  | 0, r => r
  | n + 1, r => .unusable :: gap n r
def poolList (es : List (Nat × CpInfo)) (last : Nat) : List CpInfo := es.foldr (fun e r => gap e.1 (e.2 :: r)) (gap last [])
def pool (es : List (Nat × CpInfo)) (last : Nat) : Array CpInfo := ⟨poolList es last⟩
def fileOf (pool : Array CpInfo) (this : Nat) (attrs : Array Attribute := #[]) (ms : Array MethodInfo := #[]) (fl : Nat := 33) (sup : Nat := 0) (ifs : Array Nat := #[]) (fds : Array FieldInfo := #[]) : ClassFile where
  minorVersion := 0
  majorVersion := 65
  constantPool := pool
  accessFlags := fl
  thisClass := this
  superClass := sup
  interfaces := ifs
  fields := fds
  methods := ms
  attributes := attrs
def plain (name : String) (sup : Option ClassId) : Class where
  name := name
  kind := .ordinary
  loader := none
  accessFlags := 33
  super := sup
  interfaces := #[]
  cf := none
  fields := #[]
  methods := #[]
  instanceTypes := #[]
  staticTypes := #[]
  resolved := #[]
  callSites := []
  init := .initialized
  statics := none
  mirror := none

def pool0 : Array CpInfo := pool [(5, u "<init>"), (0, u "()V"), (1, .class_ 10), (1, u "java/lang/Object")] 113

def k0m0 : Method := { name := "<init>", desc := "()V", sig := { parameters := [], returnType := none }, accessFlags := 1, code := none }
/-- java/lang/Object -/
def k0 : Class := { plain "java/lang/Object" none with
  accessFlags := 33
  interfaces := #[]
  cf := some (fileOf pool0 8 #[] #[{ accessFlags := 1, nameIndex := 5, descriptorIndex := 6, attributes := #[] }] 33 0 #[] #[])
  fields := #[]
  methods := #[k0m0]
  instanceTypes := #[]
  staticTypes := #[]
  resolved := Array.replicate 124 none
  statics := none }

def pool1 : Array CpInfo := pool [(2, .class_ 4), (1, u "java/lang/Object"), (0, u "<init>"), (0, u "()V"), (0, .integer 2147483647), (2, .integer 2147483585), (0, .methodref 12 13), (0, .class_ 14), (0, .nameAndType 15 16), (0, u "com/example/odeta/odeta/SafraTree"), (0, u "nodeLength"), (0, u "(I)I"), (0, .long 64), (1, .class_ 20), (0, u "com/example/odeta/odeta/SafraTreeNodeLengthPinLaw"), (2, u "law"), (0, u "(I)Z")] 3

def k1m0 : Method := { name := "<init>", desc := "()V", sig := { parameters := [], returnType := none }, accessFlags := 2, code := none }
def k1c1 : Code := { maxStack := 6, maxLocals := 8, code := code, exceptionTable := #[], attributes := #[] }
def k1m1 : Method := { name := "law", desc := "(I)Z", sig := { parameters := [.int], returnType := some .boolean }, accessFlags := 9, code := some k1c1 }
/-- com/example/odeta/odeta/SafraTreeNodeLengthPinLaw -/
def k1 : Class := { plain "com/example/odeta/odeta/SafraTreeNodeLengthPinLaw" (some 0) with
  accessFlags := 49
  interfaces := #[]
  cf := some (fileOf pool1 19 #[] #[{ accessFlags := 2, nameIndex := 5, descriptorIndex := 6, attributes := #[] }, { accessFlags := 9, nameIndex := 23, descriptorIndex := 24, attributes := #[] }] 49 2 #[] #[])
  fields := #[]
  methods := #[k1m0, k1m1]
  instanceTypes := #[]
  staticTypes := #[]
  resolved := Array.replicate 28 none
  statics := none }

def pool2 : Array CpInfo := pool [(2, .class_ 4), (1, u "java/lang/Object"), (6, .class_ 13), (1, u "com/example/odeta/odeta/SafraTree"), (0, u "namesInUse"), (0, u "Ljava/util/BitSet;"), (2, u "states"), (0, .class_ 20), (0, u "com/example/odeta/odeta/SafraTree$Node"), (2, u "pool"), (0, u "[Lcom/example/odeta/odeta/SafraTree$Node;"), (2, u "automaton"), (0, u "Lcom/example/odeta/odeta/BuchiAutomaton;"), (8, u "accepting"), (8, u "size"), (3, u "nodeLength"), (0, u "(I)I"), (2, u "I"), (25, u "root"), (0, u "Lcom/example/odeta/odeta/SafraTree$Node;"), (16, u "STEPS"), (0, u "[Lcom/example/odeta/odeta/SafraStep;"), (5, .class_ 107), (1, u "com/example/odeta/odeta/SafraTree$1")] 158

def k2c0 : Code := { maxStack := 3, maxLocals := 1, code := prog_58_method_2_code, exceptionTable := #[], attributes := #[] }
def k2m0 : Method := { name := "nodeLength", desc := "(I)I", sig := { parameters := [.int], returnType := some .int }, accessFlags := 8, code := some k2c0 }
/-- com/example/odeta/odeta/SafraTree -/
def k2 : Class := { plain "com/example/odeta/odeta/SafraTree" (some 0) with
  accessFlags := 48
  interfaces := #[]
  cf := some (fileOf pool2 11 #[.nestMembers #[105, 19]] #[{ accessFlags := 8, nameIndex := 50, descriptorIndex := 51, attributes := #[] }] 48 2 #[] #[{ accessFlags := 26, nameIndex := 98, descriptorIndex := 99, attributes := #[] }, { accessFlags := 18, nameIndex := 27, descriptorIndex := 28, attributes := #[] }, { accessFlags := 18, nameIndex := 37, descriptorIndex := 15, attributes := #[] }, { accessFlags := 18, nameIndex := 50, descriptorIndex := 54, attributes := #[] }, { accessFlags := 18, nameIndex := 14, descriptorIndex := 15, attributes := #[] }, { accessFlags := 18, nameIndex := 18, descriptorIndex := 15, attributes := #[] }, { accessFlags := 2, nameIndex := 23, descriptorIndex := 24, attributes := #[] }, { accessFlags := 2, nameIndex := 46, descriptorIndex := 54, attributes := #[] }, { accessFlags := 2, nameIndex := 80, descriptorIndex := 81, attributes := #[] }])
  fields := #[{ name := "STEPS", type := (.array (.object "com/example/odeta/odeta/SafraStep")), accessFlags := 26, slot := 0, constantValue := 0 }, { name := "automaton", type := (.object "com/example/odeta/odeta/BuchiAutomaton"), accessFlags := 18, slot := 0, constantValue := 0 }, { name := "accepting", type := (.object "java/util/BitSet"), accessFlags := 18, slot := 1, constantValue := 0 }, { name := "nodeLength", type := .int, accessFlags := 18, slot := 2, constantValue := 0 }, { name := "namesInUse", type := (.object "java/util/BitSet"), accessFlags := 18, slot := 3, constantValue := 0 }, { name := "states", type := (.object "java/util/BitSet"), accessFlags := 18, slot := 4, constantValue := 0 }, { name := "pool", type := (.array (.object "com/example/odeta/odeta/SafraTree$Node")), accessFlags := 2, slot := 5, constantValue := 0 }, { name := "size", type := .int, accessFlags := 2, slot := 6, constantValue := 0 }, { name := "root", type := (.object "com/example/odeta/odeta/SafraTree$Node"), accessFlags := 2, slot := 7, constantValue := 0 }]
  methods := #[k2m0]
  instanceTypes := #[(.object "com/example/odeta/odeta/BuchiAutomaton"), (.object "java/util/BitSet"), .int, (.object "java/util/BitSet"), (.object "java/util/BitSet"), (.array (.object "com/example/odeta/odeta/SafraTree$Node")), .int, (.object "com/example/odeta/odeta/SafraTree$Node")]
  staticTypes := #[(.array (.object "com/example/odeta/odeta/SafraStep"))]
  resolved := Array.replicate 266 none
  statics := none }

def pool3 : Array CpInfo := pool [(1, u "java/lang/Cloneable"), (0, .class_ 1), (0, u "java/lang/Object"), (0, .class_ 3)] 3

/-- java/lang/Cloneable -/
def k3 : Class := { plain "java/lang/Cloneable" (some 0) with
  accessFlags := 1537
  interfaces := #[]
  cf := some (fileOf pool3 2 #[] #[] 1537 4 #[] #[])
  fields := #[]
  methods := #[]
  instanceTypes := #[]
  staticTypes := #[]
  resolved := Array.replicate 8 none
  statics := none }

def pool4 : Array CpInfo := pool [(1, u "java/io/Serializable"), (0, .class_ 1), (0, u "java/lang/Object"), (0, .class_ 3)] 3

/-- java/io/Serializable -/
def k4 : Class := { plain "java/io/Serializable" (some 0) with
  accessFlags := 1537
  interfaces := #[]
  cf := some (fileOf pool4 2 #[] #[] 1537 4 #[] #[])
  fields := #[]
  methods := #[]
  instanceTypes := #[]
  staticTypes := #[]
  resolved := Array.replicate 8 none
  statics := none }

/-- the primitive byte -/
def k5 : Class := { plain "byte" none with kind := .primitive 'B', accessFlags := 0x411 }
/-- [B -/
def k6 : Class := { plain "[B" (some 0) with kind := .array 5 .byte, interfaces := #[3, 4], accessFlags := 1041 }

/-- the primitive int -/
def k7 : Class := { plain "int" none with kind := .primitive 'I', accessFlags := 0x411 }
/-- [I -/
def k8 : Class := { plain "[I" (some 0) with kind := .array 7 .int, interfaces := #[3, 4], accessFlags := 1041 }

def heap : Heap := #[]
def classes : Array Class := #[k0, k1, k2, k3, k4, k5, k6, k7, k8]
def interned : List (Array UInt16 × Addr) := []
def slotsUsed : Nat := 0
def theMethod : MethodId := ⟨1, 1⟩
def args0 : Array Value := #[.int 5]
def aboutOver (below : List Frame) : State where
  vm := { classes := classes, interned := interned.toArray }
  heap := heap
  slotsUsed := slotsUsed
  threads := #[{ frames := .invoking theMethod args0 :: below }]
def below0 : List Frame := [.native { method := ⟨0, 0⟩, args := #[] }]
def about1 : State := aboutOver below0
def p0 : Program := .bare "" "" ""
def e0 : Env := launch0.env 0 0 0
theorem w_frames : about1.frames = Frame.invoking theMethod args0 :: below0 := rfl
set_option maxRecDepth 65536 in
theorem w_args : argsFit about1.vm theMethod args0 = true := by decide +kernel
set_option maxRecDepth 65536 in
theorem w_heap : heapFits about1 = true := by decide +kernel
set_option maxRecDepth 65536 in
theorem w_runnable : about1.curStatus? = some .runnable := by decide +kernel
set_option maxRecDepth 65536 in
theorem w_alone : about1.alone = true := by decide +kernel
set_option maxRecDepth 65536 in
theorem w_named : about1.methodNamed? x = some theMethod := by decide +kernel
set_option maxRecDepth 65536 in
theorem w_hears : about1.hears theMethod below0 = true := by decide +kernel
set_option maxRecDepth 65536 in
theorem w_ripe : about1.ripe theMethod args0 below0 = true := by decide +kernel
theorem w_running : about1.status = .running := rfl
set_option maxRecDepth 65536 in
theorem w_room : about1.hasRoom e0.platform room_1 = true :=
  launch0.hasRoom_least _ room_1 (by decide +kernel) (by decide +kernel) (by decide +kernel) (by decide +kernel) (by decide +kernel) (by decide +kernel)
theorem allAtoms_all (ts : List Jvm.Cond) (a : Array Jvm.Value) (st : Jvm.State) : (allAtoms ts).before a st = ts.all (fun c => c.before a st) := by
  induction ts with
  | nil => rfl
  | cons c t ih =>
    show (Jvm.Cond.and c (allAtoms t)).before a st = _
    rw [Jvm.Cond.before_and, ih, List.all_cons]
def words1 : List Jvm.Cond := Jvm.Cond.code x code maxLocals ret :: tables_1
/-- a 'code' word, met by the world's own term for the bytes: nothing is compared byte by byte -/
theorem code_word {y : MethodName} {bytes : ByteArray} {mx : Nat} {rt : Option FieldType} {a : Array Value} {s : State} {m : MethodId} {meth : Method} {c : Code} (h1 : s.methodNamed? y = some m) (h2 : s.vm.method? m = some meth) (h3 : meth.code = some c) (h4 : c.code = bytes)
    (h5 : (c.maxLocals == mx && c.exceptionTable.isEmpty && decide (c.maxStack ≤ mostOperands) && decide (meth.sig.returnType = rt) && !meth.locks && decide (parseMethodDescriptor y.desc = some meth.sig)) = true) : (Jvm.Cond.code y bytes mx rt).before a s = true := by
  simp only [Bool.and_eq_true, beq_iff_eq, Bool.not_eq_true', decide_eq_true_eq] at h5
  obtain ⟨⟨⟨⟨⟨g1, g2⟩, g3⟩, g4⟩, g5⟩, g6⟩ := h5
  simp [Cond.before, Cond.holds, Cond.value, h1, h2, h3, h4, g1, g2, g3, g4, g5, g6]
def isCode : Jvm.Cond → Bool
  | .code _ _ _ _ => true
  | _ => false
theorem all_split {L : List Jvm.Cond} {P : Jvm.Cond → Bool} (h1 : L.all (fun c => isCode c || P c) = true) (h2 : ∀ c ∈ L.filter isCode, P c = true) : L.all P = true := by
  refine List.all_eq_true.mpr fun c hc => ?_
  have h := List.all_eq_true.mp h1 c hc
  rcases Bool.eq_false_or_eq_true (isCode c) with hi | hi
  · exact h2 c (List.mem_filter.mpr ⟨hc, hi⟩)
  · simpa [hi] using h
set_option maxRecDepth 65536 in
theorem w_c0 : (Jvm.Cond.code x code maxLocals ret).before args0 about1 = true := code_word (m := ⟨1, 1⟩) (meth := k1m1) (c := k1c1) (by decide +kernel) rfl rfl rfl (by decide +kernel)
set_option maxRecDepth 65536 in
theorem w_c1 : (Jvm.Cond.code ({ cls := "com/example/odeta/odeta/SafraTree", name := "nodeLength", desc := "(I)I" } : Jvm.MethodName) prog_58_method_2_code (1 : Nat) (Option.some Jvm.ClassFile.FieldType.int)).before args0 about1 = true := code_word (m := ⟨2, 0⟩) (meth := k2m0) (c := k2c0) (by decide +kernel) rfl rfl rfl (by decide +kernel)
def codes1 : List Jvm.Cond := [Jvm.Cond.code x code maxLocals ret, Jvm.Cond.code ({ cls := "com/example/odeta/odeta/SafraTree", name := "nodeLength", desc := "(I)I" } : Jvm.MethodName) prog_58_method_2_code (1 : Nat) (Option.some Jvm.ClassFile.FieldType.int)]
set_option maxRecDepth 65536 in
theorem codes_eq : words1.filter isCode = codes1 := rfl
theorem w_codes : ∀ c ∈ words1.filter isCode, c.before args0 about1 = true := by
  rw [codes_eq]
  intro c hc
  simp only [codes1, List.mem_cons, List.not_mem_nil, or_false] at hc
  rcases hc with rfl | rfl
  · exact w_c0
  · exact w_c1
set_option maxRecDepth 65536 in
theorem w_t1 : words1.all (fun c => isCode c || c.before args0 about1) = true := by decide +kernel
theorem w_tables : (allAtoms (Jvm.Cond.code x code maxLocals ret :: tables_1)).before args0 about1 = true := by
  rw [allAtoms_all]
  show words1.all (fun c => c.before args0 about1) = true
  refine all_split ?_ w_codes
  rw [w_t1]
set_option maxRecDepth 65536 in
theorem w_case : (Jvm.Cond.and given_1 narrow_1).before args0 about1 = true := by decide +kernel
theorem w_applies : (headSpec (Jvm.Cond.code x code maxLocals ret :: tables_1) room_1).applies x e0.platform about1 = true :=
  (Spec.applies_iff w_frames).mpr ⟨w_running, w_runnable, w_alone, w_named, w_hears, w_ripe, w_room, w_tables⟩
theorem atStart : AtStart classFile x code maxLocals ret World_1 tables_1 room_1 Calls_1 rest_1 Pre_1 launch0 p0 e0 about1 theMethod args0 below0 :=
  ⟨lists_1, trivial, launch0.admits_env _ _ _, launch0.least_env, fairChoices_fair.cas, fairChoices_fair.clock, w_frames, w_args, w_heap, w_applies, trivial, trivial, w_case⟩
end start1
theorem witness_1 : WitnessClaimed_1 := ⟨start1.p0, start1.e0, start1.about1, start1.theMethod, start1.args0, start1.below0, start1.atStart⟩
end Jvm.Pilot.@@N@@
