import JvmDerived
import JvmDerived.Pilot.@@N@@Statement
import JvmDerived.Pilot.@@N@@Code
set_option linter.unusedVariables false
set_option linter.unusedSimpArgs false
namespace Jvm.RoadKit
open Sem ClassFile Op Lib Jvm.Stand Jvm.Free Jvm.LawKit
section New
variable {p : Program} {l : Launch} {e : Env} {R : Room} {s : State} {m : MethodId} {args : Array Value} {below : List Frame} {meth : Method} {c : Code} {T : State} {locs : List Loc} {cells slots : Nat}
theorem retI (X : Stand p l e R s m args below meth c T locs cells slots) (hx : p.tables.exec = Jvm.exec) {pc : Nat} {Ls : Array Slot} {z : Int32} {rest : List Value} (hret : meth.sig.returnType = some .int) (hd : decode c.code pc = .ok (.ireturn, 1)) {fs : List Frame}
    (hl : ∀ (f : JFrame) (acts : List Action), f.method = m → f.locked = none → f.entered = [] → (doReturn e (T.setTop f) acts (some (.int z))).1 = T.setFrames fs) : Steps p.tables e below (T.setTop (mkF m pc Ls (.int z :: rest))) (T.setFrames fs) := by
  have hm' : T.vm.method? m = some meth := X.method'
  have hn : narrow .int (.int z) = .int z := rfl
  show Steps p.tables e below (T.setTop { method := m, pc := pc, locals := Ls, stack := _ :: rest, locked := none }) _
  jvm_step X.here [X.here.top, hx, hd, hm', hret, hn]
  first | (intro acts; rw [hl _ acts rfl rfl rfl]) | rw [hl _ _ rfl rfl rfl]
  exact Steps.refl _
end New
end Jvm.RoadKit
namespace Jvm.Pilot.@@N@@
open Jvm Jvm.ClassFile Sem Op Lib Jvm.Free Jvm.Stand Jvm.LawKit Jvm.RoadKit Bundle Jvm.Pilot.@@N@@.Jvm.D
def own_B (bs : List Int32) (j : Int32) : Int32 := bs.getD j.toNatClampNeg 0
theorem own_getD (L : List Int32) (k : Nat) : (L.map Value.int).getD k (.int 0) = .int (L.getD k 0) := by
  induction L generalizing k with
  | nil => simp
  | cons a t ih => cases k with
    | zero => simp
    | succ n => simpa using ih n
/-- the sign at j is skipped by a line that ends ahead of r -/
def own_ok (bs : List Int32) (r j : Int32) : Prop := own_B bs j = 10 ∨ (own_B bs j = 13 ∧ (j + (1 : Int32)).toInt < r.toInt ∧ own_B bs (j + (1 : Int32)) = 10)
def own_P (bs : List Int32) (f t r : Int32) : Prop := (¬ f.toInt < t.toInt → r = f) ∧ (f.toInt < t.toInt → f.toInt ≤ r.toInt ∧ r.toInt ≤ t.toInt ∧ (∀ j : Int32, f.toInt ≤ j.toInt → j.toInt < r.toInt → own_ok bs r j) ∧ (r = t ∨ (¬ own_B bs r = 10 ∧ (own_B bs r = 13 → (r + (1 : Int32)).toInt < t.toInt → ¬ own_B bs (r + (1 : Int32)) = 10))))
theorem own_inc (i : Int32) (k : Int32) (hk : 0 ≤ k.toInt ∧ k.toInt ≤ 2) (h1 : i.toInt ≤ 6) (h0 : 0 ≤ i.toInt) : (i + k).toInt = i.toInt + k.toInt := by
  have a := c_iadd i k
  have b := rng32 (i + k)
  omega
theorem own_mono (bs : List Int32) (r r' j : Int32) (h : r.toInt ≤ r'.toInt) (o : own_ok bs r j) : own_ok bs r' j := by
  rcases o with o | ⟨o1, o2, o3⟩
  · exact Or.inl o
  · exact Or.inr ⟨o1, by omega, o3⟩
theorem pn_0 : plainName "com/example/rest_whiteboard/restwhiteboard/http/RequestHeadSkipEmptyLinesPinLaw" = true := by first | (simp [plainName, overriddenIn]; done) | decide +kernel
theorem d_method_2_code_0 : decode method_2_code 0 = .ok (.iload_n 0, 1) := by decide +kernel
theorem d_method_2_code_1 : decode method_2_code 1 = .ok (.iconst 2, 1) := by decide +kernel
theorem d_method_2_code_2 : decode method_2_code 2 = .ok (.iload_n 1, 1) := by decide +kernel
theorem d_method_2_code_3 : decode method_2_code 3 = .ok (.imul, 1) := by decide +kernel
theorem d_method_2_code_4 : decode method_2_code 4 = .ok (.iushr, 1) := by decide +kernel
theorem d_method_2_code_5 : decode method_2_code 5 = .ok (.iconst 3, 1) := by decide +kernel
theorem d_method_2_code_6 : decode method_2_code 6 = .ok (.iand, 1) := by decide +kernel
theorem d_method_2_code_7 : decode method_2_code 7 = .ok (.istore 4, 2) := by decide +kernel
theorem d_method_2_code_9 : decode method_2_code 9 = .ok (.iload 4, 2) := by decide +kernel
theorem d_method_2_code_11 : decode method_2_code 11 = .ok (.ifCond .ne 6, 3) := by decide +kernel
theorem d_method_2_code_14 : decode method_2_code 14 = .ok (.bipush 10, 2) := by decide +kernel
theorem d_method_2_code_16 : decode method_2_code 16 = .ok (.ireturn, 1) := by decide +kernel
theorem d_method_2_code_17 : decode method_2_code 17 = .ok (.iload 4, 2) := by decide +kernel
theorem d_method_2_code_19 : decode method_2_code 19 = .ok (.iconst 1, 1) := by decide +kernel
theorem d_method_2_code_20 : decode method_2_code 20 = .ok (.if_icmp .ne 6, 3) := by decide +kernel
theorem d_method_2_code_23 : decode method_2_code 23 = .ok (.bipush 13, 2) := by decide +kernel
theorem d_method_2_code_25 : decode method_2_code 25 = .ok (.ireturn, 1) := by decide +kernel
theorem d_method_2_code_26 : decode method_2_code 26 = .ok (.lload_n 2, 1) := by decide +kernel
theorem d_method_2_code_27 : decode method_2_code 27 = .ok (.bipush 8, 2) := by decide +kernel
theorem d_method_2_code_29 : decode method_2_code 29 = .ok (.iload_n 1, 1) := by decide +kernel
theorem d_method_2_code_30 : decode method_2_code 30 = .ok (.imul, 1) := by decide +kernel
theorem d_method_2_code_31 : decode method_2_code 31 = .ok (.lushr, 1) := by decide +kernel
theorem d_method_2_code_32 : decode method_2_code 32 = .ok (.l2i, 1) := by decide +kernel
theorem d_method_2_code_33 : decode method_2_code 33 = .ok (.i2b, 1) := by decide +kernel
theorem d_method_2_code_34 : decode method_2_code 34 = .ok (.ireturn, 1) := by decide +kernel
theorem ef_pick (m : MethodId) (va : Int32) (vb : Int32) (vc : Int64) : entryFrame m #[(.int va), (.int vb), (.long vc)] 5 = mkF m 0 #[.val (.int va), .val (.int vb), .val (.long vc), .second, .unset] [] := by first | (simp [entryFrame, mkF, argsToLocals, Value.category]; done) | rfl
def Q_pick (Z : State) (va : Int32) (vb : Int32) (vc : Int64) (h0 : Heap) (n0 : Nat) (v : Option Value) (h : Heap) (L : List Loc) : Prop := (∃ z : Int32, v = some (.int z) ∧ (True)) ∧ Fr n0 L ∧ h = h0
set_option maxRecDepth 65536 in
set_option maxHeartbeats 40000000 in
theorem rm_pick (l : Launch) (Z : State) (a0 : Array Value) (hw : ∀ d ∈ tables_1, d.before a0 Z = true) (ws : List Jvm.Cond) (va : Int32) (vb : Int32) (vc : Int64) (h0 : Heap) (n0 : Nat) (Z0 : n0 ≤ h0.size) :
    MetFree l (⟨"com/example/rest_whiteboard/restwhiteboard/http/RequestHeadSkipEmptyLinesPinLaw", "pick", "(IIJ)B"⟩ : MethodName) (head1 (Jvm.Cond.code (⟨"com/example/rest_whiteboard/restwhiteboard/http/RequestHeadSkipEmptyLinesPinLaw", "pick", "(IIJ)B"⟩ : MethodName) method_2_code 5 (some .byte) :: ws) ({ frames := 0, cells := 0, slots := 0, locals := 0 } : Room)) (fun a U => a = #[(.int va), (.int vb), (.long vc)] ∧ Z.Warmed39 U.vm ∧ U.heap = h0) (fun _ _ _ _ _ => True) (fun _ U o U' => ∃ v L, o = .returned v ∧ Q_pick Z va vb vc h0 n0 v U'.heap L ∧ FrameEnd U o U' L ({ frames := 0, cells := 0, slots := 0, locals := 0 } : Room).cells ({ frames := 0, cells := 0, slots := 0, locals := 0 } : Room).slots) := by
  refine MetFree.of_bodySF (plainFor_of_name pn_0) hisR ?_
  intro p e s m args below meth c s₁ Bd hml0 hP hK
  obtain ⟨rfl, hZ, hh⟩ := hP
  have hx := Bd.exec
  have hby := Bd.bytes
  have hml : c.maxLocals = 5 := hml0
  have hown : s.vm.findClass "com/example/rest_whiteboard/restwhiteboard/http/RequestHeadSkipEmptyLinesPinLaw" = some m.cls := findClass_of_methodNamed Bd.named
  have hnm := (name_of_methodNamed Bd.named Bd.method).1
  have X0 : Stand p l e ({ frames := 0, cells := 0, slots := 0, locals := 0 } : Room) s m #[(.int va), (.int vb), (.long vc)] below meth c s₁ [] 0 0 := Stand.of_body Bd
  have e0 : s₁.heap = h0 := by rw [← hh, Bd.state]; rfl
  have N0 := Fr.nil n0
  have pre0 : ∀ t, Steps p.tables e below (s₁.setTop (mkF m 0 #[.val (.int va), .val (.int vb), .val (.long vc), .second, .unset] [])) t → Steps p.tables e below (s₁.setTop (entryFrame m #[(.int va), (.int vb), (.long vc)] 5)) t := fun t k => castTop (ef_pick m va vb vc) k
  by_cases h11_1 : (((va.toUInt32 >>> (((2 : Int32) * vb) &&& 31).toUInt32).toInt32) &&& (3 : Int32)) = (0 : Int32)
  · obtain ⟨fs, hr, hrun, hended, hW, hsame⟩ := X0.leave (v := some (.int (10 : Int32))) (fun h => by rw [Bd.returns] at h; cases h)
    refine ⟨_, _, pre0 _ ?_, hrun, hended, _, _, rfl, ?_, ⟨_, rfl⟩, hW, hsame.mono (by decide) (by decide)⟩
    · show Steps p.tables e below (s₁.setTop (mkF m 0 #[.val (.int va), .val (.int vb), .val (.long vc), .second, .unset] [])) _
      refine XS.iloadN X0.here hx rfl (hb hby d_method_2_code_0) rfl ?_
      show Steps p.tables e below (s₁.setTop (mkF m 1 #[.val (.int va), .val (.int vb), .val (.long vc), .second, .unset] [(.int va)])) _
      refine XS.iconst X0.here hx rfl (hb hby d_method_2_code_1) ?_
      show Steps p.tables e below (s₁.setTop (mkF m 2 #[.val (.int va), .val (.int vb), .val (.long vc), .second, .unset] [(.int (2 : Int32)), (.int va)])) _
      refine XS.iloadN X0.here hx rfl (hb hby d_method_2_code_2) rfl ?_
      show Steps p.tables e below (s₁.setTop (mkF m 3 #[.val (.int va), .val (.int vb), .val (.long vc), .second, .unset] [(.int vb), (.int (2 : Int32)), (.int va)])) _
      refine XS.imul X0.here hx rfl (hb hby d_method_2_code_3) rfl ?_
      show Steps p.tables e below (s₁.setTop (mkF m 4 #[.val (.int va), .val (.int vb), .val (.long vc), .second, .unset] [(.int ((2 : Int32) * vb)), (.int va)])) _
      refine XS.iushr X0.here hx rfl (hb hby d_method_2_code_4) rfl ?_
      show Steps p.tables e below (s₁.setTop (mkF m 5 #[.val (.int va), .val (.int vb), .val (.long vc), .second, .unset] [(.int ((va.toUInt32 >>> (((2 : Int32) * vb) &&& 31).toUInt32).toInt32))])) _
      refine XS.iconst X0.here hx rfl (hb hby d_method_2_code_5) ?_
      show Steps p.tables e below (s₁.setTop (mkF m 6 #[.val (.int va), .val (.int vb), .val (.long vc), .second, .unset] [(.int (3 : Int32)), (.int ((va.toUInt32 >>> (((2 : Int32) * vb) &&& 31).toUInt32).toInt32))])) _
      refine XS.iand X0.here hx rfl (hb hby d_method_2_code_6) rfl ?_
      show Steps p.tables e below (s₁.setTop (mkF m 7 #[.val (.int va), .val (.int vb), .val (.long vc), .second, .unset] [(.int (((va.toUInt32 >>> (((2 : Int32) * vb) &&& 31).toUInt32).toInt32) &&& (3 : Int32)))])) _
      refine XS.istore X0.here hx rfl (hb hby d_method_2_code_7) rfl (l' := #[.val (.int va), .val (.int vb), .val (.long vc), .second, .val (.int (((va.toUInt32 >>> (((2 : Int32) * vb) &&& 31).toUInt32).toInt32) &&& (3 : Int32)))]) rfl ?_
      show Steps p.tables e below (s₁.setTop (mkF m 9 #[.val (.int va), .val (.int vb), .val (.long vc), .second, .val (.int (((va.toUInt32 >>> (((2 : Int32) * vb) &&& 31).toUInt32).toInt32) &&& (3 : Int32)))] [])) _
      refine XS.iload X0.here hx rfl (hb hby d_method_2_code_9) rfl ?_
      show Steps p.tables e below (s₁.setTop (mkF m 11 #[.val (.int va), .val (.int vb), .val (.long vc), .second, .val (.int (((va.toUInt32 >>> (((2 : Int32) * vb) &&& 31).toUInt32).toInt32) &&& (3 : Int32)))] [(.int (((va.toUInt32 >>> (((2 : Int32) * vb) &&& 31).toUInt32).toInt32) &&& (3 : Int32)))])) _
      refine XS.ifNo X0.here hx rfl (hb hby d_method_2_code_11) rfl ((if0 _ _).trans (teq h11_1).2) ?_
      show Steps p.tables e below (s₁.setTop (mkF m 14 #[.val (.int va), .val (.int vb), .val (.long vc), .second, .val (.int (((va.toUInt32 >>> (((2 : Int32) * vb) &&& 31).toUInt32).toInt32) &&& (3 : Int32)))] [])) _
      refine XS.bipush X0.here hx rfl (hb hby d_method_2_code_14) ?_
      show Steps p.tables e below (s₁.setTop (mkF m 16 #[.val (.int va), .val (.int vb), .val (.long vc), .second, .val (.int (((va.toUInt32 >>> (((2 : Int32) * vb) &&& 31).toUInt32).toInt32) &&& (3 : Int32)))] [(.int (10 : Int32))])) _
      exact retN X0 hx (t := .byte) Bd.returns (by simp) (hb hby d_method_2_code_16) hr
    · show Q_pick Z va vb vc h0 n0 _ s₁.heap _
      rw [e0]
      exact ⟨⟨_, rfl, trivial⟩, N0, rfl⟩
  · by_cases h20_2 : (((va.toUInt32 >>> (((2 : Int32) * vb) &&& 31).toUInt32).toInt32) &&& (3 : Int32)) = (1 : Int32)
    · obtain ⟨fs, hr, hrun, hended, hW, hsame⟩ := X0.leave (v := some (.int (13 : Int32))) (fun h => by rw [Bd.returns] at h; cases h)
      refine ⟨_, _, pre0 _ ?_, hrun, hended, _, _, rfl, ?_, ⟨_, rfl⟩, hW, hsame.mono (by decide) (by decide)⟩
      · show Steps p.tables e below (s₁.setTop (mkF m 0 #[.val (.int va), .val (.int vb), .val (.long vc), .second, .unset] [])) _
        refine XS.iloadN X0.here hx rfl (hb hby d_method_2_code_0) rfl ?_
        show Steps p.tables e below (s₁.setTop (mkF m 1 #[.val (.int va), .val (.int vb), .val (.long vc), .second, .unset] [(.int va)])) _
        refine XS.iconst X0.here hx rfl (hb hby d_method_2_code_1) ?_
        show Steps p.tables e below (s₁.setTop (mkF m 2 #[.val (.int va), .val (.int vb), .val (.long vc), .second, .unset] [(.int (2 : Int32)), (.int va)])) _
        refine XS.iloadN X0.here hx rfl (hb hby d_method_2_code_2) rfl ?_
        show Steps p.tables e below (s₁.setTop (mkF m 3 #[.val (.int va), .val (.int vb), .val (.long vc), .second, .unset] [(.int vb), (.int (2 : Int32)), (.int va)])) _
        refine XS.imul X0.here hx rfl (hb hby d_method_2_code_3) rfl ?_
        show Steps p.tables e below (s₁.setTop (mkF m 4 #[.val (.int va), .val (.int vb), .val (.long vc), .second, .unset] [(.int ((2 : Int32) * vb)), (.int va)])) _
        refine XS.iushr X0.here hx rfl (hb hby d_method_2_code_4) rfl ?_
        show Steps p.tables e below (s₁.setTop (mkF m 5 #[.val (.int va), .val (.int vb), .val (.long vc), .second, .unset] [(.int ((va.toUInt32 >>> (((2 : Int32) * vb) &&& 31).toUInt32).toInt32))])) _
        refine XS.iconst X0.here hx rfl (hb hby d_method_2_code_5) ?_
        show Steps p.tables e below (s₁.setTop (mkF m 6 #[.val (.int va), .val (.int vb), .val (.long vc), .second, .unset] [(.int (3 : Int32)), (.int ((va.toUInt32 >>> (((2 : Int32) * vb) &&& 31).toUInt32).toInt32))])) _
        refine XS.iand X0.here hx rfl (hb hby d_method_2_code_6) rfl ?_
        show Steps p.tables e below (s₁.setTop (mkF m 7 #[.val (.int va), .val (.int vb), .val (.long vc), .second, .unset] [(.int (((va.toUInt32 >>> (((2 : Int32) * vb) &&& 31).toUInt32).toInt32) &&& (3 : Int32)))])) _
        refine XS.istore X0.here hx rfl (hb hby d_method_2_code_7) rfl (l' := #[.val (.int va), .val (.int vb), .val (.long vc), .second, .val (.int (((va.toUInt32 >>> (((2 : Int32) * vb) &&& 31).toUInt32).toInt32) &&& (3 : Int32)))]) rfl ?_
        show Steps p.tables e below (s₁.setTop (mkF m 9 #[.val (.int va), .val (.int vb), .val (.long vc), .second, .val (.int (((va.toUInt32 >>> (((2 : Int32) * vb) &&& 31).toUInt32).toInt32) &&& (3 : Int32)))] [])) _
        refine XS.iload X0.here hx rfl (hb hby d_method_2_code_9) rfl ?_
        show Steps p.tables e below (s₁.setTop (mkF m 11 #[.val (.int va), .val (.int vb), .val (.long vc), .second, .val (.int (((va.toUInt32 >>> (((2 : Int32) * vb) &&& 31).toUInt32).toInt32) &&& (3 : Int32)))] [(.int (((va.toUInt32 >>> (((2 : Int32) * vb) &&& 31).toUInt32).toInt32) &&& (3 : Int32)))])) _
        refine XS.ifYes X0.here hx rfl (pc0 := 11) (pc' := 17) rfl (hb hby d_method_2_code_11) rfl ((if0 _ _).trans (feq h11_1).2) (by decide) (by decide) ?_
        show Steps p.tables e below (s₁.setTop (mkF m 17 #[.val (.int va), .val (.int vb), .val (.long vc), .second, .val (.int (((va.toUInt32 >>> (((2 : Int32) * vb) &&& 31).toUInt32).toInt32) &&& (3 : Int32)))] [])) _
        refine XS.iload X0.here hx rfl (hb hby d_method_2_code_17) rfl ?_
        show Steps p.tables e below (s₁.setTop (mkF m 19 #[.val (.int va), .val (.int vb), .val (.long vc), .second, .val (.int (((va.toUInt32 >>> (((2 : Int32) * vb) &&& 31).toUInt32).toInt32) &&& (3 : Int32)))] [(.int (((va.toUInt32 >>> (((2 : Int32) * vb) &&& 31).toUInt32).toInt32) &&& (3 : Int32)))])) _
        refine XS.iconst X0.here hx rfl (hb hby d_method_2_code_19) ?_
        show Steps p.tables e below (s₁.setTop (mkF m 20 #[.val (.int va), .val (.int vb), .val (.long vc), .second, .val (.int (((va.toUInt32 >>> (((2 : Int32) * vb) &&& 31).toUInt32).toInt32) &&& (3 : Int32)))] [(.int (1 : Int32)), (.int (((va.toUInt32 >>> (((2 : Int32) * vb) &&& 31).toUInt32).toInt32) &&& (3 : Int32)))])) _
        refine XS.icmpNo X0.here hx rfl (hb hby d_method_2_code_20) rfl (teq h20_2).2 ?_
        show Steps p.tables e below (s₁.setTop (mkF m 23 #[.val (.int va), .val (.int vb), .val (.long vc), .second, .val (.int (((va.toUInt32 >>> (((2 : Int32) * vb) &&& 31).toUInt32).toInt32) &&& (3 : Int32)))] [])) _
        refine XS.bipush X0.here hx rfl (hb hby d_method_2_code_23) ?_
        show Steps p.tables e below (s₁.setTop (mkF m 25 #[.val (.int va), .val (.int vb), .val (.long vc), .second, .val (.int (((va.toUInt32 >>> (((2 : Int32) * vb) &&& 31).toUInt32).toInt32) &&& (3 : Int32)))] [(.int (13 : Int32))])) _
        exact retN X0 hx (t := .byte) Bd.returns (by simp) (hb hby d_method_2_code_25) hr
      · show Q_pick Z va vb vc h0 n0 _ s₁.heap _
        rw [e0]
        exact ⟨⟨_, rfl, trivial⟩, N0, rfl⟩
    · obtain ⟨fs, hr, hrun, hended, hW, hsame⟩ := X0.leave (v := some (.int (nar .byte ((((vc.toUInt64 >>> (((8 : Int32) * vb) &&& 0x3f).toInt64.toUInt64).toInt64).toInt32).toInt8.toInt32)))) (fun h => by rw [Bd.returns] at h; cases h)
      refine ⟨_, _, pre0 _ ?_, hrun, hended, _, _, rfl, ?_, ⟨_, rfl⟩, hW, hsame.mono (by decide) (by decide)⟩
      · show Steps p.tables e below (s₁.setTop (mkF m 0 #[.val (.int va), .val (.int vb), .val (.long vc), .second, .unset] [])) _
        refine XS.iloadN X0.here hx rfl (hb hby d_method_2_code_0) rfl ?_
        show Steps p.tables e below (s₁.setTop (mkF m 1 #[.val (.int va), .val (.int vb), .val (.long vc), .second, .unset] [(.int va)])) _
        refine XS.iconst X0.here hx rfl (hb hby d_method_2_code_1) ?_
        show Steps p.tables e below (s₁.setTop (mkF m 2 #[.val (.int va), .val (.int vb), .val (.long vc), .second, .unset] [(.int (2 : Int32)), (.int va)])) _
        refine XS.iloadN X0.here hx rfl (hb hby d_method_2_code_2) rfl ?_
        show Steps p.tables e below (s₁.setTop (mkF m 3 #[.val (.int va), .val (.int vb), .val (.long vc), .second, .unset] [(.int vb), (.int (2 : Int32)), (.int va)])) _
        refine XS.imul X0.here hx rfl (hb hby d_method_2_code_3) rfl ?_
        show Steps p.tables e below (s₁.setTop (mkF m 4 #[.val (.int va), .val (.int vb), .val (.long vc), .second, .unset] [(.int ((2 : Int32) * vb)), (.int va)])) _
        refine XS.iushr X0.here hx rfl (hb hby d_method_2_code_4) rfl ?_
        show Steps p.tables e below (s₁.setTop (mkF m 5 #[.val (.int va), .val (.int vb), .val (.long vc), .second, .unset] [(.int ((va.toUInt32 >>> (((2 : Int32) * vb) &&& 31).toUInt32).toInt32))])) _
        refine XS.iconst X0.here hx rfl (hb hby d_method_2_code_5) ?_
        show Steps p.tables e below (s₁.setTop (mkF m 6 #[.val (.int va), .val (.int vb), .val (.long vc), .second, .unset] [(.int (3 : Int32)), (.int ((va.toUInt32 >>> (((2 : Int32) * vb) &&& 31).toUInt32).toInt32))])) _
        refine XS.iand X0.here hx rfl (hb hby d_method_2_code_6) rfl ?_
        show Steps p.tables e below (s₁.setTop (mkF m 7 #[.val (.int va), .val (.int vb), .val (.long vc), .second, .unset] [(.int (((va.toUInt32 >>> (((2 : Int32) * vb) &&& 31).toUInt32).toInt32) &&& (3 : Int32)))])) _
        refine XS.istore X0.here hx rfl (hb hby d_method_2_code_7) rfl (l' := #[.val (.int va), .val (.int vb), .val (.long vc), .second, .val (.int (((va.toUInt32 >>> (((2 : Int32) * vb) &&& 31).toUInt32).toInt32) &&& (3 : Int32)))]) rfl ?_
        show Steps p.tables e below (s₁.setTop (mkF m 9 #[.val (.int va), .val (.int vb), .val (.long vc), .second, .val (.int (((va.toUInt32 >>> (((2 : Int32) * vb) &&& 31).toUInt32).toInt32) &&& (3 : Int32)))] [])) _
        refine XS.iload X0.here hx rfl (hb hby d_method_2_code_9) rfl ?_
        show Steps p.tables e below (s₁.setTop (mkF m 11 #[.val (.int va), .val (.int vb), .val (.long vc), .second, .val (.int (((va.toUInt32 >>> (((2 : Int32) * vb) &&& 31).toUInt32).toInt32) &&& (3 : Int32)))] [(.int (((va.toUInt32 >>> (((2 : Int32) * vb) &&& 31).toUInt32).toInt32) &&& (3 : Int32)))])) _
        refine XS.ifYes X0.here hx rfl (pc0 := 11) (pc' := 17) rfl (hb hby d_method_2_code_11) rfl ((if0 _ _).trans (feq h11_1).2) (by decide) (by decide) ?_
        show Steps p.tables e below (s₁.setTop (mkF m 17 #[.val (.int va), .val (.int vb), .val (.long vc), .second, .val (.int (((va.toUInt32 >>> (((2 : Int32) * vb) &&& 31).toUInt32).toInt32) &&& (3 : Int32)))] [])) _
        refine XS.iload X0.here hx rfl (hb hby d_method_2_code_17) rfl ?_
        show Steps p.tables e below (s₁.setTop (mkF m 19 #[.val (.int va), .val (.int vb), .val (.long vc), .second, .val (.int (((va.toUInt32 >>> (((2 : Int32) * vb) &&& 31).toUInt32).toInt32) &&& (3 : Int32)))] [(.int (((va.toUInt32 >>> (((2 : Int32) * vb) &&& 31).toUInt32).toInt32) &&& (3 : Int32)))])) _
        refine XS.iconst X0.here hx rfl (hb hby d_method_2_code_19) ?_
        show Steps p.tables e below (s₁.setTop (mkF m 20 #[.val (.int va), .val (.int vb), .val (.long vc), .second, .val (.int (((va.toUInt32 >>> (((2 : Int32) * vb) &&& 31).toUInt32).toInt32) &&& (3 : Int32)))] [(.int (1 : Int32)), (.int (((va.toUInt32 >>> (((2 : Int32) * vb) &&& 31).toUInt32).toInt32) &&& (3 : Int32)))])) _
        refine XS.icmpYes X0.here hx rfl (pc0 := 20) (pc' := 26) rfl (hb hby d_method_2_code_20) rfl (feq h20_2).2 (by decide) (by decide) ?_
        show Steps p.tables e below (s₁.setTop (mkF m 26 #[.val (.int va), .val (.int vb), .val (.long vc), .second, .val (.int (((va.toUInt32 >>> (((2 : Int32) * vb) &&& 31).toUInt32).toInt32) &&& (3 : Int32)))] [])) _
        refine XS.lloadN X0.here hx rfl (hb hby d_method_2_code_26) rfl ?_
        show Steps p.tables e below (s₁.setTop (mkF m 27 #[.val (.int va), .val (.int vb), .val (.long vc), .second, .val (.int (((va.toUInt32 >>> (((2 : Int32) * vb) &&& 31).toUInt32).toInt32) &&& (3 : Int32)))] [(.long vc)])) _
        refine XS.bipush X0.here hx rfl (hb hby d_method_2_code_27) ?_
        show Steps p.tables e below (s₁.setTop (mkF m 29 #[.val (.int va), .val (.int vb), .val (.long vc), .second, .val (.int (((va.toUInt32 >>> (((2 : Int32) * vb) &&& 31).toUInt32).toInt32) &&& (3 : Int32)))] [(.int (8 : Int32)), (.long vc)])) _
        refine XS.iloadN X0.here hx rfl (hb hby d_method_2_code_29) rfl ?_
        show Steps p.tables e below (s₁.setTop (mkF m 30 #[.val (.int va), .val (.int vb), .val (.long vc), .second, .val (.int (((va.toUInt32 >>> (((2 : Int32) * vb) &&& 31).toUInt32).toInt32) &&& (3 : Int32)))] [(.int vb), (.int (8 : Int32)), (.long vc)])) _
        refine XS.imul X0.here hx rfl (hb hby d_method_2_code_30) rfl ?_
        show Steps p.tables e below (s₁.setTop (mkF m 31 #[.val (.int va), .val (.int vb), .val (.long vc), .second, .val (.int (((va.toUInt32 >>> (((2 : Int32) * vb) &&& 31).toUInt32).toInt32) &&& (3 : Int32)))] [(.int ((8 : Int32) * vb)), (.long vc)])) _
        refine XS.lushr X0.here hx rfl (hb hby d_method_2_code_31) rfl ?_
        show Steps p.tables e below (s₁.setTop (mkF m 32 #[.val (.int va), .val (.int vb), .val (.long vc), .second, .val (.int (((va.toUInt32 >>> (((2 : Int32) * vb) &&& 31).toUInt32).toInt32) &&& (3 : Int32)))] [(.long ((vc.toUInt64 >>> (((8 : Int32) * vb) &&& 0x3f).toInt64.toUInt64).toInt64))])) _
        refine XS.l2i X0.here hx rfl (hb hby d_method_2_code_32) rfl ?_
        show Steps p.tables e below (s₁.setTop (mkF m 33 #[.val (.int va), .val (.int vb), .val (.long vc), .second, .val (.int (((va.toUInt32 >>> (((2 : Int32) * vb) &&& 31).toUInt32).toInt32) &&& (3 : Int32)))] [(.int (((vc.toUInt64 >>> (((8 : Int32) * vb) &&& 0x3f).toInt64.toUInt64).toInt64).toInt32))])) _
        refine XS.i2b X0.here hx rfl (hb hby d_method_2_code_33) rfl ?_
        show Steps p.tables e below (s₁.setTop (mkF m 34 #[.val (.int va), .val (.int vb), .val (.long vc), .second, .val (.int (((va.toUInt32 >>> (((2 : Int32) * vb) &&& 31).toUInt32).toInt32) &&& (3 : Int32)))] [(.int ((((vc.toUInt64 >>> (((8 : Int32) * vb) &&& 0x3f).toInt64.toUInt64).toInt64).toInt32).toInt8.toInt32))])) _
        exact retN X0 hx (t := .byte) Bd.returns (by simp) (hb hby d_method_2_code_34) hr
      · show Q_pick Z va vb vc h0 n0 _ s₁.heap _
        rw [e0]
        exact ⟨⟨_, rfl, trivial⟩, N0, rfl⟩
theorem own_idx (i : Int32) (h0 : 0 ≤ i.toInt) (h1 : i.toInt < 6) : ¬ i < 0 ∧ i < 6 := by
  rw [Int32.lt_iff_toInt_lt, Int32.lt_iff_toInt_lt, show (0 : Int32).toInt = 0 from by decide, show (6 : Int32).toInt = 6 from by decide]; omega
theorem own_lt (a b : Int32) : a < b ↔ a.toInt < b.toInt := Int32.lt_iff_toInt_lt
theorem d_method_3_code_0 : decode method_3_code 0 = .ok (.iload_n 3, 1) := by decide +kernel
theorem d_method_3_code_1 : decode method_3_code 1 = .ok (.iload_n 1, 1) := by decide +kernel
theorem d_method_3_code_2 : decode method_3_code 2 = .ok (.if_icmp .lt 8, 3) := by decide +kernel
theorem d_method_3_code_10 : decode method_3_code 10 = .ok (.iconst 1, 1) := by decide +kernel
theorem d_method_3_code_11 : decode method_3_code 11 = .ok (.ireturn, 1) := by decide +kernel
theorem d_method_3_code_5 : decode method_3_code 5 = .ok (.iload_n 3, 1) := by decide +kernel
theorem d_method_3_code_6 : decode method_3_code 6 = .ok (.iload_n 2, 1) := by decide +kernel
theorem d_method_3_code_7 : decode method_3_code 7 = .ok (.if_icmp .lt 5, 3) := by decide +kernel
theorem d_method_3_code_12 : decode method_3_code 12 = .ok (.aload_n 0, 1) := by decide +kernel
theorem d_method_3_code_13 : decode method_3_code 13 = .ok (.iload_n 3, 1) := by decide +kernel
theorem d_method_3_code_14 : decode method_3_code 14 = .ok (.baload, 1) := by decide +kernel
theorem d_method_3_code_15 : decode method_3_code 15 = .ok (.bipush 10, 2) := by decide +kernel
theorem d_method_3_code_17 : decode method_3_code 17 = .ok (.if_icmp .ne 5, 3) := by decide +kernel
theorem d_method_3_code_20 : decode method_3_code 20 = .ok (.iconst 1, 1) := by decide +kernel
theorem d_method_3_code_21 : decode method_3_code 21 = .ok (.ireturn, 1) := by decide +kernel
theorem d_method_3_code_22 : decode method_3_code 22 = .ok (.aload_n 0, 1) := by decide +kernel
theorem d_method_3_code_23 : decode method_3_code 23 = .ok (.iload_n 3, 1) := by decide +kernel
theorem d_method_3_code_24 : decode method_3_code 24 = .ok (.baload, 1) := by decide +kernel
theorem d_method_3_code_25 : decode method_3_code 25 = .ok (.bipush 13, 2) := by decide +kernel
theorem d_method_3_code_27 : decode method_3_code 27 = .ok (.if_icmp .ne 26, 3) := by decide +kernel
theorem d_method_3_code_30 : decode method_3_code 30 = .ok (.iload_n 3, 1) := by decide +kernel
theorem d_method_3_code_31 : decode method_3_code 31 = .ok (.iconst 1, 1) := by decide +kernel
theorem d_method_3_code_32 : decode method_3_code 32 = .ok (.iadd, 1) := by decide +kernel
theorem d_method_3_code_33 : decode method_3_code 33 = .ok (.iload_n 2, 1) := by decide +kernel
theorem d_method_3_code_34 : decode method_3_code 34 = .ok (.if_icmp .ge 17, 3) := by decide +kernel
theorem d_method_3_code_37 : decode method_3_code 37 = .ok (.aload_n 0, 1) := by decide +kernel
theorem d_method_3_code_38 : decode method_3_code 38 = .ok (.iload_n 3, 1) := by decide +kernel
theorem d_method_3_code_39 : decode method_3_code 39 = .ok (.iconst 1, 1) := by decide +kernel
theorem d_method_3_code_40 : decode method_3_code 40 = .ok (.iadd, 1) := by decide +kernel
theorem d_method_3_code_41 : decode method_3_code 41 = .ok (.baload, 1) := by decide +kernel
theorem d_method_3_code_42 : decode method_3_code 42 = .ok (.bipush 10, 2) := by decide +kernel
theorem d_method_3_code_44 : decode method_3_code 44 = .ok (.if_icmp .ne 7, 3) := by decide +kernel
theorem d_method_3_code_47 : decode method_3_code 47 = .ok (.iconst 1, 1) := by decide +kernel
theorem d_method_3_code_48 : decode method_3_code 48 = .ok (.goto 4, 3) := by decide +kernel
theorem d_method_3_code_52 : decode method_3_code 52 = .ok (.ireturn, 1) := by decide +kernel
theorem ef_ip (m : MethodId) (ra : Addr) (vf : Int32) (vr : Int32) (vi : Int32) : entryFrame m #[(.ref ra), (.int vf), (.int vr), (.int vi)] 4 = mkF m 0 #[.val (.ref ra), .val (.int vf), .val (.int vr), .val (.int vi)] [] := by first | (simp [entryFrame, mkF, argsToLocals, Value.category]; done) | rfl
def Q_ip (Z : State) (ra : Addr) (vf : Int32) (vr : Int32) (vi : Int32) (ka : ClassId) (bs : List Int32) (h0 : Heap) (n0 : Nat) (v : Option Value) (h : Heap) (L : List Loc) : Prop := (∃ z : Int32, v = some (.int z) ∧ (z = 1)) ∧ Fr n0 L ∧ h = h0
set_option maxRecDepth 65536 in
set_option maxHeartbeats 40000000 in
theorem rm_ip (l : Launch) (Z : State) (a0 : Array Value) (hw : ∀ d ∈ tables_1, d.before a0 Z = true) (ws : List Jvm.Cond) (ra : Addr) (vf : Int32) (vr : Int32) (vi : Int32) (ka : ClassId) (bs : List Int32) (h0 : Heap) (n0 : Nat) (Z0 : n0 ≤ h0.size) (Av : Arv Z h0 ra ka .byte 6 (bs.map Value.int) (.int 0)) (hi0 : 0 ≤ vi.toInt) (hi6 : vi.toInt < 6) (hr6 : vr.toInt ≤ 6) (hok : vf.toInt ≤ vi.toInt → vi.toInt < vr.toInt → own_ok bs vr vi) :
    MetFree l (⟨"com/example/rest_whiteboard/restwhiteboard/http/RequestHeadSkipEmptyLinesPinLaw", "inPrefix", "([BIII)Z"⟩ : MethodName) (head1 (Jvm.Cond.code (⟨"com/example/rest_whiteboard/restwhiteboard/http/RequestHeadSkipEmptyLinesPinLaw", "inPrefix", "([BIII)Z"⟩ : MethodName) method_3_code 4 (some .boolean) :: ws) ({ frames := 0, cells := 0, slots := 0, locals := 0 } : Room)) (fun a U => a = #[(.ref ra), (.int vf), (.int vr), (.int vi)] ∧ Z.Warmed39 U.vm ∧ U.heap = h0) (fun _ _ _ _ _ => True) (fun _ U o U' => ∃ v L, o = .returned v ∧ Q_ip Z ra vf vr vi ka bs h0 n0 v U'.heap L ∧ FrameEnd U o U' L ({ frames := 0, cells := 0, slots := 0, locals := 0 } : Room).cells ({ frames := 0, cells := 0, slots := 0, locals := 0 } : Room).slots) := by
  refine MetFree.of_bodySF (plainFor_of_name pn_0) hisR ?_
  intro p e s m args below meth c s₁ Bd hml0 hP hK
  obtain ⟨rfl, hZ, hh⟩ := hP
  have hx := Bd.exec
  have hby := Bd.bytes
  have hml : c.maxLocals = 4 := hml0
  have hown : s.vm.findClass "com/example/rest_whiteboard/restwhiteboard/http/RequestHeadSkipEmptyLinesPinLaw" = some m.cls := findClass_of_methodNamed Bd.named
  have hnm := (name_of_methodNamed Bd.named Bd.method).1
  have X0 : Stand p l e ({ frames := 0, cells := 0, slots := 0, locals := 0 } : Room) s m #[(.ref ra), (.int vf), (.int vr), (.int vi)] below meth c s₁ [] 0 0 := Stand.of_body Bd
  have e0 : s₁.heap = h0 := by rw [← hh, Bd.state]; rfl
  have N0 := Fr.nil n0
  have pre0 : ∀ t, Steps p.tables e below (s₁.setTop (mkF m 0 #[.val (.ref ra), .val (.int vf), .val (.int vr), .val (.int vi)] [])) t → Steps p.tables e below (s₁.setTop (entryFrame m #[(.ref ra), (.int vf), (.int vr), (.int vi)] 4)) t := fun t k => castTop (ef_ip m ra vf vr vi) k
  by_cases h2_3 : vi < vf
  · obtain ⟨fs, hr, hrun, hended, hW, hsame⟩ := X0.leave (v := some (.int (1 : Int32))) (fun h => by rw [Bd.returns] at h; cases h)
    refine ⟨_, _, pre0 _ ?_, hrun, hended, _, _, rfl, ?_, ⟨_, rfl⟩, hW, hsame.mono (by decide) (by decide)⟩
    · show Steps p.tables e below (s₁.setTop (mkF m 0 #[.val (.ref ra), .val (.int vf), .val (.int vr), .val (.int vi)] [])) _
      refine XS.iloadN X0.here hx rfl (hb hby d_method_3_code_0) rfl ?_
      show Steps p.tables e below (s₁.setTop (mkF m 1 #[.val (.ref ra), .val (.int vf), .val (.int vr), .val (.int vi)] [(.int vi)])) _
      refine XS.iloadN X0.here hx rfl (hb hby d_method_3_code_1) rfl ?_
      show Steps p.tables e below (s₁.setTop (mkF m 2 #[.val (.ref ra), .val (.int vf), .val (.int vr), .val (.int vi)] [(.int vf), (.int vi)])) _
      refine XS.icmpYes X0.here hx rfl (pc0 := 2) (pc' := 10) rfl (hb hby d_method_3_code_2) rfl (tlt h2_3).1 (by decide) (by decide) ?_
      show Steps p.tables e below (s₁.setTop (mkF m 10 #[.val (.ref ra), .val (.int vf), .val (.int vr), .val (.int vi)] [])) _
      refine XS.iconst X0.here hx rfl (hb hby d_method_3_code_10) ?_
      show Steps p.tables e below (s₁.setTop (mkF m 11 #[.val (.ref ra), .val (.int vf), .val (.int vr), .val (.int vi)] [(.int (1 : Int32))])) _
      exact retN X0 hx (t := .boolean) Bd.returns (by simp) (hb hby d_method_3_code_11) hr
    · show Q_ip Z ra vf vr vi ka bs h0 n0 _ s₁.heap _
      rw [e0]
      exact ⟨⟨_, rfl, rfl⟩, N0, rfl⟩
  · by_cases h7_4 : vi < vr
    · by_cases h17_6 : (own_B bs vi) = (10 : Int32)
      · obtain ⟨fs, hr, hrun, hended, hW, hsame⟩ := X0.leave (v := some (.int (1 : Int32))) (fun h => by rw [Bd.returns] at h; cases h)
        refine ⟨_, _, pre0 _ ?_, hrun, hended, _, _, rfl, ?_, ⟨_, rfl⟩, hW, hsame.mono (by decide) (by decide)⟩
        · show Steps p.tables e below (s₁.setTop (mkF m 0 #[.val (.ref ra), .val (.int vf), .val (.int vr), .val (.int vi)] [])) _
          refine XS.iloadN X0.here hx rfl (hb hby d_method_3_code_0) rfl ?_
          show Steps p.tables e below (s₁.setTop (mkF m 1 #[.val (.ref ra), .val (.int vf), .val (.int vr), .val (.int vi)] [(.int vi)])) _
          refine XS.iloadN X0.here hx rfl (hb hby d_method_3_code_1) rfl ?_
          show Steps p.tables e below (s₁.setTop (mkF m 2 #[.val (.ref ra), .val (.int vf), .val (.int vr), .val (.int vi)] [(.int vf), (.int vi)])) _
          refine XS.icmpNo X0.here hx rfl (hb hby d_method_3_code_2) rfl (flt h2_3).1 ?_
          show Steps p.tables e below (s₁.setTop (mkF m 5 #[.val (.ref ra), .val (.int vf), .val (.int vr), .val (.int vi)] [])) _
          refine XS.iloadN X0.here hx rfl (hb hby d_method_3_code_5) rfl ?_
          show Steps p.tables e below (s₁.setTop (mkF m 6 #[.val (.ref ra), .val (.int vf), .val (.int vr), .val (.int vi)] [(.int vi)])) _
          refine XS.iloadN X0.here hx rfl (hb hby d_method_3_code_6) rfl ?_
          show Steps p.tables e below (s₁.setTop (mkF m 7 #[.val (.ref ra), .val (.int vf), .val (.int vr), .val (.int vi)] [(.int vr), (.int vi)])) _
          refine XS.icmpYes X0.here hx rfl (pc0 := 7) (pc' := 12) rfl (hb hby d_method_3_code_7) rfl (tlt h7_4).1 (by decide) (by decide) ?_
          show Steps p.tables e below (s₁.setTop (mkF m 12 #[.val (.ref ra), .val (.int vf), .val (.int vr), .val (.int vi)] [])) _
          refine XS.aloadN X0.here hx rfl (hb hby d_method_3_code_12) rfl rfl ?_
          show Steps p.tables e below (s₁.setTop (mkF m 13 #[.val (.ref ra), .val (.int vf), .val (.int vr), .val (.int vi)] [(.ref ra)])) _
          refine XS.iloadN X0.here hx rfl (hb hby d_method_3_code_13) rfl ?_
          show Steps p.tables e below (s₁.setTop (mkF m 14 #[.val (.ref ra), .val (.int vf), .val (.int vr), .val (.int vi)] [(.int vi), (.ref ra)])) _
          obtain ⟨cl5, Ar5, q5, S5, N5a, H5, G5⟩ := id Av
          have hin5 : ¬ (vi < 0 ∨ cl5.slots.size ≤ (vi).toNatClampNeg) := inb_of S5 (own_idx _ hi0 (by rw [own_lt] at h7_4; omega))
          have hat5 : cl5.slots[(vi).toNatClampNeg]? = some (.int (own_B bs vi)) := H5.at hin5 (own_getD bs _)
          refine X0.baloadBytes hx (j := vi) (v := (.int (own_B bs vi))) (by rw [e0]; exact Ar5.1) (State.isArrayOf_alike hZ.alike Ar5.2.1) Ar5.2.2 hin5 hat5 (g := (mkF m 14 #[.val (.ref ra), .val (.int vf), .val (.int vr), .val (.int vi)] [(.int vi), (.ref ra)])) rfl rfl (hb hby d_method_3_code_14) _ ?_
          show Steps p.tables e below (s₁.setTop (mkF m 15 #[.val (.ref ra), .val (.int vf), .val (.int vr), .val (.int vi)] [(.int (own_B bs vi))])) _
          refine XS.bipush X0.here hx rfl (hb hby d_method_3_code_15) ?_
          show Steps p.tables e below (s₁.setTop (mkF m 17 #[.val (.ref ra), .val (.int vf), .val (.int vr), .val (.int vi)] [(.int (10 : Int32)), (.int (own_B bs vi))])) _
          refine XS.icmpNo X0.here hx rfl (hb hby d_method_3_code_17) rfl (teq h17_6).2 ?_
          show Steps p.tables e below (s₁.setTop (mkF m 20 #[.val (.ref ra), .val (.int vf), .val (.int vr), .val (.int vi)] [])) _
          refine XS.iconst X0.here hx rfl (hb hby d_method_3_code_20) ?_
          show Steps p.tables e below (s₁.setTop (mkF m 21 #[.val (.ref ra), .val (.int vf), .val (.int vr), .val (.int vi)] [(.int (1 : Int32))])) _
          exact retN X0 hx (t := .boolean) Bd.returns (by simp) (hb hby d_method_3_code_21) hr
        · show Q_ip Z ra vf vr vi ka bs h0 n0 _ s₁.heap _
          rw [e0]
          exact ⟨⟨_, rfl, rfl⟩, N0, rfl⟩
      · obtain ⟨fs, hr, hrun, hended, hW, hsame⟩ := X0.leave (v := some (.int (1 : Int32))) (fun h => by rw [Bd.returns] at h; cases h)
        refine ⟨_, _, pre0 _ ?_, hrun, hended, _, _, rfl, ?_, ⟨_, rfl⟩, hW, hsame.mono (by decide) (by decide)⟩
        · show Steps p.tables e below (s₁.setTop (mkF m 0 #[.val (.ref ra), .val (.int vf), .val (.int vr), .val (.int vi)] [])) _
          refine XS.iloadN X0.here hx rfl (hb hby d_method_3_code_0) rfl ?_
          show Steps p.tables e below (s₁.setTop (mkF m 1 #[.val (.ref ra), .val (.int vf), .val (.int vr), .val (.int vi)] [(.int vi)])) _
          refine XS.iloadN X0.here hx rfl (hb hby d_method_3_code_1) rfl ?_
          show Steps p.tables e below (s₁.setTop (mkF m 2 #[.val (.ref ra), .val (.int vf), .val (.int vr), .val (.int vi)] [(.int vf), (.int vi)])) _
          refine XS.icmpNo X0.here hx rfl (hb hby d_method_3_code_2) rfl (flt h2_3).1 ?_
          show Steps p.tables e below (s₁.setTop (mkF m 5 #[.val (.ref ra), .val (.int vf), .val (.int vr), .val (.int vi)] [])) _
          refine XS.iloadN X0.here hx rfl (hb hby d_method_3_code_5) rfl ?_
          show Steps p.tables e below (s₁.setTop (mkF m 6 #[.val (.ref ra), .val (.int vf), .val (.int vr), .val (.int vi)] [(.int vi)])) _
          refine XS.iloadN X0.here hx rfl (hb hby d_method_3_code_6) rfl ?_
          show Steps p.tables e below (s₁.setTop (mkF m 7 #[.val (.ref ra), .val (.int vf), .val (.int vr), .val (.int vi)] [(.int vr), (.int vi)])) _
          refine XS.icmpYes X0.here hx rfl (pc0 := 7) (pc' := 12) rfl (hb hby d_method_3_code_7) rfl (tlt h7_4).1 (by decide) (by decide) ?_
          show Steps p.tables e below (s₁.setTop (mkF m 12 #[.val (.ref ra), .val (.int vf), .val (.int vr), .val (.int vi)] [])) _
          refine XS.aloadN X0.here hx rfl (hb hby d_method_3_code_12) rfl rfl ?_
          show Steps p.tables e below (s₁.setTop (mkF m 13 #[.val (.ref ra), .val (.int vf), .val (.int vr), .val (.int vi)] [(.ref ra)])) _
          refine XS.iloadN X0.here hx rfl (hb hby d_method_3_code_13) rfl ?_
          show Steps p.tables e below (s₁.setTop (mkF m 14 #[.val (.ref ra), .val (.int vf), .val (.int vr), .val (.int vi)] [(.int vi), (.ref ra)])) _
          obtain ⟨cl5, Ar5, q5, S5, N5a, H5, G5⟩ := id Av
          have hin5 : ¬ (vi < 0 ∨ cl5.slots.size ≤ (vi).toNatClampNeg) := inb_of S5 (own_idx _ hi0 (by rw [own_lt] at h7_4; omega))
          have hat5 : cl5.slots[(vi).toNatClampNeg]? = some (.int (own_B bs vi)) := H5.at hin5 (own_getD bs _)
          refine X0.baloadBytes hx (j := vi) (v := (.int (own_B bs vi))) (by rw [e0]; exact Ar5.1) (State.isArrayOf_alike hZ.alike Ar5.2.1) Ar5.2.2 hin5 hat5 (g := (mkF m 14 #[.val (.ref ra), .val (.int vf), .val (.int vr), .val (.int vi)] [(.int vi), (.ref ra)])) rfl rfl (hb hby d_method_3_code_14) _ ?_
          show Steps p.tables e below (s₁.setTop (mkF m 15 #[.val (.ref ra), .val (.int vf), .val (.int vr), .val (.int vi)] [(.int (own_B bs vi))])) _
          refine XS.bipush X0.here hx rfl (hb hby d_method_3_code_15) ?_
          show Steps p.tables e below (s₁.setTop (mkF m 17 #[.val (.ref ra), .val (.int vf), .val (.int vr), .val (.int vi)] [(.int (10 : Int32)), (.int (own_B bs vi))])) _
          refine XS.icmpYes X0.here hx rfl (pc0 := 17) (pc' := 22) rfl (hb hby d_method_3_code_17) rfl (feq h17_6).2 (by decide) (by decide) ?_
          show Steps p.tables e below (s₁.setTop (mkF m 22 #[.val (.ref ra), .val (.int vf), .val (.int vr), .val (.int vi)] [])) _
          refine XS.aloadN X0.here hx rfl (hb hby d_method_3_code_22) rfl rfl ?_
          show Steps p.tables e below (s₁.setTop (mkF m 23 #[.val (.ref ra), .val (.int vf), .val (.int vr), .val (.int vi)] [(.ref ra)])) _
          refine XS.iloadN X0.here hx rfl (hb hby d_method_3_code_23) rfl ?_
          show Steps p.tables e below (s₁.setTop (mkF m 24 #[.val (.ref ra), .val (.int vf), .val (.int vr), .val (.int vi)] [(.int vi), (.ref ra)])) _
          obtain ⟨cl7, Ar7, q7, S7, N7a, H7, G7⟩ := id Av
          have hin7 : ¬ (vi < 0 ∨ cl7.slots.size ≤ (vi).toNatClampNeg) := inb_of S7 (own_idx _ hi0 (by rw [own_lt] at h7_4; omega))
          have hat7 : cl7.slots[(vi).toNatClampNeg]? = some (.int (own_B bs vi)) := H7.at hin7 (own_getD bs _)
          refine X0.baloadBytes hx (j := vi) (v := (.int (own_B bs vi))) (by rw [e0]; exact Ar7.1) (State.isArrayOf_alike hZ.alike Ar7.2.1) Ar7.2.2 hin7 hat7 (g := (mkF m 24 #[.val (.ref ra), .val (.int vf), .val (.int vr), .val (.int vi)] [(.int vi), (.ref ra)])) rfl rfl (hb hby d_method_3_code_24) _ ?_
          show Steps p.tables e below (s₁.setTop (mkF m 25 #[.val (.ref ra), .val (.int vf), .val (.int vr), .val (.int vi)] [(.int (own_B bs vi))])) _
          refine XS.bipush X0.here hx rfl (hb hby d_method_3_code_25) ?_
          show Steps p.tables e below (s₁.setTop (mkF m 27 #[.val (.ref ra), .val (.int vf), .val (.int vr), .val (.int vi)] [(.int (13 : Int32)), (.int (own_B bs vi))])) _
          refine XS.icmpNo X0.here hx rfl (hb hby d_method_3_code_27) rfl (teq (((hok (by rw [own_lt] at h2_3; omega) (by rw [own_lt] at h7_4; omega)).resolve_left h17_6).1 : (own_B bs vi) = (13 : Int32))).2 ?_
          show Steps p.tables e below (s₁.setTop (mkF m 30 #[.val (.ref ra), .val (.int vf), .val (.int vr), .val (.int vi)] [])) _
          refine XS.iloadN X0.here hx rfl (hb hby d_method_3_code_30) rfl ?_
          show Steps p.tables e below (s₁.setTop (mkF m 31 #[.val (.ref ra), .val (.int vf), .val (.int vr), .val (.int vi)] [(.int vi)])) _
          refine XS.iconst X0.here hx rfl (hb hby d_method_3_code_31) ?_
          show Steps p.tables e below (s₁.setTop (mkF m 32 #[.val (.ref ra), .val (.int vf), .val (.int vr), .val (.int vi)] [(.int (1 : Int32)), (.int vi)])) _
          refine XS.iadd X0.here hx rfl (hb hby d_method_3_code_32) rfl ?_
          show Steps p.tables e below (s₁.setTop (mkF m 33 #[.val (.ref ra), .val (.int vf), .val (.int vr), .val (.int vi)] [(.int (vi + (1 : Int32)))])) _
          refine XS.iloadN X0.here hx rfl (hb hby d_method_3_code_33) rfl ?_
          show Steps p.tables e below (s₁.setTop (mkF m 34 #[.val (.ref ra), .val (.int vf), .val (.int vr), .val (.int vi)] [(.int vr), (.int (vi + (1 : Int32)))])) _
          refine XS.icmpNo X0.here hx rfl (hb hby d_method_3_code_34) rfl (tlt (by rw [own_lt]; exact ((hok (by rw [own_lt] at h2_3; omega) (by rw [own_lt] at h7_4; omega)).resolve_left h17_6).2.1 : (vi + (1 : Int32)) < vr)).2.1 ?_
          show Steps p.tables e below (s₁.setTop (mkF m 37 #[.val (.ref ra), .val (.int vf), .val (.int vr), .val (.int vi)] [])) _
          refine XS.aloadN X0.here hx rfl (hb hby d_method_3_code_37) rfl rfl ?_
          show Steps p.tables e below (s₁.setTop (mkF m 38 #[.val (.ref ra), .val (.int vf), .val (.int vr), .val (.int vi)] [(.ref ra)])) _
          refine XS.iloadN X0.here hx rfl (hb hby d_method_3_code_38) rfl ?_
          show Steps p.tables e below (s₁.setTop (mkF m 39 #[.val (.ref ra), .val (.int vf), .val (.int vr), .val (.int vi)] [(.int vi), (.ref ra)])) _
          refine XS.iconst X0.here hx rfl (hb hby d_method_3_code_39) ?_
          show Steps p.tables e below (s₁.setTop (mkF m 40 #[.val (.ref ra), .val (.int vf), .val (.int vr), .val (.int vi)] [(.int (1 : Int32)), (.int vi), (.ref ra)])) _
          refine XS.iadd X0.here hx rfl (hb hby d_method_3_code_40) rfl ?_
          show Steps p.tables e below (s₁.setTop (mkF m 41 #[.val (.ref ra), .val (.int vf), .val (.int vr), .val (.int vi)] [(.int (vi + (1 : Int32))), (.ref ra)])) _
          obtain ⟨cl8, Ar8, q8, S8, N8a, H8, G8⟩ := id Av
          have hin8 : ¬ ((vi + (1 : Int32)) < 0 ∨ cl8.slots.size ≤ ((vi + (1 : Int32))).toNatClampNeg) := inb_of S8 (own_idx _ (by rw [own_inc _ 1 (by decide) (by omega) hi0, show (1 : Int32).toInt = 1 from by decide]; omega) (by have := ((hok (by rw [own_lt] at h2_3; omega) (by rw [own_lt] at h7_4; omega)).resolve_left h17_6).2.1; omega))
          have hat8 : cl8.slots[((vi + (1 : Int32))).toNatClampNeg]? = some (.int (own_B bs (vi + (1 : Int32)))) := H8.at hin8 (own_getD bs _)
          refine X0.baloadBytes hx (j := (vi + (1 : Int32))) (v := (.int (own_B bs (vi + (1 : Int32))))) (by rw [e0]; exact Ar8.1) (State.isArrayOf_alike hZ.alike Ar8.2.1) Ar8.2.2 hin8 hat8 (g := (mkF m 41 #[.val (.ref ra), .val (.int vf), .val (.int vr), .val (.int vi)] [(.int (vi + (1 : Int32))), (.ref ra)])) rfl rfl (hb hby d_method_3_code_41) _ ?_
          show Steps p.tables e below (s₁.setTop (mkF m 42 #[.val (.ref ra), .val (.int vf), .val (.int vr), .val (.int vi)] [(.int (own_B bs (vi + (1 : Int32))))])) _
          refine XS.bipush X0.here hx rfl (hb hby d_method_3_code_42) ?_
          show Steps p.tables e below (s₁.setTop (mkF m 44 #[.val (.ref ra), .val (.int vf), .val (.int vr), .val (.int vi)] [(.int (10 : Int32)), (.int (own_B bs (vi + (1 : Int32))))])) _
          refine XS.icmpNo X0.here hx rfl (hb hby d_method_3_code_44) rfl (teq (((hok (by rw [own_lt] at h2_3; omega) (by rw [own_lt] at h7_4; omega)).resolve_left h17_6).2.2 : (own_B bs (vi + (1 : Int32))) = (10 : Int32))).2 ?_
          show Steps p.tables e below (s₁.setTop (mkF m 47 #[.val (.ref ra), .val (.int vf), .val (.int vr), .val (.int vi)] [])) _
          refine XS.iconst X0.here hx rfl (hb hby d_method_3_code_47) ?_
          show Steps p.tables e below (s₁.setTop (mkF m 48 #[.val (.ref ra), .val (.int vf), .val (.int vr), .val (.int vi)] [(.int (1 : Int32))])) _
          refine XS.goto X0.here hx rfl (pc0 := 48) (pc' := 52) rfl (hb hby d_method_3_code_48) (by decide) (by decide) ?_
          show Steps p.tables e below (s₁.setTop (mkF m 52 #[.val (.ref ra), .val (.int vf), .val (.int vr), .val (.int vi)] [(.int (1 : Int32))])) _
          exact retN X0 hx (t := .boolean) Bd.returns (by simp) (hb hby d_method_3_code_52) hr
        · show Q_ip Z ra vf vr vi ka bs h0 n0 _ s₁.heap _
          rw [e0]
          exact ⟨⟨_, rfl, rfl⟩, N0, rfl⟩
    · obtain ⟨fs, hr, hrun, hended, hW, hsame⟩ := X0.leave (v := some (.int (1 : Int32))) (fun h => by rw [Bd.returns] at h; cases h)
      refine ⟨_, _, pre0 _ ?_, hrun, hended, _, _, rfl, ?_, ⟨_, rfl⟩, hW, hsame.mono (by decide) (by decide)⟩
      · show Steps p.tables e below (s₁.setTop (mkF m 0 #[.val (.ref ra), .val (.int vf), .val (.int vr), .val (.int vi)] [])) _
        refine XS.iloadN X0.here hx rfl (hb hby d_method_3_code_0) rfl ?_
        show Steps p.tables e below (s₁.setTop (mkF m 1 #[.val (.ref ra), .val (.int vf), .val (.int vr), .val (.int vi)] [(.int vi)])) _
        refine XS.iloadN X0.here hx rfl (hb hby d_method_3_code_1) rfl ?_
        show Steps p.tables e below (s₁.setTop (mkF m 2 #[.val (.ref ra), .val (.int vf), .val (.int vr), .val (.int vi)] [(.int vf), (.int vi)])) _
        refine XS.icmpNo X0.here hx rfl (hb hby d_method_3_code_2) rfl (flt h2_3).1 ?_
        show Steps p.tables e below (s₁.setTop (mkF m 5 #[.val (.ref ra), .val (.int vf), .val (.int vr), .val (.int vi)] [])) _
        refine XS.iloadN X0.here hx rfl (hb hby d_method_3_code_5) rfl ?_
        show Steps p.tables e below (s₁.setTop (mkF m 6 #[.val (.ref ra), .val (.int vf), .val (.int vr), .val (.int vi)] [(.int vi)])) _
        refine XS.iloadN X0.here hx rfl (hb hby d_method_3_code_6) rfl ?_
        show Steps p.tables e below (s₁.setTop (mkF m 7 #[.val (.ref ra), .val (.int vf), .val (.int vr), .val (.int vi)] [(.int vr), (.int vi)])) _
        refine XS.icmpNo X0.here hx rfl (hb hby d_method_3_code_7) rfl (flt h7_4).1 ?_
        show Steps p.tables e below (s₁.setTop (mkF m 10 #[.val (.ref ra), .val (.int vf), .val (.int vr), .val (.int vi)] [])) _
        refine XS.iconst X0.here hx rfl (hb hby d_method_3_code_10) ?_
        show Steps p.tables e below (s₁.setTop (mkF m 11 #[.val (.ref ra), .val (.int vf), .val (.int vr), .val (.int vi)] [(.int (1 : Int32))])) _
        exact retN X0 hx (t := .boolean) Bd.returns (by simp) (hb hby d_method_3_code_11) hr
      · show Q_ip Z ra vf vr vi ka bs h0 n0 _ s₁.heap _
        rw [e0]
        exact ⟨⟨_, rfl, rfl⟩, N0, rfl⟩
theorem pn_1 : plainName "com/example/rest_whiteboard/restwhiteboard/http/RequestHead" = true := by first | (simp [plainName, overriddenIn]; done) | decide +kernel
theorem d_prog_20_method_5_code_2 : decode prog_20_method_5_code 2 = .ok (.iload_n 3, 1) := by decide +kernel
theorem d_prog_20_method_5_code_3 : decode prog_20_method_5_code 3 = .ok (.iload_n 2, 1) := by decide +kernel
theorem d_prog_20_method_5_code_4 : decode prog_20_method_5_code 4 = .ok (.if_icmp .ge 55, 3) := by decide +kernel
theorem d_prog_20_method_5_code_7 : decode prog_20_method_5_code 7 = .ok (.aload_n 0, 1) := by decide +kernel
theorem d_prog_20_method_5_code_8 : decode prog_20_method_5_code 8 = .ok (.iload_n 3, 1) := by decide +kernel
theorem d_prog_20_method_5_code_9 : decode prog_20_method_5_code 9 = .ok (.baload, 1) := by decide +kernel
theorem d_prog_20_method_5_code_10 : decode prog_20_method_5_code 10 = .ok (.bipush 10, 2) := by decide +kernel
theorem d_prog_20_method_5_code_12 : decode prog_20_method_5_code 12 = .ok (.if_icmp .eq 28, 3) := by decide +kernel
theorem d_prog_20_method_5_code_40 : decode prog_20_method_5_code 40 = .ok (.iload_n 3, 1) := by decide +kernel
theorem d_prog_20_method_5_code_41 : decode prog_20_method_5_code 41 = .ok (.aload_n 0, 1) := by decide +kernel
theorem d_prog_20_method_5_code_42 : decode prog_20_method_5_code 42 = .ok (.iload_n 3, 1) := by decide +kernel
theorem d_prog_20_method_5_code_43 : decode prog_20_method_5_code 43 = .ok (.baload, 1) := by decide +kernel
theorem d_prog_20_method_5_code_44 : decode prog_20_method_5_code 44 = .ok (.bipush 10, 2) := by decide +kernel
theorem d_prog_20_method_5_code_46 : decode prog_20_method_5_code 46 = .ok (.if_icmp .ne 7, 3) := by decide +kernel
theorem d_prog_20_method_5_code_49 : decode prog_20_method_5_code 49 = .ok (.iconst 1, 1) := by decide +kernel
theorem d_prog_20_method_5_code_50 : decode prog_20_method_5_code 50 = .ok (.goto 4, 3) := by decide +kernel
theorem d_prog_20_method_5_code_54 : decode prog_20_method_5_code 54 = .ok (.iadd, 1) := by decide +kernel
theorem d_prog_20_method_5_code_55 : decode prog_20_method_5_code 55 = .ok (.istore_n 3, 1) := by decide +kernel
theorem d_prog_20_method_5_code_56 : decode prog_20_method_5_code 56 = .ok (.goto (-54), 3) := by decide +kernel
theorem d_prog_20_method_5_code_15 : decode prog_20_method_5_code 15 = .ok (.aload_n 0, 1) := by decide +kernel
theorem d_prog_20_method_5_code_16 : decode prog_20_method_5_code 16 = .ok (.iload_n 3, 1) := by decide +kernel
theorem d_prog_20_method_5_code_17 : decode prog_20_method_5_code 17 = .ok (.baload, 1) := by decide +kernel
theorem d_prog_20_method_5_code_18 : decode prog_20_method_5_code 18 = .ok (.bipush 13, 2) := by decide +kernel
theorem d_prog_20_method_5_code_20 : decode prog_20_method_5_code 20 = .ok (.if_icmp .ne 39, 3) := by decide +kernel
theorem d_prog_20_method_5_code_23 : decode prog_20_method_5_code 23 = .ok (.iload_n 3, 1) := by decide +kernel
theorem d_prog_20_method_5_code_24 : decode prog_20_method_5_code 24 = .ok (.iconst 1, 1) := by decide +kernel
theorem d_prog_20_method_5_code_25 : decode prog_20_method_5_code 25 = .ok (.iadd, 1) := by decide +kernel
theorem d_prog_20_method_5_code_26 : decode prog_20_method_5_code 26 = .ok (.iload_n 2, 1) := by decide +kernel
theorem d_prog_20_method_5_code_27 : decode prog_20_method_5_code 27 = .ok (.if_icmp .ge 32, 3) := by decide +kernel
theorem d_prog_20_method_5_code_30 : decode prog_20_method_5_code 30 = .ok (.aload_n 0, 1) := by decide +kernel
theorem d_prog_20_method_5_code_31 : decode prog_20_method_5_code 31 = .ok (.iload_n 3, 1) := by decide +kernel
theorem d_prog_20_method_5_code_32 : decode prog_20_method_5_code 32 = .ok (.iconst 1, 1) := by decide +kernel
theorem d_prog_20_method_5_code_33 : decode prog_20_method_5_code 33 = .ok (.iadd, 1) := by decide +kernel
theorem d_prog_20_method_5_code_34 : decode prog_20_method_5_code 34 = .ok (.baload, 1) := by decide +kernel
theorem d_prog_20_method_5_code_35 : decode prog_20_method_5_code 35 = .ok (.bipush 10, 2) := by decide +kernel
theorem d_prog_20_method_5_code_37 : decode prog_20_method_5_code 37 = .ok (.if_icmp .ne 22, 3) := by decide +kernel
theorem d_prog_20_method_5_code_53 : decode prog_20_method_5_code 53 = .ok (.iconst 2, 1) := by decide +kernel
theorem d_prog_20_method_5_code_0 : decode prog_20_method_5_code 0 = .ok (.iload_n 1, 1) := by decide +kernel
theorem d_prog_20_method_5_code_1 : decode prog_20_method_5_code 1 = .ok (.istore_n 3, 1) := by decide +kernel
theorem d_prog_20_method_5_code_59 : decode prog_20_method_5_code 59 = .ok (.iload_n 3, 1) := by decide +kernel
theorem d_prog_20_method_5_code_60 : decode prog_20_method_5_code 60 = .ok (.ireturn, 1) := by decide +kernel
theorem ef_sk (m : MethodId) (ra : Addr) (vf : Int32) (vt : Int32) : entryFrame m #[(.ref ra), (.int vf), (.int vt)] 4 = mkF m 0 #[.val (.ref ra), .val (.int vf), .val (.int vt), .unset] [] := by first | (simp [entryFrame, mkF, argsToLocals, Value.category]; done) | rfl
def Q_sk (Z : State) (ra : Addr) (vf : Int32) (vt : Int32) (ka : ClassId) (bs : List Int32) (h0 : Heap) (n0 : Nat) (v : Option Value) (h : Heap) (L : List Loc) : Prop := (∃ z : Int32, v = some (.int z) ∧ (own_P bs vf vt z)) ∧ Fr n0 L ∧ h = h0
set_option maxRecDepth 65536 in
set_option maxHeartbeats 40000000 in
theorem rm_sk (l : Launch) (Z : State) (a0 : Array Value) (hw : ∀ d ∈ tables_1, d.before a0 Z = true) (ws : List Jvm.Cond) (ra : Addr) (vf : Int32) (vt : Int32) (ka : ClassId) (bs : List Int32) (h0 : Heap) (n0 : Nat) (Z0 : n0 ≤ h0.size) (Av : Arv Z h0 ra ka .byte 6 (bs.map Value.int) (.int 0)) (hf0 : 0 ≤ vf.toInt) (hf6 : vf.toInt ≤ 6) (ht0 : 0 ≤ vt.toInt) (ht6 : vt.toInt ≤ 6) :
    MetFree l (⟨"com/example/rest_whiteboard/restwhiteboard/http/RequestHead", "skipEmptyLines", "([BII)I"⟩ : MethodName) (head1 (Jvm.Cond.code (⟨"com/example/rest_whiteboard/restwhiteboard/http/RequestHead", "skipEmptyLines", "([BII)I"⟩ : MethodName) prog_20_method_5_code 4 (some .int) :: ws) ({ frames := 0, cells := 0, slots := 0, locals := 0 } : Room)) (fun a U => a = #[(.ref ra), (.int vf), (.int vt)] ∧ Z.Warmed39 U.vm ∧ U.heap = h0) (fun _ _ _ _ _ => True) (fun _ U o U' => ∃ v L, o = .returned v ∧ Q_sk Z ra vf vt ka bs h0 n0 v U'.heap L ∧ FrameEnd U o U' L ({ frames := 0, cells := 0, slots := 0, locals := 0 } : Room).cells ({ frames := 0, cells := 0, slots := 0, locals := 0 } : Room).slots) := by
  refine MetFree.of_bodySF (plainFor_of_name pn_1) hisR ?_
  intro p e s m args below meth c s₁ Bd hml0 hP hK
  obtain ⟨rfl, hZ, hh⟩ := hP
  have hx := Bd.exec
  have hby := Bd.bytes
  have hml : c.maxLocals = 4 := hml0
  have hown : s.vm.findClass "com/example/rest_whiteboard/restwhiteboard/http/RequestHead" = some m.cls := findClass_of_methodNamed Bd.named
  have hnm := (name_of_methodNamed Bd.named Bd.method).1
  have X0 : Stand p l e ({ frames := 0, cells := 0, slots := 0, locals := 0 } : Room) s m #[(.ref ra), (.int vf), (.int vt)] below meth c s₁ [] 0 0 := Stand.of_body Bd
  have e0 : s₁.heap = h0 := by rw [← hh, Bd.state]; rfl
  have N0 := Fr.nil n0
  have pre0 : ∀ t, Steps p.tables e below (s₁.setTop (mkF m 0 #[.val (.ref ra), .val (.int vf), .val (.int vt), .unset] [])) t → Steps p.tables e below (s₁.setTop (entryFrame m #[(.ref ra), (.int vf), (.int vt)] 4)) t := fun t k => castTop (ef_sk m ra vf vt) k
  have loop : ∀ (n : Nat) (vi : Int32), vt.toInt - vi.toInt ≤ n → vf.toInt ≤ vi.toInt → (vf.toInt < vt.toInt → vi.toInt ≤ vt.toInt) → (¬ vf.toInt < vt.toInt → vi = vf) → (∀ j : Int32, vf.toInt ≤ j.toInt → j.toInt < vi.toInt → own_ok bs vi j) →
      ∃ z : Int32, own_P bs vf vt z ∧ ∀ t, Steps p.tables e below (s₁.setTop (mkF m 59 #[.val (.ref ra), .val (.int vf), .val (.int vt), .val (.int z)] [])) t → Steps p.tables e below (s₁.setTop (mkF m 2 #[.val (.ref ra), .val (.int vf), .val (.int vt), .val (.int vi)] [])) t := by
    intro n
    induction n with
    | zero =>
      intro vi h1 h2 h3 h3' h4
      have hge : ¬ vi < vt := by rw [own_lt]; omega
      have hP : own_P bs vf vt vi := ⟨h3', fun q => ⟨h2, h3 q, h4, Or.inl (Int32.toInt_inj.mp (by have := h3 q; omega))⟩⟩
      refine ⟨vi, hP, fun t kt => ?_⟩
      show Steps p.tables e below (s₁.setTop (mkF m 2 #[.val (.ref ra), .val (.int vf), .val (.int vt), .val (.int vi)] [])) _
      refine XS.iloadN X0.here hx rfl (hb hby d_prog_20_method_5_code_2) rfl ?_
      show Steps p.tables e below (s₁.setTop (mkF m 3 #[.val (.ref ra), .val (.int vf), .val (.int vt), .val (.int vi)] [(.int vi)])) _
      refine XS.iloadN X0.here hx rfl (hb hby d_prog_20_method_5_code_3) rfl ?_
      show Steps p.tables e below (s₁.setTop (mkF m 4 #[.val (.ref ra), .val (.int vf), .val (.int vt), .val (.int vi)] [(.int vt), (.int vi)])) _
      refine XS.icmpYes X0.here hx rfl (pc0 := 4) (pc' := 59) rfl (hb hby d_prog_20_method_5_code_4) rfl (flt (hge : ¬ (vi < vt))).2.1 (by decide) (by decide) ?_
      exact kt
    | succ n ih =>
      intro vi h1 h2 h3 h3' h4
      by_cases hlt : vi < vt
      · have hlt' := (own_lt _ _).mp hlt
        have hft : vf.toInt < vt.toInt := by omega
        have e1 : (1 : Int32).toInt = 1 := by decide
        have e2 : (2 : Int32).toInt = 2 := by decide
        have i1 := own_inc vi 1 (by decide) (by omega) (by omega)
        have i2 := own_inc vi 2 (by decide) (by omega) (by omega)
        rw [e1] at i1
        rw [e2] at i2
        by_cases c10 : own_B bs vi = 10
        · have hnew1 : ∀ j : Int32, vf.toInt ≤ j.toInt → j.toInt < (vi + (1 : Int32)).toInt → own_ok bs (vi + (1 : Int32)) j := fun j q1 q2 => by
            by_cases q : j.toInt < vi.toInt
            · exact own_mono bs vi _ j (by omega) (h4 j q1 q)
            · have : j = vi := Int32.toInt_inj.mp (by omega)
              subst this; exact Or.inl c10
          obtain ⟨z, hz, st⟩ := ih (vi + (1 : Int32)) (by omega) (by omega) (fun _ => by omega) (fun q => absurd hft q) (fun j q1 q2 => hnew1 j q1 q2)
          refine ⟨z, hz, fun t kt => ?_⟩
          show Steps p.tables e below (s₁.setTop (mkF m 2 #[.val (.ref ra), .val (.int vf), .val (.int vt), .val (.int vi)] [])) _
          refine XS.iloadN X0.here hx rfl (hb hby d_prog_20_method_5_code_2) rfl ?_
          show Steps p.tables e below (s₁.setTop (mkF m 3 #[.val (.ref ra), .val (.int vf), .val (.int vt), .val (.int vi)] [(.int vi)])) _
          refine XS.iloadN X0.here hx rfl (hb hby d_prog_20_method_5_code_3) rfl ?_
          show Steps p.tables e below (s₁.setTop (mkF m 4 #[.val (.ref ra), .val (.int vf), .val (.int vt), .val (.int vi)] [(.int vt), (.int vi)])) _
          refine XS.icmpNo X0.here hx rfl (hb hby d_prog_20_method_5_code_4) rfl (tlt (hlt : vi < vt)).2.1 ?_
          show Steps p.tables e below (s₁.setTop (mkF m 7 #[.val (.ref ra), .val (.int vf), .val (.int vt), .val (.int vi)] [])) _
          refine XS.aloadN X0.here hx rfl (hb hby d_prog_20_method_5_code_7) rfl rfl ?_
          show Steps p.tables e below (s₁.setTop (mkF m 8 #[.val (.ref ra), .val (.int vf), .val (.int vt), .val (.int vi)] [(.ref ra)])) _
          refine XS.iloadN X0.here hx rfl (hb hby d_prog_20_method_5_code_8) rfl ?_
          show Steps p.tables e below (s₁.setTop (mkF m 9 #[.val (.ref ra), .val (.int vf), .val (.int vt), .val (.int vi)] [(.int vi), (.ref ra)])) _
          obtain ⟨cl9, Ar9, q9, S9, N9a, H9, G9⟩ := id Av
          have hin9 : ¬ (vi < 0 ∨ cl9.slots.size ≤ (vi).toNatClampNeg) := inb_of S9 (own_idx _ (by omega) (by omega))
          have hat9 : cl9.slots[(vi).toNatClampNeg]? = some (.int (own_B bs vi)) := H9.at hin9 (own_getD bs _)
          refine X0.baloadBytes hx (j := vi) (v := (.int (own_B bs vi))) (by rw [e0]; exact Ar9.1) (State.isArrayOf_alike hZ.alike Ar9.2.1) Ar9.2.2 hin9 hat9 (g := (mkF m 9 #[.val (.ref ra), .val (.int vf), .val (.int vt), .val (.int vi)] [(.int vi), (.ref ra)])) rfl rfl (hb hby d_prog_20_method_5_code_9) _ ?_
          show Steps p.tables e below (s₁.setTop (mkF m 10 #[.val (.ref ra), .val (.int vf), .val (.int vt), .val (.int vi)] [(.int (own_B bs vi))])) _
          refine XS.bipush X0.here hx rfl (hb hby d_prog_20_method_5_code_10) ?_
          show Steps p.tables e below (s₁.setTop (mkF m 12 #[.val (.ref ra), .val (.int vf), .val (.int vt), .val (.int vi)] [(.int (10 : Int32)), (.int (own_B bs vi))])) _
          refine XS.icmpYes X0.here hx rfl (pc0 := 12) (pc' := 40) rfl (hb hby d_prog_20_method_5_code_12) rfl (teq (c10 : (own_B bs vi) = (10 : Int32))).1 (by decide) (by decide) ?_
          show Steps p.tables e below (s₁.setTop (mkF m 40 #[.val (.ref ra), .val (.int vf), .val (.int vt), .val (.int vi)] [])) _
          refine XS.iloadN X0.here hx rfl (hb hby d_prog_20_method_5_code_40) rfl ?_
          show Steps p.tables e below (s₁.setTop (mkF m 41 #[.val (.ref ra), .val (.int vf), .val (.int vt), .val (.int vi)] [(.int vi)])) _
          refine XS.aloadN X0.here hx rfl (hb hby d_prog_20_method_5_code_41) rfl rfl ?_
          show Steps p.tables e below (s₁.setTop (mkF m 42 #[.val (.ref ra), .val (.int vf), .val (.int vt), .val (.int vi)] [(.ref ra), (.int vi)])) _
          refine XS.iloadN X0.here hx rfl (hb hby d_prog_20_method_5_code_42) rfl ?_
          show Steps p.tables e below (s₁.setTop (mkF m 43 #[.val (.ref ra), .val (.int vf), .val (.int vt), .val (.int vi)] [(.int vi), (.ref ra), (.int vi)])) _
          obtain ⟨cl10, Ar10, q10, S10, N10a, H10, G10⟩ := id Av
          have hin10 : ¬ (vi < 0 ∨ cl10.slots.size ≤ (vi).toNatClampNeg) := inb_of S10 (own_idx _ (by omega) (by omega))
          have hat10 : cl10.slots[(vi).toNatClampNeg]? = some (.int (own_B bs vi)) := H10.at hin10 (own_getD bs _)
          refine X0.baloadBytes hx (j := vi) (v := (.int (own_B bs vi))) (by rw [e0]; exact Ar10.1) (State.isArrayOf_alike hZ.alike Ar10.2.1) Ar10.2.2 hin10 hat10 (g := (mkF m 43 #[.val (.ref ra), .val (.int vf), .val (.int vt), .val (.int vi)] [(.int vi), (.ref ra), (.int vi)])) rfl rfl (hb hby d_prog_20_method_5_code_43) _ ?_
          show Steps p.tables e below (s₁.setTop (mkF m 44 #[.val (.ref ra), .val (.int vf), .val (.int vt), .val (.int vi)] [(.int (own_B bs vi)), (.int vi)])) _
          refine XS.bipush X0.here hx rfl (hb hby d_prog_20_method_5_code_44) ?_
          show Steps p.tables e below (s₁.setTop (mkF m 46 #[.val (.ref ra), .val (.int vf), .val (.int vt), .val (.int vi)] [(.int (10 : Int32)), (.int (own_B bs vi)), (.int vi)])) _
          refine XS.icmpNo X0.here hx rfl (hb hby d_prog_20_method_5_code_46) rfl (teq (c10 : (own_B bs vi) = (10 : Int32))).2 ?_
          show Steps p.tables e below (s₁.setTop (mkF m 49 #[.val (.ref ra), .val (.int vf), .val (.int vt), .val (.int vi)] [(.int vi)])) _
          refine XS.iconst X0.here hx rfl (hb hby d_prog_20_method_5_code_49) ?_
          show Steps p.tables e below (s₁.setTop (mkF m 50 #[.val (.ref ra), .val (.int vf), .val (.int vt), .val (.int vi)] [(.int (1 : Int32)), (.int vi)])) _
          refine XS.goto X0.here hx rfl (pc0 := 50) (pc' := 54) rfl (hb hby d_prog_20_method_5_code_50) (by decide) (by decide) ?_
          show Steps p.tables e below (s₁.setTop (mkF m 54 #[.val (.ref ra), .val (.int vf), .val (.int vt), .val (.int vi)] [(.int (1 : Int32)), (.int vi)])) _
          refine XS.iadd X0.here hx rfl (hb hby d_prog_20_method_5_code_54) rfl ?_
          show Steps p.tables e below (s₁.setTop (mkF m 55 #[.val (.ref ra), .val (.int vf), .val (.int vt), .val (.int vi)] [(.int (vi + (1 : Int32)))])) _
          refine XS.istoreN X0.here hx rfl (hb hby d_prog_20_method_5_code_55) rfl (l' := #[.val (.ref ra), .val (.int vf), .val (.int vt), .val (.int (vi + (1 : Int32)))]) rfl ?_
          show Steps p.tables e below (s₁.setTop (mkF m 56 #[.val (.ref ra), .val (.int vf), .val (.int vt), .val (.int (vi + (1 : Int32)))] [])) _
          refine XS.goto X0.here hx rfl (pc0 := 56) (pc' := 2) rfl (hb hby d_prog_20_method_5_code_56) (by decide) (by decide) ?_
          exact st t kt
        · by_cases c13 : own_B bs vi = 13
          · by_cases cn : (vi + (1 : Int32)) < vt
            · have cn' := (own_lt _ _).mp cn
              by_cases c11 : own_B bs (vi + (1 : Int32)) = 10
              · have hnew2 : ∀ j : Int32, vf.toInt ≤ j.toInt → j.toInt < (vi + (2 : Int32)).toInt → own_ok bs (vi + (2 : Int32)) j := fun j q1 q2 => by
                  by_cases q : j.toInt < vi.toInt
                  · exact own_mono bs vi _ j (by omega) (h4 j q1 q)
                  · by_cases q' : j.toInt = vi.toInt
                    · have : j = vi := Int32.toInt_inj.mp q'
                      subst this; exact Or.inr ⟨c13, by omega, c11⟩
                    · have : j = vi + (1 : Int32) := Int32.toInt_inj.mp (by omega)
                      subst this; exact Or.inl c11
                obtain ⟨z, hz, st⟩ := ih (vi + (2 : Int32)) (by omega) (by omega) (fun _ => by omega) (fun q => absurd hft q) (fun j q1 q2 => hnew2 j q1 q2)
                refine ⟨z, hz, fun t kt => ?_⟩
                show Steps p.tables e below (s₁.setTop (mkF m 2 #[.val (.ref ra), .val (.int vf), .val (.int vt), .val (.int vi)] [])) _
                refine XS.iloadN X0.here hx rfl (hb hby d_prog_20_method_5_code_2) rfl ?_
                show Steps p.tables e below (s₁.setTop (mkF m 3 #[.val (.ref ra), .val (.int vf), .val (.int vt), .val (.int vi)] [(.int vi)])) _
                refine XS.iloadN X0.here hx rfl (hb hby d_prog_20_method_5_code_3) rfl ?_
                show Steps p.tables e below (s₁.setTop (mkF m 4 #[.val (.ref ra), .val (.int vf), .val (.int vt), .val (.int vi)] [(.int vt), (.int vi)])) _
                refine XS.icmpNo X0.here hx rfl (hb hby d_prog_20_method_5_code_4) rfl (tlt (hlt : vi < vt)).2.1 ?_
                show Steps p.tables e below (s₁.setTop (mkF m 7 #[.val (.ref ra), .val (.int vf), .val (.int vt), .val (.int vi)] [])) _
                refine XS.aloadN X0.here hx rfl (hb hby d_prog_20_method_5_code_7) rfl rfl ?_
                show Steps p.tables e below (s₁.setTop (mkF m 8 #[.val (.ref ra), .val (.int vf), .val (.int vt), .val (.int vi)] [(.ref ra)])) _
                refine XS.iloadN X0.here hx rfl (hb hby d_prog_20_method_5_code_8) rfl ?_
                show Steps p.tables e below (s₁.setTop (mkF m 9 #[.val (.ref ra), .val (.int vf), .val (.int vt), .val (.int vi)] [(.int vi), (.ref ra)])) _
                obtain ⟨cl11, Ar11, q11, S11, N11a, H11, G11⟩ := id Av
                have hin11 : ¬ (vi < 0 ∨ cl11.slots.size ≤ (vi).toNatClampNeg) := inb_of S11 (own_idx _ (by omega) (by omega))
                have hat11 : cl11.slots[(vi).toNatClampNeg]? = some (.int (own_B bs vi)) := H11.at hin11 (own_getD bs _)
                refine X0.baloadBytes hx (j := vi) (v := (.int (own_B bs vi))) (by rw [e0]; exact Ar11.1) (State.isArrayOf_alike hZ.alike Ar11.2.1) Ar11.2.2 hin11 hat11 (g := (mkF m 9 #[.val (.ref ra), .val (.int vf), .val (.int vt), .val (.int vi)] [(.int vi), (.ref ra)])) rfl rfl (hb hby d_prog_20_method_5_code_9) _ ?_
                show Steps p.tables e below (s₁.setTop (mkF m 10 #[.val (.ref ra), .val (.int vf), .val (.int vt), .val (.int vi)] [(.int (own_B bs vi))])) _
                refine XS.bipush X0.here hx rfl (hb hby d_prog_20_method_5_code_10) ?_
                show Steps p.tables e below (s₁.setTop (mkF m 12 #[.val (.ref ra), .val (.int vf), .val (.int vt), .val (.int vi)] [(.int (10 : Int32)), (.int (own_B bs vi))])) _
                refine XS.icmpNo X0.here hx rfl (hb hby d_prog_20_method_5_code_12) rfl (feq (c10 : ¬ ((own_B bs vi) = (10 : Int32)))).1 ?_
                show Steps p.tables e below (s₁.setTop (mkF m 15 #[.val (.ref ra), .val (.int vf), .val (.int vt), .val (.int vi)] [])) _
                refine XS.aloadN X0.here hx rfl (hb hby d_prog_20_method_5_code_15) rfl rfl ?_
                show Steps p.tables e below (s₁.setTop (mkF m 16 #[.val (.ref ra), .val (.int vf), .val (.int vt), .val (.int vi)] [(.ref ra)])) _
                refine XS.iloadN X0.here hx rfl (hb hby d_prog_20_method_5_code_16) rfl ?_
                show Steps p.tables e below (s₁.setTop (mkF m 17 #[.val (.ref ra), .val (.int vf), .val (.int vt), .val (.int vi)] [(.int vi), (.ref ra)])) _
                obtain ⟨cl12, Ar12, q12, S12, N12a, H12, G12⟩ := id Av
                have hin12 : ¬ (vi < 0 ∨ cl12.slots.size ≤ (vi).toNatClampNeg) := inb_of S12 (own_idx _ (by omega) (by omega))
                have hat12 : cl12.slots[(vi).toNatClampNeg]? = some (.int (own_B bs vi)) := H12.at hin12 (own_getD bs _)
                refine X0.baloadBytes hx (j := vi) (v := (.int (own_B bs vi))) (by rw [e0]; exact Ar12.1) (State.isArrayOf_alike hZ.alike Ar12.2.1) Ar12.2.2 hin12 hat12 (g := (mkF m 17 #[.val (.ref ra), .val (.int vf), .val (.int vt), .val (.int vi)] [(.int vi), (.ref ra)])) rfl rfl (hb hby d_prog_20_method_5_code_17) _ ?_
                show Steps p.tables e below (s₁.setTop (mkF m 18 #[.val (.ref ra), .val (.int vf), .val (.int vt), .val (.int vi)] [(.int (own_B bs vi))])) _
                refine XS.bipush X0.here hx rfl (hb hby d_prog_20_method_5_code_18) ?_
                show Steps p.tables e below (s₁.setTop (mkF m 20 #[.val (.ref ra), .val (.int vf), .val (.int vt), .val (.int vi)] [(.int (13 : Int32)), (.int (own_B bs vi))])) _
                refine XS.icmpNo X0.here hx rfl (hb hby d_prog_20_method_5_code_20) rfl (teq (c13 : (own_B bs vi) = (13 : Int32))).2 ?_
                show Steps p.tables e below (s₁.setTop (mkF m 23 #[.val (.ref ra), .val (.int vf), .val (.int vt), .val (.int vi)] [])) _
                refine XS.iloadN X0.here hx rfl (hb hby d_prog_20_method_5_code_23) rfl ?_
                show Steps p.tables e below (s₁.setTop (mkF m 24 #[.val (.ref ra), .val (.int vf), .val (.int vt), .val (.int vi)] [(.int vi)])) _
                refine XS.iconst X0.here hx rfl (hb hby d_prog_20_method_5_code_24) ?_
                show Steps p.tables e below (s₁.setTop (mkF m 25 #[.val (.ref ra), .val (.int vf), .val (.int vt), .val (.int vi)] [(.int (1 : Int32)), (.int vi)])) _
                refine XS.iadd X0.here hx rfl (hb hby d_prog_20_method_5_code_25) rfl ?_
                show Steps p.tables e below (s₁.setTop (mkF m 26 #[.val (.ref ra), .val (.int vf), .val (.int vt), .val (.int vi)] [(.int (vi + (1 : Int32)))])) _
                refine XS.iloadN X0.here hx rfl (hb hby d_prog_20_method_5_code_26) rfl ?_
                show Steps p.tables e below (s₁.setTop (mkF m 27 #[.val (.ref ra), .val (.int vf), .val (.int vt), .val (.int vi)] [(.int vt), (.int (vi + (1 : Int32)))])) _
                refine XS.icmpNo X0.here hx rfl (hb hby d_prog_20_method_5_code_27) rfl (tlt (cn : (vi + (1 : Int32)) < vt)).2.1 ?_
                show Steps p.tables e below (s₁.setTop (mkF m 30 #[.val (.ref ra), .val (.int vf), .val (.int vt), .val (.int vi)] [])) _
                refine XS.aloadN X0.here hx rfl (hb hby d_prog_20_method_5_code_30) rfl rfl ?_
                show Steps p.tables e below (s₁.setTop (mkF m 31 #[.val (.ref ra), .val (.int vf), .val (.int vt), .val (.int vi)] [(.ref ra)])) _
                refine XS.iloadN X0.here hx rfl (hb hby d_prog_20_method_5_code_31) rfl ?_
                show Steps p.tables e below (s₁.setTop (mkF m 32 #[.val (.ref ra), .val (.int vf), .val (.int vt), .val (.int vi)] [(.int vi), (.ref ra)])) _
                refine XS.iconst X0.here hx rfl (hb hby d_prog_20_method_5_code_32) ?_
                show Steps p.tables e below (s₁.setTop (mkF m 33 #[.val (.ref ra), .val (.int vf), .val (.int vt), .val (.int vi)] [(.int (1 : Int32)), (.int vi), (.ref ra)])) _
                refine XS.iadd X0.here hx rfl (hb hby d_prog_20_method_5_code_33) rfl ?_
                show Steps p.tables e below (s₁.setTop (mkF m 34 #[.val (.ref ra), .val (.int vf), .val (.int vt), .val (.int vi)] [(.int (vi + (1 : Int32))), (.ref ra)])) _
                obtain ⟨cl13, Ar13, q13, S13, N13a, H13, G13⟩ := id Av
                have hin13 : ¬ ((vi + (1 : Int32)) < 0 ∨ cl13.slots.size ≤ ((vi + (1 : Int32))).toNatClampNeg) := inb_of S13 (own_idx _ (by omega) (by omega))
                have hat13 : cl13.slots[((vi + (1 : Int32))).toNatClampNeg]? = some (.int (own_B bs (vi + (1 : Int32)))) := H13.at hin13 (own_getD bs _)
                refine X0.baloadBytes hx (j := (vi + (1 : Int32))) (v := (.int (own_B bs (vi + (1 : Int32))))) (by rw [e0]; exact Ar13.1) (State.isArrayOf_alike hZ.alike Ar13.2.1) Ar13.2.2 hin13 hat13 (g := (mkF m 34 #[.val (.ref ra), .val (.int vf), .val (.int vt), .val (.int vi)] [(.int (vi + (1 : Int32))), (.ref ra)])) rfl rfl (hb hby d_prog_20_method_5_code_34) _ ?_
                show Steps p.tables e below (s₁.setTop (mkF m 35 #[.val (.ref ra), .val (.int vf), .val (.int vt), .val (.int vi)] [(.int (own_B bs (vi + (1 : Int32))))])) _
                refine XS.bipush X0.here hx rfl (hb hby d_prog_20_method_5_code_35) ?_
                show Steps p.tables e below (s₁.setTop (mkF m 37 #[.val (.ref ra), .val (.int vf), .val (.int vt), .val (.int vi)] [(.int (10 : Int32)), (.int (own_B bs (vi + (1 : Int32))))])) _
                refine XS.icmpNo X0.here hx rfl (hb hby d_prog_20_method_5_code_37) rfl (teq (c11 : (own_B bs (vi + (1 : Int32))) = (10 : Int32))).2 ?_
                show Steps p.tables e below (s₁.setTop (mkF m 40 #[.val (.ref ra), .val (.int vf), .val (.int vt), .val (.int vi)] [])) _
                refine XS.iloadN X0.here hx rfl (hb hby d_prog_20_method_5_code_40) rfl ?_
                show Steps p.tables e below (s₁.setTop (mkF m 41 #[.val (.ref ra), .val (.int vf), .val (.int vt), .val (.int vi)] [(.int vi)])) _
                refine XS.aloadN X0.here hx rfl (hb hby d_prog_20_method_5_code_41) rfl rfl ?_
                show Steps p.tables e below (s₁.setTop (mkF m 42 #[.val (.ref ra), .val (.int vf), .val (.int vt), .val (.int vi)] [(.ref ra), (.int vi)])) _
                refine XS.iloadN X0.here hx rfl (hb hby d_prog_20_method_5_code_42) rfl ?_
                show Steps p.tables e below (s₁.setTop (mkF m 43 #[.val (.ref ra), .val (.int vf), .val (.int vt), .val (.int vi)] [(.int vi), (.ref ra), (.int vi)])) _
                obtain ⟨cl14, Ar14, q14, S14, N14a, H14, G14⟩ := id Av
                have hin14 : ¬ (vi < 0 ∨ cl14.slots.size ≤ (vi).toNatClampNeg) := inb_of S14 (own_idx _ (by omega) (by omega))
                have hat14 : cl14.slots[(vi).toNatClampNeg]? = some (.int (own_B bs vi)) := H14.at hin14 (own_getD bs _)
                refine X0.baloadBytes hx (j := vi) (v := (.int (own_B bs vi))) (by rw [e0]; exact Ar14.1) (State.isArrayOf_alike hZ.alike Ar14.2.1) Ar14.2.2 hin14 hat14 (g := (mkF m 43 #[.val (.ref ra), .val (.int vf), .val (.int vt), .val (.int vi)] [(.int vi), (.ref ra), (.int vi)])) rfl rfl (hb hby d_prog_20_method_5_code_43) _ ?_
                show Steps p.tables e below (s₁.setTop (mkF m 44 #[.val (.ref ra), .val (.int vf), .val (.int vt), .val (.int vi)] [(.int (own_B bs vi)), (.int vi)])) _
                refine XS.bipush X0.here hx rfl (hb hby d_prog_20_method_5_code_44) ?_
                show Steps p.tables e below (s₁.setTop (mkF m 46 #[.val (.ref ra), .val (.int vf), .val (.int vt), .val (.int vi)] [(.int (10 : Int32)), (.int (own_B bs vi)), (.int vi)])) _
                refine XS.icmpYes X0.here hx rfl (pc0 := 46) (pc' := 53) rfl (hb hby d_prog_20_method_5_code_46) rfl (feq (c10 : ¬ ((own_B bs vi) = (10 : Int32)))).2 (by decide) (by decide) ?_
                show Steps p.tables e below (s₁.setTop (mkF m 53 #[.val (.ref ra), .val (.int vf), .val (.int vt), .val (.int vi)] [(.int vi)])) _
                refine XS.iconst X0.here hx rfl (hb hby d_prog_20_method_5_code_53) ?_
                show Steps p.tables e below (s₁.setTop (mkF m 54 #[.val (.ref ra), .val (.int vf), .val (.int vt), .val (.int vi)] [(.int (2 : Int32)), (.int vi)])) _
                refine XS.iadd X0.here hx rfl (hb hby d_prog_20_method_5_code_54) rfl ?_
                show Steps p.tables e below (s₁.setTop (mkF m 55 #[.val (.ref ra), .val (.int vf), .val (.int vt), .val (.int vi)] [(.int (vi + (2 : Int32)))])) _
                refine XS.istoreN X0.here hx rfl (hb hby d_prog_20_method_5_code_55) rfl (l' := #[.val (.ref ra), .val (.int vf), .val (.int vt), .val (.int (vi + (2 : Int32)))]) rfl ?_
                show Steps p.tables e below (s₁.setTop (mkF m 56 #[.val (.ref ra), .val (.int vf), .val (.int vt), .val (.int (vi + (2 : Int32)))] [])) _
                refine XS.goto X0.here hx rfl (pc0 := 56) (pc' := 2) rfl (hb hby d_prog_20_method_5_code_56) (by decide) (by decide) ?_
                exact st t kt
              · refine ⟨vi, ⟨fun q => absurd hft q, fun _ => ⟨h2, h3 hft, h4, Or.inr ⟨c10, fun _ _ => c11⟩⟩⟩, fun t kt => ?_⟩
                show Steps p.tables e below (s₁.setTop (mkF m 2 #[.val (.ref ra), .val (.int vf), .val (.int vt), .val (.int vi)] [])) _
                refine XS.iloadN X0.here hx rfl (hb hby d_prog_20_method_5_code_2) rfl ?_
                show Steps p.tables e below (s₁.setTop (mkF m 3 #[.val (.ref ra), .val (.int vf), .val (.int vt), .val (.int vi)] [(.int vi)])) _
                refine XS.iloadN X0.here hx rfl (hb hby d_prog_20_method_5_code_3) rfl ?_
                show Steps p.tables e below (s₁.setTop (mkF m 4 #[.val (.ref ra), .val (.int vf), .val (.int vt), .val (.int vi)] [(.int vt), (.int vi)])) _
                refine XS.icmpNo X0.here hx rfl (hb hby d_prog_20_method_5_code_4) rfl (tlt (hlt : vi < vt)).2.1 ?_
                show Steps p.tables e below (s₁.setTop (mkF m 7 #[.val (.ref ra), .val (.int vf), .val (.int vt), .val (.int vi)] [])) _
                refine XS.aloadN X0.here hx rfl (hb hby d_prog_20_method_5_code_7) rfl rfl ?_
                show Steps p.tables e below (s₁.setTop (mkF m 8 #[.val (.ref ra), .val (.int vf), .val (.int vt), .val (.int vi)] [(.ref ra)])) _
                refine XS.iloadN X0.here hx rfl (hb hby d_prog_20_method_5_code_8) rfl ?_
                show Steps p.tables e below (s₁.setTop (mkF m 9 #[.val (.ref ra), .val (.int vf), .val (.int vt), .val (.int vi)] [(.int vi), (.ref ra)])) _
                obtain ⟨cl15, Ar15, q15, S15, N15a, H15, G15⟩ := id Av
                have hin15 : ¬ (vi < 0 ∨ cl15.slots.size ≤ (vi).toNatClampNeg) := inb_of S15 (own_idx _ (by omega) (by omega))
                have hat15 : cl15.slots[(vi).toNatClampNeg]? = some (.int (own_B bs vi)) := H15.at hin15 (own_getD bs _)
                refine X0.baloadBytes hx (j := vi) (v := (.int (own_B bs vi))) (by rw [e0]; exact Ar15.1) (State.isArrayOf_alike hZ.alike Ar15.2.1) Ar15.2.2 hin15 hat15 (g := (mkF m 9 #[.val (.ref ra), .val (.int vf), .val (.int vt), .val (.int vi)] [(.int vi), (.ref ra)])) rfl rfl (hb hby d_prog_20_method_5_code_9) _ ?_
                show Steps p.tables e below (s₁.setTop (mkF m 10 #[.val (.ref ra), .val (.int vf), .val (.int vt), .val (.int vi)] [(.int (own_B bs vi))])) _
                refine XS.bipush X0.here hx rfl (hb hby d_prog_20_method_5_code_10) ?_
                show Steps p.tables e below (s₁.setTop (mkF m 12 #[.val (.ref ra), .val (.int vf), .val (.int vt), .val (.int vi)] [(.int (10 : Int32)), (.int (own_B bs vi))])) _
                refine XS.icmpNo X0.here hx rfl (hb hby d_prog_20_method_5_code_12) rfl (feq (c10 : ¬ ((own_B bs vi) = (10 : Int32)))).1 ?_
                show Steps p.tables e below (s₁.setTop (mkF m 15 #[.val (.ref ra), .val (.int vf), .val (.int vt), .val (.int vi)] [])) _
                refine XS.aloadN X0.here hx rfl (hb hby d_prog_20_method_5_code_15) rfl rfl ?_
                show Steps p.tables e below (s₁.setTop (mkF m 16 #[.val (.ref ra), .val (.int vf), .val (.int vt), .val (.int vi)] [(.ref ra)])) _
                refine XS.iloadN X0.here hx rfl (hb hby d_prog_20_method_5_code_16) rfl ?_
                show Steps p.tables e below (s₁.setTop (mkF m 17 #[.val (.ref ra), .val (.int vf), .val (.int vt), .val (.int vi)] [(.int vi), (.ref ra)])) _
                obtain ⟨cl16, Ar16, q16, S16, N16a, H16, G16⟩ := id Av
                have hin16 : ¬ (vi < 0 ∨ cl16.slots.size ≤ (vi).toNatClampNeg) := inb_of S16 (own_idx _ (by omega) (by omega))
                have hat16 : cl16.slots[(vi).toNatClampNeg]? = some (.int (own_B bs vi)) := H16.at hin16 (own_getD bs _)
                refine X0.baloadBytes hx (j := vi) (v := (.int (own_B bs vi))) (by rw [e0]; exact Ar16.1) (State.isArrayOf_alike hZ.alike Ar16.2.1) Ar16.2.2 hin16 hat16 (g := (mkF m 17 #[.val (.ref ra), .val (.int vf), .val (.int vt), .val (.int vi)] [(.int vi), (.ref ra)])) rfl rfl (hb hby d_prog_20_method_5_code_17) _ ?_
                show Steps p.tables e below (s₁.setTop (mkF m 18 #[.val (.ref ra), .val (.int vf), .val (.int vt), .val (.int vi)] [(.int (own_B bs vi))])) _
                refine XS.bipush X0.here hx rfl (hb hby d_prog_20_method_5_code_18) ?_
                show Steps p.tables e below (s₁.setTop (mkF m 20 #[.val (.ref ra), .val (.int vf), .val (.int vt), .val (.int vi)] [(.int (13 : Int32)), (.int (own_B bs vi))])) _
                refine XS.icmpNo X0.here hx rfl (hb hby d_prog_20_method_5_code_20) rfl (teq (c13 : (own_B bs vi) = (13 : Int32))).2 ?_
                show Steps p.tables e below (s₁.setTop (mkF m 23 #[.val (.ref ra), .val (.int vf), .val (.int vt), .val (.int vi)] [])) _
                refine XS.iloadN X0.here hx rfl (hb hby d_prog_20_method_5_code_23) rfl ?_
                show Steps p.tables e below (s₁.setTop (mkF m 24 #[.val (.ref ra), .val (.int vf), .val (.int vt), .val (.int vi)] [(.int vi)])) _
                refine XS.iconst X0.here hx rfl (hb hby d_prog_20_method_5_code_24) ?_
                show Steps p.tables e below (s₁.setTop (mkF m 25 #[.val (.ref ra), .val (.int vf), .val (.int vt), .val (.int vi)] [(.int (1 : Int32)), (.int vi)])) _
                refine XS.iadd X0.here hx rfl (hb hby d_prog_20_method_5_code_25) rfl ?_
                show Steps p.tables e below (s₁.setTop (mkF m 26 #[.val (.ref ra), .val (.int vf), .val (.int vt), .val (.int vi)] [(.int (vi + (1 : Int32)))])) _
                refine XS.iloadN X0.here hx rfl (hb hby d_prog_20_method_5_code_26) rfl ?_
                show Steps p.tables e below (s₁.setTop (mkF m 27 #[.val (.ref ra), .val (.int vf), .val (.int vt), .val (.int vi)] [(.int vt), (.int (vi + (1 : Int32)))])) _
                refine XS.icmpNo X0.here hx rfl (hb hby d_prog_20_method_5_code_27) rfl (tlt (cn : (vi + (1 : Int32)) < vt)).2.1 ?_
                show Steps p.tables e below (s₁.setTop (mkF m 30 #[.val (.ref ra), .val (.int vf), .val (.int vt), .val (.int vi)] [])) _
                refine XS.aloadN X0.here hx rfl (hb hby d_prog_20_method_5_code_30) rfl rfl ?_
                show Steps p.tables e below (s₁.setTop (mkF m 31 #[.val (.ref ra), .val (.int vf), .val (.int vt), .val (.int vi)] [(.ref ra)])) _
                refine XS.iloadN X0.here hx rfl (hb hby d_prog_20_method_5_code_31) rfl ?_
                show Steps p.tables e below (s₁.setTop (mkF m 32 #[.val (.ref ra), .val (.int vf), .val (.int vt), .val (.int vi)] [(.int vi), (.ref ra)])) _
                refine XS.iconst X0.here hx rfl (hb hby d_prog_20_method_5_code_32) ?_
                show Steps p.tables e below (s₁.setTop (mkF m 33 #[.val (.ref ra), .val (.int vf), .val (.int vt), .val (.int vi)] [(.int (1 : Int32)), (.int vi), (.ref ra)])) _
                refine XS.iadd X0.here hx rfl (hb hby d_prog_20_method_5_code_33) rfl ?_
                show Steps p.tables e below (s₁.setTop (mkF m 34 #[.val (.ref ra), .val (.int vf), .val (.int vt), .val (.int vi)] [(.int (vi + (1 : Int32))), (.ref ra)])) _
                obtain ⟨cl17, Ar17, q17, S17, N17a, H17, G17⟩ := id Av
                have hin17 : ¬ ((vi + (1 : Int32)) < 0 ∨ cl17.slots.size ≤ ((vi + (1 : Int32))).toNatClampNeg) := inb_of S17 (own_idx _ (by omega) (by omega))
                have hat17 : cl17.slots[((vi + (1 : Int32))).toNatClampNeg]? = some (.int (own_B bs (vi + (1 : Int32)))) := H17.at hin17 (own_getD bs _)
                refine X0.baloadBytes hx (j := (vi + (1 : Int32))) (v := (.int (own_B bs (vi + (1 : Int32))))) (by rw [e0]; exact Ar17.1) (State.isArrayOf_alike hZ.alike Ar17.2.1) Ar17.2.2 hin17 hat17 (g := (mkF m 34 #[.val (.ref ra), .val (.int vf), .val (.int vt), .val (.int vi)] [(.int (vi + (1 : Int32))), (.ref ra)])) rfl rfl (hb hby d_prog_20_method_5_code_34) _ ?_
                show Steps p.tables e below (s₁.setTop (mkF m 35 #[.val (.ref ra), .val (.int vf), .val (.int vt), .val (.int vi)] [(.int (own_B bs (vi + (1 : Int32))))])) _
                refine XS.bipush X0.here hx rfl (hb hby d_prog_20_method_5_code_35) ?_
                show Steps p.tables e below (s₁.setTop (mkF m 37 #[.val (.ref ra), .val (.int vf), .val (.int vt), .val (.int vi)] [(.int (10 : Int32)), (.int (own_B bs (vi + (1 : Int32))))])) _
                refine XS.icmpYes X0.here hx rfl (pc0 := 37) (pc' := 59) rfl (hb hby d_prog_20_method_5_code_37) rfl (feq (c11 : ¬ ((own_B bs (vi + (1 : Int32))) = (10 : Int32)))).2 (by decide) (by decide) ?_
                exact kt
            · refine ⟨vi, ⟨fun q => absurd hft q, fun _ => ⟨h2, h3 hft, h4, Or.inr ⟨c10, fun _ q => absurd ((own_lt _ _).mpr q) cn⟩⟩⟩, fun t kt => ?_⟩
              show Steps p.tables e below (s₁.setTop (mkF m 2 #[.val (.ref ra), .val (.int vf), .val (.int vt), .val (.int vi)] [])) _
              refine XS.iloadN X0.here hx rfl (hb hby d_prog_20_method_5_code_2) rfl ?_
              show Steps p.tables e below (s₁.setTop (mkF m 3 #[.val (.ref ra), .val (.int vf), .val (.int vt), .val (.int vi)] [(.int vi)])) _
              refine XS.iloadN X0.here hx rfl (hb hby d_prog_20_method_5_code_3) rfl ?_
              show Steps p.tables e below (s₁.setTop (mkF m 4 #[.val (.ref ra), .val (.int vf), .val (.int vt), .val (.int vi)] [(.int vt), (.int vi)])) _
              refine XS.icmpNo X0.here hx rfl (hb hby d_prog_20_method_5_code_4) rfl (tlt (hlt : vi < vt)).2.1 ?_
              show Steps p.tables e below (s₁.setTop (mkF m 7 #[.val (.ref ra), .val (.int vf), .val (.int vt), .val (.int vi)] [])) _
              refine XS.aloadN X0.here hx rfl (hb hby d_prog_20_method_5_code_7) rfl rfl ?_
              show Steps p.tables e below (s₁.setTop (mkF m 8 #[.val (.ref ra), .val (.int vf), .val (.int vt), .val (.int vi)] [(.ref ra)])) _
              refine XS.iloadN X0.here hx rfl (hb hby d_prog_20_method_5_code_8) rfl ?_
              show Steps p.tables e below (s₁.setTop (mkF m 9 #[.val (.ref ra), .val (.int vf), .val (.int vt), .val (.int vi)] [(.int vi), (.ref ra)])) _
              obtain ⟨cl18, Ar18, q18, S18, N18a, H18, G18⟩ := id Av
              have hin18 : ¬ (vi < 0 ∨ cl18.slots.size ≤ (vi).toNatClampNeg) := inb_of S18 (own_idx _ (by omega) (by omega))
              have hat18 : cl18.slots[(vi).toNatClampNeg]? = some (.int (own_B bs vi)) := H18.at hin18 (own_getD bs _)
              refine X0.baloadBytes hx (j := vi) (v := (.int (own_B bs vi))) (by rw [e0]; exact Ar18.1) (State.isArrayOf_alike hZ.alike Ar18.2.1) Ar18.2.2 hin18 hat18 (g := (mkF m 9 #[.val (.ref ra), .val (.int vf), .val (.int vt), .val (.int vi)] [(.int vi), (.ref ra)])) rfl rfl (hb hby d_prog_20_method_5_code_9) _ ?_
              show Steps p.tables e below (s₁.setTop (mkF m 10 #[.val (.ref ra), .val (.int vf), .val (.int vt), .val (.int vi)] [(.int (own_B bs vi))])) _
              refine XS.bipush X0.here hx rfl (hb hby d_prog_20_method_5_code_10) ?_
              show Steps p.tables e below (s₁.setTop (mkF m 12 #[.val (.ref ra), .val (.int vf), .val (.int vt), .val (.int vi)] [(.int (10 : Int32)), (.int (own_B bs vi))])) _
              refine XS.icmpNo X0.here hx rfl (hb hby d_prog_20_method_5_code_12) rfl (feq (c10 : ¬ ((own_B bs vi) = (10 : Int32)))).1 ?_
              show Steps p.tables e below (s₁.setTop (mkF m 15 #[.val (.ref ra), .val (.int vf), .val (.int vt), .val (.int vi)] [])) _
              refine XS.aloadN X0.here hx rfl (hb hby d_prog_20_method_5_code_15) rfl rfl ?_
              show Steps p.tables e below (s₁.setTop (mkF m 16 #[.val (.ref ra), .val (.int vf), .val (.int vt), .val (.int vi)] [(.ref ra)])) _
              refine XS.iloadN X0.here hx rfl (hb hby d_prog_20_method_5_code_16) rfl ?_
              show Steps p.tables e below (s₁.setTop (mkF m 17 #[.val (.ref ra), .val (.int vf), .val (.int vt), .val (.int vi)] [(.int vi), (.ref ra)])) _
              obtain ⟨cl19, Ar19, q19, S19, N19a, H19, G19⟩ := id Av
              have hin19 : ¬ (vi < 0 ∨ cl19.slots.size ≤ (vi).toNatClampNeg) := inb_of S19 (own_idx _ (by omega) (by omega))
              have hat19 : cl19.slots[(vi).toNatClampNeg]? = some (.int (own_B bs vi)) := H19.at hin19 (own_getD bs _)
              refine X0.baloadBytes hx (j := vi) (v := (.int (own_B bs vi))) (by rw [e0]; exact Ar19.1) (State.isArrayOf_alike hZ.alike Ar19.2.1) Ar19.2.2 hin19 hat19 (g := (mkF m 17 #[.val (.ref ra), .val (.int vf), .val (.int vt), .val (.int vi)] [(.int vi), (.ref ra)])) rfl rfl (hb hby d_prog_20_method_5_code_17) _ ?_
              show Steps p.tables e below (s₁.setTop (mkF m 18 #[.val (.ref ra), .val (.int vf), .val (.int vt), .val (.int vi)] [(.int (own_B bs vi))])) _
              refine XS.bipush X0.here hx rfl (hb hby d_prog_20_method_5_code_18) ?_
              show Steps p.tables e below (s₁.setTop (mkF m 20 #[.val (.ref ra), .val (.int vf), .val (.int vt), .val (.int vi)] [(.int (13 : Int32)), (.int (own_B bs vi))])) _
              refine XS.icmpNo X0.here hx rfl (hb hby d_prog_20_method_5_code_20) rfl (teq (c13 : (own_B bs vi) = (13 : Int32))).2 ?_
              show Steps p.tables e below (s₁.setTop (mkF m 23 #[.val (.ref ra), .val (.int vf), .val (.int vt), .val (.int vi)] [])) _
              refine XS.iloadN X0.here hx rfl (hb hby d_prog_20_method_5_code_23) rfl ?_
              show Steps p.tables e below (s₁.setTop (mkF m 24 #[.val (.ref ra), .val (.int vf), .val (.int vt), .val (.int vi)] [(.int vi)])) _
              refine XS.iconst X0.here hx rfl (hb hby d_prog_20_method_5_code_24) ?_
              show Steps p.tables e below (s₁.setTop (mkF m 25 #[.val (.ref ra), .val (.int vf), .val (.int vt), .val (.int vi)] [(.int (1 : Int32)), (.int vi)])) _
              refine XS.iadd X0.here hx rfl (hb hby d_prog_20_method_5_code_25) rfl ?_
              show Steps p.tables e below (s₁.setTop (mkF m 26 #[.val (.ref ra), .val (.int vf), .val (.int vt), .val (.int vi)] [(.int (vi + (1 : Int32)))])) _
              refine XS.iloadN X0.here hx rfl (hb hby d_prog_20_method_5_code_26) rfl ?_
              show Steps p.tables e below (s₁.setTop (mkF m 27 #[.val (.ref ra), .val (.int vf), .val (.int vt), .val (.int vi)] [(.int vt), (.int (vi + (1 : Int32)))])) _
              refine XS.icmpYes X0.here hx rfl (pc0 := 27) (pc' := 59) rfl (hb hby d_prog_20_method_5_code_27) rfl (flt (cn : ¬ ((vi + (1 : Int32)) < vt))).2.1 (by decide) (by decide) ?_
              exact kt
          · refine ⟨vi, ⟨fun q => absurd hft q, fun _ => ⟨h2, h3 hft, h4, Or.inr ⟨c10, fun q => absurd q c13⟩⟩⟩, fun t kt => ?_⟩
            show Steps p.tables e below (s₁.setTop (mkF m 2 #[.val (.ref ra), .val (.int vf), .val (.int vt), .val (.int vi)] [])) _
            refine XS.iloadN X0.here hx rfl (hb hby d_prog_20_method_5_code_2) rfl ?_
            show Steps p.tables e below (s₁.setTop (mkF m 3 #[.val (.ref ra), .val (.int vf), .val (.int vt), .val (.int vi)] [(.int vi)])) _
            refine XS.iloadN X0.here hx rfl (hb hby d_prog_20_method_5_code_3) rfl ?_
            show Steps p.tables e below (s₁.setTop (mkF m 4 #[.val (.ref ra), .val (.int vf), .val (.int vt), .val (.int vi)] [(.int vt), (.int vi)])) _
            refine XS.icmpNo X0.here hx rfl (hb hby d_prog_20_method_5_code_4) rfl (tlt (hlt : vi < vt)).2.1 ?_
            show Steps p.tables e below (s₁.setTop (mkF m 7 #[.val (.ref ra), .val (.int vf), .val (.int vt), .val (.int vi)] [])) _
            refine XS.aloadN X0.here hx rfl (hb hby d_prog_20_method_5_code_7) rfl rfl ?_
            show Steps p.tables e below (s₁.setTop (mkF m 8 #[.val (.ref ra), .val (.int vf), .val (.int vt), .val (.int vi)] [(.ref ra)])) _
            refine XS.iloadN X0.here hx rfl (hb hby d_prog_20_method_5_code_8) rfl ?_
            show Steps p.tables e below (s₁.setTop (mkF m 9 #[.val (.ref ra), .val (.int vf), .val (.int vt), .val (.int vi)] [(.int vi), (.ref ra)])) _
            obtain ⟨cl20, Ar20, q20, S20, N20a, H20, G20⟩ := id Av
            have hin20 : ¬ (vi < 0 ∨ cl20.slots.size ≤ (vi).toNatClampNeg) := inb_of S20 (own_idx _ (by omega) (by omega))
            have hat20 : cl20.slots[(vi).toNatClampNeg]? = some (.int (own_B bs vi)) := H20.at hin20 (own_getD bs _)
            refine X0.baloadBytes hx (j := vi) (v := (.int (own_B bs vi))) (by rw [e0]; exact Ar20.1) (State.isArrayOf_alike hZ.alike Ar20.2.1) Ar20.2.2 hin20 hat20 (g := (mkF m 9 #[.val (.ref ra), .val (.int vf), .val (.int vt), .val (.int vi)] [(.int vi), (.ref ra)])) rfl rfl (hb hby d_prog_20_method_5_code_9) _ ?_
            show Steps p.tables e below (s₁.setTop (mkF m 10 #[.val (.ref ra), .val (.int vf), .val (.int vt), .val (.int vi)] [(.int (own_B bs vi))])) _
            refine XS.bipush X0.here hx rfl (hb hby d_prog_20_method_5_code_10) ?_
            show Steps p.tables e below (s₁.setTop (mkF m 12 #[.val (.ref ra), .val (.int vf), .val (.int vt), .val (.int vi)] [(.int (10 : Int32)), (.int (own_B bs vi))])) _
            refine XS.icmpNo X0.here hx rfl (hb hby d_prog_20_method_5_code_12) rfl (feq (c10 : ¬ ((own_B bs vi) = (10 : Int32)))).1 ?_
            show Steps p.tables e below (s₁.setTop (mkF m 15 #[.val (.ref ra), .val (.int vf), .val (.int vt), .val (.int vi)] [])) _
            refine XS.aloadN X0.here hx rfl (hb hby d_prog_20_method_5_code_15) rfl rfl ?_
            show Steps p.tables e below (s₁.setTop (mkF m 16 #[.val (.ref ra), .val (.int vf), .val (.int vt), .val (.int vi)] [(.ref ra)])) _
            refine XS.iloadN X0.here hx rfl (hb hby d_prog_20_method_5_code_16) rfl ?_
            show Steps p.tables e below (s₁.setTop (mkF m 17 #[.val (.ref ra), .val (.int vf), .val (.int vt), .val (.int vi)] [(.int vi), (.ref ra)])) _
            obtain ⟨cl21, Ar21, q21, S21, N21a, H21, G21⟩ := id Av
            have hin21 : ¬ (vi < 0 ∨ cl21.slots.size ≤ (vi).toNatClampNeg) := inb_of S21 (own_idx _ (by omega) (by omega))
            have hat21 : cl21.slots[(vi).toNatClampNeg]? = some (.int (own_B bs vi)) := H21.at hin21 (own_getD bs _)
            refine X0.baloadBytes hx (j := vi) (v := (.int (own_B bs vi))) (by rw [e0]; exact Ar21.1) (State.isArrayOf_alike hZ.alike Ar21.2.1) Ar21.2.2 hin21 hat21 (g := (mkF m 17 #[.val (.ref ra), .val (.int vf), .val (.int vt), .val (.int vi)] [(.int vi), (.ref ra)])) rfl rfl (hb hby d_prog_20_method_5_code_17) _ ?_
            show Steps p.tables e below (s₁.setTop (mkF m 18 #[.val (.ref ra), .val (.int vf), .val (.int vt), .val (.int vi)] [(.int (own_B bs vi))])) _
            refine XS.bipush X0.here hx rfl (hb hby d_prog_20_method_5_code_18) ?_
            show Steps p.tables e below (s₁.setTop (mkF m 20 #[.val (.ref ra), .val (.int vf), .val (.int vt), .val (.int vi)] [(.int (13 : Int32)), (.int (own_B bs vi))])) _
            refine XS.icmpYes X0.here hx rfl (pc0 := 20) (pc' := 59) rfl (hb hby d_prog_20_method_5_code_20) rfl (feq (c13 : ¬ ((own_B bs vi) = (13 : Int32)))).2 (by decide) (by decide) ?_
            exact kt
      · have hge' : ¬ vi.toInt < vt.toInt := fun q => hlt ((own_lt _ _).mpr q)
        have hP : own_P bs vf vt vi := ⟨h3', fun q => ⟨h2, h3 q, h4, Or.inl (Int32.toInt_inj.mp (by have := h3 q; omega))⟩⟩
        refine ⟨vi, hP, fun t kt => ?_⟩
        show Steps p.tables e below (s₁.setTop (mkF m 2 #[.val (.ref ra), .val (.int vf), .val (.int vt), .val (.int vi)] [])) _
        refine XS.iloadN X0.here hx rfl (hb hby d_prog_20_method_5_code_2) rfl ?_
        show Steps p.tables e below (s₁.setTop (mkF m 3 #[.val (.ref ra), .val (.int vf), .val (.int vt), .val (.int vi)] [(.int vi)])) _
        refine XS.iloadN X0.here hx rfl (hb hby d_prog_20_method_5_code_3) rfl ?_
        show Steps p.tables e below (s₁.setTop (mkF m 4 #[.val (.ref ra), .val (.int vf), .val (.int vt), .val (.int vi)] [(.int vt), (.int vi)])) _
        refine XS.icmpYes X0.here hx rfl (pc0 := 4) (pc' := 59) rfl (hb hby d_prog_20_method_5_code_4) rfl (flt (hlt : ¬ (vi < vt))).2.1 (by decide) (by decide) ?_
        exact kt
  obtain ⟨z, hz, st⟩ := loop (vt.toInt - vf.toInt).toNat vf (by omega) (by omega) (fun q => by omega) (fun _ => rfl) (fun j q1 q2 => by omega)
  obtain ⟨fs, hr, hrun, hended, hW, hsame⟩ := X0.leave (v := some (.int z)) (fun h => by rw [Bd.returns] at h; cases h)
  refine ⟨_, _, pre0 _ ?_, hrun, hended, _, _, rfl, ?_, ⟨_, rfl⟩, hW, hsame.mono (by decide) (by decide)⟩
  · show Steps p.tables e below (s₁.setTop (mkF m 0 #[.val (.ref ra), .val (.int vf), .val (.int vt), .unset] [])) _
    refine XS.iloadN X0.here hx rfl (hb hby d_prog_20_method_5_code_0) rfl ?_
    show Steps p.tables e below (s₁.setTop (mkF m 1 #[.val (.ref ra), .val (.int vf), .val (.int vt), .unset] [(.int vf)])) _
    refine XS.istoreN X0.here hx rfl (hb hby d_prog_20_method_5_code_1) rfl (l' := #[.val (.ref ra), .val (.int vf), .val (.int vt), .val (.int vf)]) rfl ?_
    refine st _ ?_
    show Steps p.tables e below (s₁.setTop (mkF m 59 #[.val (.ref ra), .val (.int vf), .val (.int vt), .val (.int z)] [])) _
    refine XS.iloadN X0.here hx rfl (hb hby d_prog_20_method_5_code_59) rfl ?_
    show Steps p.tables e below (s₁.setTop (mkF m 60 #[.val (.ref ra), .val (.int vf), .val (.int vt), .val (.int z)] [(.int z)])) _
    exact retI X0 hx Bd.returns (hb hby d_prog_20_method_5_code_60) hr
  · show Q_sk Z ra vf vt ka bs h0 n0 _ s₁.heap _
    rw [e0]
    exact ⟨⟨_, rfl, hz⟩, N0, rfl⟩
theorem own_m (v : Int32) : 0 ≤ ((v &&& (2147483647 : Int32)) % (7 : Int32)).toInt ∧ ((v &&& (2147483647 : Int32)) % (7 : Int32)).toInt ≤ 6 := by
  have a1 := c_mask v 2147483647 31 (by decide) (by decide)
  simp only [Nat.reducePow] at a1
  have a2 := (c_irem (v &&& (2147483647 : Int32)) 7 7 (by decide)).1
  omega
theorem pd_0 : parseMethodDescriptor "(IIJ)B" = some ⟨[.int, .int, .long], some .byte⟩ := by decide +kernel
theorem pd_1 : parseMethodDescriptor "([BII)I" = some ⟨[(.array .byte), .int, .int], some .int⟩ := by decide +kernel
theorem pd_2 : parseMethodDescriptor "([BIII)Z" = some ⟨[(.array .byte), .int, .int, .int], some .boolean⟩ := by decide +kernel
theorem ef_law (m : MethodId) (vs : Int32) (vr : Int64) (vf : Int32) (vt : Int32) : entryFrame m #[(.int vs), (.long vr), (.int vf), (.int vt)] maxLocals = mkF m 0 #[.val (.int vs), .val (.long vr), .second, .val (.int vf), .val (.int vt), .unset, .unset, .unset, .unset, .unset, .unset] [] := by first | (simp [entryFrame, mkF, argsToLocals, Value.category, maxLocals]; done) | rfl
def Q_law (Z : State) (vs : Int32) (vr : Int64) (vf : Int32) (vt : Int32) (h0 : Heap) (n0 : Nat) (v : Option Value) (h : Heap) (L : List Loc) : Prop := v = some (.int 1) ∧ Fr n0 L
set_option maxRecDepth 65536 in
set_option maxHeartbeats 40000000 in
theorem rm_law (l : Launch) (Z : State) (a0 : Array Value) (hw : ∀ d ∈ tables_1, d.before a0 Z = true) (ws : List Jvm.Cond) (vs : Int32) (vr : Int64) (vf : Int32) (vt : Int32) (h0 : Heap) (n0 : Nat) (Z0 : n0 ≤ h0.size) :
    MetFree l x (head1 (Jvm.Cond.code x code maxLocals ret :: ws) room_1) (fun a U => a = #[(.int vs), (.long vr), (.int vf), (.int vt)] ∧ Z.Warmed39 U.vm ∧ U.heap = h0) (fun _ _ _ _ _ => True) (fun _ U o U' => ∃ v L, o = .returned v ∧ Q_law Z vs vr vf vt h0 n0 v U'.heap L ∧ FrameEnd U o U' L room_1.cells room_1.slots) := by
  refine MetFree.of_bodySF (plainFor_of_name pn_0) hisR ?_
  intro p e s m args below meth c s₁ Bd hml0 hP hK
  obtain ⟨rfl, hZ, hh⟩ := hP
  have hx := Bd.exec
  have hby := Bd.bytes
  have hml : c.maxLocals = 11 := hml0
  have hown : s.vm.findClass "com/example/rest_whiteboard/restwhiteboard/http/RequestHeadSkipEmptyLinesPinLaw" = some m.cls := findClass_of_methodNamed Bd.named
  have hnm := (name_of_methodNamed Bd.named Bd.method).1
  have X0 : Stand p l e room_1 s m #[(.int vs), (.long vr), (.int vf), (.int vt)] below meth c s₁ [] 0 0 := Stand.of_body Bd
  have e0 : s₁.heap = h0 := by rw [← hh, Bd.state]; rfl
  have N0 := Fr.nil n0
  have pre0 : ∀ t, Steps p.tables e below (s₁.setTop (mkF m 0 #[.val (.int vs), .val (.long vr), .second, .val (.int vf), .val (.int vt), .unset, .unset, .unset, .unset, .unset, .unset] [])) t → Steps p.tables e below (s₁.setTop (entryFrame m #[(.int vs), (.long vr), (.int vf), (.int vt)] maxLocals)) t := fun t k => castTop (ef_law m vs vr vf vt) k
  obtain ⟨yf, hyf⟩ : ∃ z, z = ((vf &&& (2147483647 : Int32)) % (7 : Int32)) := ⟨_, rfl⟩
  obtain ⟨yt, hyt⟩ : ∃ z, z = ((vt &&& (2147483647 : Int32)) % (7 : Int32)) := ⟨_, rfl⟩
  have hf := own_m vf
  rw [← hyf] at hf
  have ht := own_m vt
  rw [← hyt] at ht
  obtain ⟨T22, h22, k22, X22, e22, E22, A22, st22⟩ := newP X0 hx hZ (hw _ (List.mem_of_getElem? (i := 0) rfl)) e0 (g := (mkF m 2 #[.val (.int vs), .val (.long vr), .second, .val (.int vf), .val (.int vt), .unset, .unset, .unset, .unset, .unset, .unset] [(.int (6 : Int32))])) rfl (hb hby at_2) rfl (by decide) (cap := 6) (by decide) (by decide) (by decide) (by decide)
  obtain ⟨b22, g22⟩ : ∃ z, z = h0.size := ⟨_, rfl⟩
  rw [← g22] at A22 st22
  have g_b22 : n0 ≤ b22 := Nat.le_trans Z0 (Nat.le_of_eq g22.symm)
  have Z22 : n0 ≤ h22.size := Nat.le_trans Z0 E22.1
  have Av_b22_22 : Arv Z h22 b22 k22 .byte (6 : Int32) [(.int (0 : Int32)), (.int (0 : Int32)), (.int (0 : Int32)), (.int (0 : Int32)), (.int (0 : Int32)), (.int (0 : Int32))] (.int (0 : Int32)) := (Arv.new A22 (by decide)).pad (pad_rep [] (.int (0 : Int32)) 6)
  obtain ⟨_, _, ⟨T23, L23, k23, n23⟩, -, X23, ⟨Lc23, hQ23, l23, y23, z23⟩, st23⟩ := Jvm.LawKit.callS X22 hx (y := (⟨"com/example/rest_whiteboard/restwhiteboard/http/RequestHeadSkipEmptyLinesPinLaw", "pick", "(IIJ)B"⟩ : MethodName)) hown (mvT hZ (hw _ (List.mem_of_getElem? (i := 1) rfl))) (mvT hZ (hw _ (List.mem_of_getElem? (i := 2) rfl))) (mvT hZ (hw _ (List.mem_of_getElem? (i := 3) rfl))) (mvT hZ (hw _ (List.mem_of_getElem? (i := 4) rfl))) (by decide) (backOf (W := 2) (rm_pick l Z a0 hw [] vs (0 : Int32) vr h22 n0 Z22 ) hZ (hw _ (List.mem_of_getElem? (i := 4) rfl)) (hw _ (List.mem_of_getElem? (i := 3) rfl)) (by decide) (by decide)) (g := (mkF m 12 #[.val (.int vs), .val (.long vr), .second, .val (.int vf), .val (.int vt), .val (.ref b22), .unset, .unset, .unset, .unset, .unset] [(.long vr), (.int (0 : Int32)), (.int vs), (.int (0 : Int32)), (.ref b22)])) rfl (by rw [hml]; rfl) (argsL := [(.int vs), (.int (0 : Int32)), (.long vr)]) (rest := [(.int (0 : Int32)), (.ref b22)]) (lenOf pd_0 rfl) rfl (by show 2 * 0 + _ ≤ _; exact Nat.le_of_eq rfl) (hb hby at_12) (fun _ _ => ⟨rfl, e22, (by decide : 1 + 0 ≤ _), (by decide : 6 + 0 ≤ _)⟩)
  dsimp only [Pt.U, Pt.locs, Pt.cells, Pt.slots] at X23 l23 y23 z23 st23 hQ23
  subst l23 y23 z23
  obtain ⟨⟨r23, rfl, hr23⟩, N23q, e23⟩ := hQ23
  have N23 := Fr.app N0 N23q
  obtain ⟨cl24, Ar24, q24, S24, N24a, H24, G24⟩ := id Av_b22_22
  have hin24 : ¬ ((0 : Int32) < 0 ∨ cl24.slots.size ≤ ((0 : Int32)).toNatClampNeg) := inb_of S24 ⟨by decide, by decide⟩
  obtain ⟨T24, h24, X24, e24, W24, st24⟩ := stB X23 hx hZ e23 Ar24 (j := (0 : Int32)) hin24 (g := (mkF m 15 #[.val (.int vs), .val (.long vr), .second, .val (.int vf), .val (.int vt), .val (.ref b22), .unset, .unset, .unset, .unset, .unset] [(.int r23), (.int (0 : Int32)), (.ref b22)])) rfl rfl (hb hby at_15)
  have Av_b22_24 : Arv Z h24 b22 k22 .byte (6 : Int32) [(.int (nar .byte r23)), (.int (0 : Int32)), (.int (0 : Int32)), (.int (0 : Int32)), (.int (0 : Int32)), (.int (0 : Int32))] (.int (0 : Int32)) := Arv.set Ar24 q24 S24 N24a H24 G24 (fits_nar_byte _) W24 0 rfl (Nat.le_of_ble_eq_true rfl)
  have Z24 : n0 ≤ h24.size := Nat.le_trans Z22 (Keep.of_wr W24).1
  have N24 := Fr.snoc X24 N23 g_b22
  obtain ⟨_, _, ⟨T25, L25, k25, n25⟩, -, X25, ⟨Lc25, hQ25, l25, y25, z25⟩, st25⟩ := Jvm.LawKit.callS X24 hx (y := (⟨"com/example/rest_whiteboard/restwhiteboard/http/RequestHeadSkipEmptyLinesPinLaw", "pick", "(IIJ)B"⟩ : MethodName)) hown (mvT hZ (hw _ (List.mem_of_getElem? (i := 1) rfl))) (mvT hZ (hw _ (List.mem_of_getElem? (i := 2) rfl))) (mvT hZ (hw _ (List.mem_of_getElem? (i := 3) rfl))) (mvT hZ (hw _ (List.mem_of_getElem? (i := 4) rfl))) (by decide) (backOf (W := 2) (rm_pick l Z a0 hw [] vs (1 : Int32) vr h24 n0 Z24 ) hZ (hw _ (List.mem_of_getElem? (i := 4) rfl)) (hw _ (List.mem_of_getElem? (i := 3) rfl)) (by decide) (by decide)) (g := (mkF m 22 #[.val (.int vs), .val (.long vr), .second, .val (.int vf), .val (.int vt), .val (.ref b22), .unset, .unset, .unset, .unset, .unset] [(.long vr), (.int (1 : Int32)), (.int vs), (.int (1 : Int32)), (.ref b22)])) rfl (by rw [hml]; rfl) (argsL := [(.int vs), (.int (1 : Int32)), (.long vr)]) (rest := [(.int (1 : Int32)), (.ref b22)]) (lenOf pd_0 rfl) rfl (by show 2 * 0 + _ ≤ _; exact Nat.le_of_eq rfl) (hb hby at_22) (fun _ _ => ⟨rfl, e24, (by decide : 1 + 0 ≤ _), (by decide : 6 + 0 ≤ _)⟩)
  dsimp only [Pt.U, Pt.locs, Pt.cells, Pt.slots] at X25 l25 y25 z25 st25 hQ25
  subst l25 y25 z25
  obtain ⟨⟨r25, rfl, hr25⟩, N25q, e25⟩ := hQ25
  have N25 := Fr.app N24 N25q
  obtain ⟨cl26, Ar26, q26, S26, N26a, H26, G26⟩ := id Av_b22_24
  have hin26 : ¬ ((1 : Int32) < 0 ∨ cl26.slots.size ≤ ((1 : Int32)).toNatClampNeg) := inb_of S26 ⟨by decide, by decide⟩
  obtain ⟨T26, h26, X26, e26, W26, st26⟩ := stB X25 hx hZ e25 Ar26 (j := (1 : Int32)) hin26 (g := (mkF m 25 #[.val (.int vs), .val (.long vr), .second, .val (.int vf), .val (.int vt), .val (.ref b22), .unset, .unset, .unset, .unset, .unset] [(.int r25), (.int (1 : Int32)), (.ref b22)])) rfl rfl (hb hby at_25)
  have Av_b22_26 : Arv Z h26 b22 k22 .byte (6 : Int32) [(.int (nar .byte r23)), (.int (nar .byte r25)), (.int (0 : Int32)), (.int (0 : Int32)), (.int (0 : Int32)), (.int (0 : Int32))] (.int (0 : Int32)) := Arv.set Ar26 q26 S26 N26a H26 G26 (fits_nar_byte _) W26 1 rfl (Nat.le_of_ble_eq_true rfl)
  have Z26 : n0 ≤ h26.size := Nat.le_trans Z24 (Keep.of_wr W26).1
  have N26 := Fr.snoc X26 N25 g_b22
  obtain ⟨_, _, ⟨T27, L27, k27, n27⟩, -, X27, ⟨Lc27, hQ27, l27, y27, z27⟩, st27⟩ := Jvm.LawKit.callS X26 hx (y := (⟨"com/example/rest_whiteboard/restwhiteboard/http/RequestHeadSkipEmptyLinesPinLaw", "pick", "(IIJ)B"⟩ : MethodName)) hown (mvT hZ (hw _ (List.mem_of_getElem? (i := 1) rfl))) (mvT hZ (hw _ (List.mem_of_getElem? (i := 2) rfl))) (mvT hZ (hw _ (List.mem_of_getElem? (i := 3) rfl))) (mvT hZ (hw _ (List.mem_of_getElem? (i := 4) rfl))) (by decide) (backOf (W := 2) (rm_pick l Z a0 hw [] vs (2 : Int32) vr h26 n0 Z26 ) hZ (hw _ (List.mem_of_getElem? (i := 4) rfl)) (hw _ (List.mem_of_getElem? (i := 3) rfl)) (by decide) (by decide)) (g := (mkF m 32 #[.val (.int vs), .val (.long vr), .second, .val (.int vf), .val (.int vt), .val (.ref b22), .unset, .unset, .unset, .unset, .unset] [(.long vr), (.int (2 : Int32)), (.int vs), (.int (2 : Int32)), (.ref b22)])) rfl (by rw [hml]; rfl) (argsL := [(.int vs), (.int (2 : Int32)), (.long vr)]) (rest := [(.int (2 : Int32)), (.ref b22)]) (lenOf pd_0 rfl) rfl (by show 2 * 0 + _ ≤ _; exact Nat.le_of_eq rfl) (hb hby at_32) (fun _ _ => ⟨rfl, e26, (by decide : 1 + 0 ≤ _), (by decide : 6 + 0 ≤ _)⟩)
  dsimp only [Pt.U, Pt.locs, Pt.cells, Pt.slots] at X27 l27 y27 z27 st27 hQ27
  subst l27 y27 z27
  obtain ⟨⟨r27, rfl, hr27⟩, N27q, e27⟩ := hQ27
  have N27 := Fr.app N26 N27q
  obtain ⟨cl28, Ar28, q28, S28, N28a, H28, G28⟩ := id Av_b22_26
  have hin28 : ¬ ((2 : Int32) < 0 ∨ cl28.slots.size ≤ ((2 : Int32)).toNatClampNeg) := inb_of S28 ⟨by decide, by decide⟩
  obtain ⟨T28, h28, X28, e28, W28, st28⟩ := stB X27 hx hZ e27 Ar28 (j := (2 : Int32)) hin28 (g := (mkF m 35 #[.val (.int vs), .val (.long vr), .second, .val (.int vf), .val (.int vt), .val (.ref b22), .unset, .unset, .unset, .unset, .unset] [(.int r27), (.int (2 : Int32)), (.ref b22)])) rfl rfl (hb hby at_35)
  have Av_b22_28 : Arv Z h28 b22 k22 .byte (6 : Int32) [(.int (nar .byte r23)), (.int (nar .byte r25)), (.int (nar .byte r27)), (.int (0 : Int32)), (.int (0 : Int32)), (.int (0 : Int32))] (.int (0 : Int32)) := Arv.set Ar28 q28 S28 N28a H28 G28 (fits_nar_byte _) W28 2 rfl (Nat.le_of_ble_eq_true rfl)
  have Z28 : n0 ≤ h28.size := Nat.le_trans Z26 (Keep.of_wr W28).1
  have N28 := Fr.snoc X28 N27 g_b22
  obtain ⟨_, _, ⟨T29, L29, k29, n29⟩, -, X29, ⟨Lc29, hQ29, l29, y29, z29⟩, st29⟩ := Jvm.LawKit.callS X28 hx (y := (⟨"com/example/rest_whiteboard/restwhiteboard/http/RequestHeadSkipEmptyLinesPinLaw", "pick", "(IIJ)B"⟩ : MethodName)) hown (mvT hZ (hw _ (List.mem_of_getElem? (i := 1) rfl))) (mvT hZ (hw _ (List.mem_of_getElem? (i := 2) rfl))) (mvT hZ (hw _ (List.mem_of_getElem? (i := 3) rfl))) (mvT hZ (hw _ (List.mem_of_getElem? (i := 4) rfl))) (by decide) (backOf (W := 2) (rm_pick l Z a0 hw [] vs (3 : Int32) vr h28 n0 Z28 ) hZ (hw _ (List.mem_of_getElem? (i := 4) rfl)) (hw _ (List.mem_of_getElem? (i := 3) rfl)) (by decide) (by decide)) (g := (mkF m 42 #[.val (.int vs), .val (.long vr), .second, .val (.int vf), .val (.int vt), .val (.ref b22), .unset, .unset, .unset, .unset, .unset] [(.long vr), (.int (3 : Int32)), (.int vs), (.int (3 : Int32)), (.ref b22)])) rfl (by rw [hml]; rfl) (argsL := [(.int vs), (.int (3 : Int32)), (.long vr)]) (rest := [(.int (3 : Int32)), (.ref b22)]) (lenOf pd_0 rfl) rfl (by show 2 * 0 + _ ≤ _; exact Nat.le_of_eq rfl) (hb hby at_42) (fun _ _ => ⟨rfl, e28, (by decide : 1 + 0 ≤ _), (by decide : 6 + 0 ≤ _)⟩)
  dsimp only [Pt.U, Pt.locs, Pt.cells, Pt.slots] at X29 l29 y29 z29 st29 hQ29
  subst l29 y29 z29
  obtain ⟨⟨r29, rfl, hr29⟩, N29q, e29⟩ := hQ29
  have N29 := Fr.app N28 N29q
  obtain ⟨cl30, Ar30, q30, S30, N30a, H30, G30⟩ := id Av_b22_28
  have hin30 : ¬ ((3 : Int32) < 0 ∨ cl30.slots.size ≤ ((3 : Int32)).toNatClampNeg) := inb_of S30 ⟨by decide, by decide⟩
  obtain ⟨T30, h30, X30, e30, W30, st30⟩ := stB X29 hx hZ e29 Ar30 (j := (3 : Int32)) hin30 (g := (mkF m 45 #[.val (.int vs), .val (.long vr), .second, .val (.int vf), .val (.int vt), .val (.ref b22), .unset, .unset, .unset, .unset, .unset] [(.int r29), (.int (3 : Int32)), (.ref b22)])) rfl rfl (hb hby at_45)
  have Av_b22_30 : Arv Z h30 b22 k22 .byte (6 : Int32) [(.int (nar .byte r23)), (.int (nar .byte r25)), (.int (nar .byte r27)), (.int (nar .byte r29)), (.int (0 : Int32)), (.int (0 : Int32))] (.int (0 : Int32)) := Arv.set Ar30 q30 S30 N30a H30 G30 (fits_nar_byte _) W30 3 rfl (Nat.le_of_ble_eq_true rfl)
  have Z30 : n0 ≤ h30.size := Nat.le_trans Z28 (Keep.of_wr W30).1
  have N30 := Fr.snoc X30 N29 g_b22
  obtain ⟨_, _, ⟨T31, L31, k31, n31⟩, -, X31, ⟨Lc31, hQ31, l31, y31, z31⟩, st31⟩ := Jvm.LawKit.callS X30 hx (y := (⟨"com/example/rest_whiteboard/restwhiteboard/http/RequestHeadSkipEmptyLinesPinLaw", "pick", "(IIJ)B"⟩ : MethodName)) hown (mvT hZ (hw _ (List.mem_of_getElem? (i := 1) rfl))) (mvT hZ (hw _ (List.mem_of_getElem? (i := 2) rfl))) (mvT hZ (hw _ (List.mem_of_getElem? (i := 3) rfl))) (mvT hZ (hw _ (List.mem_of_getElem? (i := 4) rfl))) (by decide) (backOf (W := 2) (rm_pick l Z a0 hw [] vs (4 : Int32) vr h30 n0 Z30 ) hZ (hw _ (List.mem_of_getElem? (i := 4) rfl)) (hw _ (List.mem_of_getElem? (i := 3) rfl)) (by decide) (by decide)) (g := (mkF m 52 #[.val (.int vs), .val (.long vr), .second, .val (.int vf), .val (.int vt), .val (.ref b22), .unset, .unset, .unset, .unset, .unset] [(.long vr), (.int (4 : Int32)), (.int vs), (.int (4 : Int32)), (.ref b22)])) rfl (by rw [hml]; rfl) (argsL := [(.int vs), (.int (4 : Int32)), (.long vr)]) (rest := [(.int (4 : Int32)), (.ref b22)]) (lenOf pd_0 rfl) rfl (by show 2 * 0 + _ ≤ _; exact Nat.le_of_eq rfl) (hb hby at_52) (fun _ _ => ⟨rfl, e30, (by decide : 1 + 0 ≤ _), (by decide : 6 + 0 ≤ _)⟩)
  dsimp only [Pt.U, Pt.locs, Pt.cells, Pt.slots] at X31 l31 y31 z31 st31 hQ31
  subst l31 y31 z31
  obtain ⟨⟨r31, rfl, hr31⟩, N31q, e31⟩ := hQ31
  have N31 := Fr.app N30 N31q
  obtain ⟨cl32, Ar32, q32, S32, N32a, H32, G32⟩ := id Av_b22_30
  have hin32 : ¬ ((4 : Int32) < 0 ∨ cl32.slots.size ≤ ((4 : Int32)).toNatClampNeg) := inb_of S32 ⟨by decide, by decide⟩
  obtain ⟨T32, h32, X32, e32, W32, st32⟩ := stB X31 hx hZ e31 Ar32 (j := (4 : Int32)) hin32 (g := (mkF m 55 #[.val (.int vs), .val (.long vr), .second, .val (.int vf), .val (.int vt), .val (.ref b22), .unset, .unset, .unset, .unset, .unset] [(.int r31), (.int (4 : Int32)), (.ref b22)])) rfl rfl (hb hby at_55)
  have Av_b22_32 : Arv Z h32 b22 k22 .byte (6 : Int32) [(.int (nar .byte r23)), (.int (nar .byte r25)), (.int (nar .byte r27)), (.int (nar .byte r29)), (.int (nar .byte r31)), (.int (0 : Int32))] (.int (0 : Int32)) := Arv.set Ar32 q32 S32 N32a H32 G32 (fits_nar_byte _) W32 4 rfl (Nat.le_of_ble_eq_true rfl)
  have Z32 : n0 ≤ h32.size := Nat.le_trans Z30 (Keep.of_wr W32).1
  have N32 := Fr.snoc X32 N31 g_b22
  obtain ⟨_, _, ⟨T33, L33, k33, n33⟩, -, X33, ⟨Lc33, hQ33, l33, y33, z33⟩, st33⟩ := Jvm.LawKit.callS X32 hx (y := (⟨"com/example/rest_whiteboard/restwhiteboard/http/RequestHeadSkipEmptyLinesPinLaw", "pick", "(IIJ)B"⟩ : MethodName)) hown (mvT hZ (hw _ (List.mem_of_getElem? (i := 1) rfl))) (mvT hZ (hw _ (List.mem_of_getElem? (i := 2) rfl))) (mvT hZ (hw _ (List.mem_of_getElem? (i := 3) rfl))) (mvT hZ (hw _ (List.mem_of_getElem? (i := 4) rfl))) (by decide) (backOf (W := 2) (rm_pick l Z a0 hw [] vs (5 : Int32) vr h32 n0 Z32 ) hZ (hw _ (List.mem_of_getElem? (i := 4) rfl)) (hw _ (List.mem_of_getElem? (i := 3) rfl)) (by decide) (by decide)) (g := (mkF m 62 #[.val (.int vs), .val (.long vr), .second, .val (.int vf), .val (.int vt), .val (.ref b22), .unset, .unset, .unset, .unset, .unset] [(.long vr), (.int (5 : Int32)), (.int vs), (.int (5 : Int32)), (.ref b22)])) rfl (by rw [hml]; rfl) (argsL := [(.int vs), (.int (5 : Int32)), (.long vr)]) (rest := [(.int (5 : Int32)), (.ref b22)]) (lenOf pd_0 rfl) rfl (by show 2 * 0 + _ ≤ _; exact Nat.le_of_eq rfl) (hb hby at_62) (fun _ _ => ⟨rfl, e32, (by decide : 1 + 0 ≤ _), (by decide : 6 + 0 ≤ _)⟩)
  dsimp only [Pt.U, Pt.locs, Pt.cells, Pt.slots] at X33 l33 y33 z33 st33 hQ33
  subst l33 y33 z33
  obtain ⟨⟨r33, rfl, hr33⟩, N33q, e33⟩ := hQ33
  have N33 := Fr.app N32 N33q
  obtain ⟨cl34, Ar34, q34, S34, N34a, H34, G34⟩ := id Av_b22_32
  have hin34 : ¬ ((5 : Int32) < 0 ∨ cl34.slots.size ≤ ((5 : Int32)).toNatClampNeg) := inb_of S34 ⟨by decide, by decide⟩
  obtain ⟨T34, h34, X34, e34, W34, st34⟩ := stB X33 hx hZ e33 Ar34 (j := (5 : Int32)) hin34 (g := (mkF m 65 #[.val (.int vs), .val (.long vr), .second, .val (.int vf), .val (.int vt), .val (.ref b22), .unset, .unset, .unset, .unset, .unset] [(.int r33), (.int (5 : Int32)), (.ref b22)])) rfl rfl (hb hby at_65)
  have Av_b22_34 : Arv Z h34 b22 k22 .byte (6 : Int32) [(.int (nar .byte r23)), (.int (nar .byte r25)), (.int (nar .byte r27)), (.int (nar .byte r29)), (.int (nar .byte r31)), (.int (nar .byte r33))] (.int (0 : Int32)) := Arv.set Ar34 q34 S34 N34a H34 G34 (fits_nar_byte _) W34 5 rfl (Nat.le_of_ble_eq_true rfl)
  have Z34 : n0 ≤ h34.size := Nat.le_trans Z32 (Keep.of_wr W34).1
  have N34 := Fr.snoc X34 N33 g_b22
  obtain ⟨_, _, ⟨T35, L35, k35, n35⟩, -, X35, ⟨Lc35, hQ35, l35, y35, z35⟩, st35⟩ := Jvm.LawKit.callS X34 hx (y := (⟨"com/example/rest_whiteboard/restwhiteboard/http/RequestHead", "skipEmptyLines", "([BII)I"⟩ : MethodName)) hown (mvT hZ (hw _ (List.mem_of_getElem? (i := 6) rfl))) (mvT hZ (hw _ (List.mem_of_getElem? (i := 7) rfl))) (mvT hZ (hw _ (List.mem_of_getElem? (i := 8) rfl))) (mvT hZ (hw _ (List.mem_of_getElem? (i := 9) rfl))) (by decide) (backOf (W := 0) (rm_sk l Z a0 hw [] b22 yf yt k22 [(nar .byte r23), (nar .byte r25), (nar .byte r27), (nar .byte r29), (nar .byte r31), (nar .byte r33)] h34 n0 Z34 Av_b22_34 hf.1 hf.2 ht.1 ht.2) hZ (hw _ (List.mem_of_getElem? (i := 9) rfl)) (hw _ (List.mem_of_getElem? (i := 8) rfl)) (by decide) (by decide)) (g := (mkF m 91 #[.val (.int vs), .val (.long vr), .second, .val (.int vf), .val (.int vt), .val (.ref b22), .val (.int yf), .val (.int yt), .unset, .unset, .unset] [(.int yt), (.int yf), (.ref b22)])) rfl (by rw [hml]; rfl) (argsL := [(.ref b22), (.int yf), (.int yt)]) (rest := []) (lenOf pd_1 rfl) rfl (by show 2 * 0 + _ ≤ _; exact Nat.le_of_eq rfl) (hb hby at_91) (fun _ _ => ⟨rfl, e34, (by decide : 1 + 0 ≤ _), (by decide : 6 + 0 ≤ _)⟩)
  dsimp only [Pt.U, Pt.locs, Pt.cells, Pt.slots] at X35 l35 y35 z35 st35 hQ35
  subst l35 y35 z35
  obtain ⟨⟨r35, rfl, hr35⟩, N35q, e35⟩ := hQ35
  have N35 := Fr.app N34 N35q
  by_cases h100_36 : yf < yt
  · have hft := (own_lt _ _).mp h100_36
    have hr6 : r35.toInt ≤ 6 := by have := (hr35.2 hft).2.1; omega
    obtain ⟨_, _, ⟨T37, L37, k37, n37⟩, -, X37, ⟨Lc37, hQ37, l37, y37, z37⟩, st37⟩ := Jvm.LawKit.callS X35 hx (y := (⟨"com/example/rest_whiteboard/restwhiteboard/http/RequestHeadSkipEmptyLinesPinLaw", "inPrefix", "([BIII)Z"⟩ : MethodName)) hown (mvT hZ (hw _ (List.mem_of_getElem? (i := 10) rfl))) (mvT hZ (hw _ (List.mem_of_getElem? (i := 11) rfl))) (mvT hZ (hw _ (List.mem_of_getElem? (i := 3) rfl))) (mvT hZ (hw _ (List.mem_of_getElem? (i := 12) rfl))) (by decide) (backOf (W := 0) (rm_ip l Z a0 hw [] b22 yf r35 (0 : Int32) k22 [(nar .byte r23), (nar .byte r25), (nar .byte r27), (nar .byte r29), (nar .byte r31), (nar .byte r33)] h34 n0 Z34 Av_b22_34 (by decide) (by decide) hr6 (fun q1 q2 => (hr35.2 hft).2.2.1 _ q1 q2)) hZ (hw _ (List.mem_of_getElem? (i := 12) rfl)) (hw _ (List.mem_of_getElem? (i := 3) rfl)) (by decide) (by decide)) (g := (mkF m 139 #[.val (.int vs), .val (.long vr), .second, .val (.int vf), .val (.int vt), .val (.ref b22), .val (.int yf), .val (.int yt), .val (.int r35), .unset, .unset] [(.int (0 : Int32)), (.int r35), (.int yf), (.ref b22)])) rfl (by rw [hml]; rfl) (argsL := [(.ref b22), (.int yf), (.int r35), (.int (0 : Int32))]) (rest := []) (lenOf pd_2 rfl) rfl (by show 2 * 0 + _ ≤ _; exact Nat.le_of_eq rfl) (hb hby at_139) (fun _ _ => ⟨rfl, e35, (by decide : 1 + 0 ≤ _), (by decide : 6 + 0 ≤ _)⟩)
    dsimp only [Pt.U, Pt.locs, Pt.cells, Pt.slots] at X37 l37 y37 z37 st37 hQ37
    subst l37 y37 z37
    obtain ⟨⟨r37, rfl, hr37⟩, N37q, e37⟩ := hQ37
    have N37 := Fr.app N35 N37q
    obtain ⟨_, _, ⟨T38, L38, k38, n38⟩, -, X38, ⟨Lc38, hQ38, l38, y38, z38⟩, st38⟩ := Jvm.LawKit.callS X37 hx (y := (⟨"com/example/rest_whiteboard/restwhiteboard/http/RequestHeadSkipEmptyLinesPinLaw", "inPrefix", "([BIII)Z"⟩ : MethodName)) hown (mvT hZ (hw _ (List.mem_of_getElem? (i := 10) rfl))) (mvT hZ (hw _ (List.mem_of_getElem? (i := 11) rfl))) (mvT hZ (hw _ (List.mem_of_getElem? (i := 3) rfl))) (mvT hZ (hw _ (List.mem_of_getElem? (i := 12) rfl))) (by decide) (backOf (W := 0) (rm_ip l Z a0 hw [] b22 yf r35 (1 : Int32) k22 [(nar .byte r23), (nar .byte r25), (nar .byte r27), (nar .byte r29), (nar .byte r31), (nar .byte r33)] h34 n0 Z34 Av_b22_34 (by decide) (by decide) hr6 (fun q1 q2 => (hr35.2 hft).2.2.1 _ q1 q2)) hZ (hw _ (List.mem_of_getElem? (i := 12) rfl)) (hw _ (List.mem_of_getElem? (i := 3) rfl)) (by decide) (by decide)) (g := (mkF m 152 #[.val (.int vs), .val (.long vr), .second, .val (.int vf), .val (.int vt), .val (.ref b22), .val (.int yf), .val (.int yt), .val (.int r35), .unset, .unset] [(.int (1 : Int32)), (.int r35), (.int yf), (.ref b22)])) rfl (by rw [hml]; rfl) (argsL := [(.ref b22), (.int yf), (.int r35), (.int (1 : Int32))]) (rest := []) (lenOf pd_2 rfl) rfl (by show 2 * 0 + _ ≤ _; exact Nat.le_of_eq rfl) (hb hby at_152) (fun _ _ => ⟨rfl, e37, (by decide : 1 + 0 ≤ _), (by decide : 6 + 0 ≤ _)⟩)
    dsimp only [Pt.U, Pt.locs, Pt.cells, Pt.slots] at X38 l38 y38 z38 st38 hQ38
    subst l38 y38 z38
    obtain ⟨⟨r38, rfl, hr38⟩, N38q, e38⟩ := hQ38
    have N38 := Fr.app N37 N38q
    obtain ⟨_, _, ⟨T39, L39, k39, n39⟩, -, X39, ⟨Lc39, hQ39, l39, y39, z39⟩, st39⟩ := Jvm.LawKit.callS X38 hx (y := (⟨"com/example/rest_whiteboard/restwhiteboard/http/RequestHeadSkipEmptyLinesPinLaw", "inPrefix", "([BIII)Z"⟩ : MethodName)) hown (mvT hZ (hw _ (List.mem_of_getElem? (i := 10) rfl))) (mvT hZ (hw _ (List.mem_of_getElem? (i := 11) rfl))) (mvT hZ (hw _ (List.mem_of_getElem? (i := 3) rfl))) (mvT hZ (hw _ (List.mem_of_getElem? (i := 12) rfl))) (by decide) (backOf (W := 0) (rm_ip l Z a0 hw [] b22 yf r35 (2 : Int32) k22 [(nar .byte r23), (nar .byte r25), (nar .byte r27), (nar .byte r29), (nar .byte r31), (nar .byte r33)] h34 n0 Z34 Av_b22_34 (by decide) (by decide) hr6 (fun q1 q2 => (hr35.2 hft).2.2.1 _ q1 q2)) hZ (hw _ (List.mem_of_getElem? (i := 12) rfl)) (hw _ (List.mem_of_getElem? (i := 3) rfl)) (by decide) (by decide)) (g := (mkF m 165 #[.val (.int vs), .val (.long vr), .second, .val (.int vf), .val (.int vt), .val (.ref b22), .val (.int yf), .val (.int yt), .val (.int r35), .unset, .unset] [(.int (2 : Int32)), (.int r35), (.int yf), (.ref b22)])) rfl (by rw [hml]; rfl) (argsL := [(.ref b22), (.int yf), (.int r35), (.int (2 : Int32))]) (rest := []) (lenOf pd_2 rfl) rfl (by show 2 * 0 + _ ≤ _; exact Nat.le_of_eq rfl) (hb hby at_165) (fun _ _ => ⟨rfl, e38, (by decide : 1 + 0 ≤ _), (by decide : 6 + 0 ≤ _)⟩)
    dsimp only [Pt.U, Pt.locs, Pt.cells, Pt.slots] at X39 l39 y39 z39 st39 hQ39
    subst l39 y39 z39
    obtain ⟨⟨r39, rfl, hr39⟩, N39q, e39⟩ := hQ39
    have N39 := Fr.app N38 N39q
    obtain ⟨_, _, ⟨T40, L40, k40, n40⟩, -, X40, ⟨Lc40, hQ40, l40, y40, z40⟩, st40⟩ := Jvm.LawKit.callS X39 hx (y := (⟨"com/example/rest_whiteboard/restwhiteboard/http/RequestHeadSkipEmptyLinesPinLaw", "inPrefix", "([BIII)Z"⟩ : MethodName)) hown (mvT hZ (hw _ (List.mem_of_getElem? (i := 10) rfl))) (mvT hZ (hw _ (List.mem_of_getElem? (i := 11) rfl))) (mvT hZ (hw _ (List.mem_of_getElem? (i := 3) rfl))) (mvT hZ (hw _ (List.mem_of_getElem? (i := 12) rfl))) (by decide) (backOf (W := 0) (rm_ip l Z a0 hw [] b22 yf r35 (3 : Int32) k22 [(nar .byte r23), (nar .byte r25), (nar .byte r27), (nar .byte r29), (nar .byte r31), (nar .byte r33)] h34 n0 Z34 Av_b22_34 (by decide) (by decide) hr6 (fun q1 q2 => (hr35.2 hft).2.2.1 _ q1 q2)) hZ (hw _ (List.mem_of_getElem? (i := 12) rfl)) (hw _ (List.mem_of_getElem? (i := 3) rfl)) (by decide) (by decide)) (g := (mkF m 178 #[.val (.int vs), .val (.long vr), .second, .val (.int vf), .val (.int vt), .val (.ref b22), .val (.int yf), .val (.int yt), .val (.int r35), .unset, .unset] [(.int (3 : Int32)), (.int r35), (.int yf), (.ref b22)])) rfl (by rw [hml]; rfl) (argsL := [(.ref b22), (.int yf), (.int r35), (.int (3 : Int32))]) (rest := []) (lenOf pd_2 rfl) rfl (by show 2 * 0 + _ ≤ _; exact Nat.le_of_eq rfl) (hb hby at_178) (fun _ _ => ⟨rfl, e39, (by decide : 1 + 0 ≤ _), (by decide : 6 + 0 ≤ _)⟩)
    dsimp only [Pt.U, Pt.locs, Pt.cells, Pt.slots] at X40 l40 y40 z40 st40 hQ40
    subst l40 y40 z40
    obtain ⟨⟨r40, rfl, hr40⟩, N40q, e40⟩ := hQ40
    have N40 := Fr.app N39 N40q
    obtain ⟨_, _, ⟨T41, L41, k41, n41⟩, -, X41, ⟨Lc41, hQ41, l41, y41, z41⟩, st41⟩ := Jvm.LawKit.callS X40 hx (y := (⟨"com/example/rest_whiteboard/restwhiteboard/http/RequestHeadSkipEmptyLinesPinLaw", "inPrefix", "([BIII)Z"⟩ : MethodName)) hown (mvT hZ (hw _ (List.mem_of_getElem? (i := 10) rfl))) (mvT hZ (hw _ (List.mem_of_getElem? (i := 11) rfl))) (mvT hZ (hw _ (List.mem_of_getElem? (i := 3) rfl))) (mvT hZ (hw _ (List.mem_of_getElem? (i := 12) rfl))) (by decide) (backOf (W := 0) (rm_ip l Z a0 hw [] b22 yf r35 (4 : Int32) k22 [(nar .byte r23), (nar .byte r25), (nar .byte r27), (nar .byte r29), (nar .byte r31), (nar .byte r33)] h34 n0 Z34 Av_b22_34 (by decide) (by decide) hr6 (fun q1 q2 => (hr35.2 hft).2.2.1 _ q1 q2)) hZ (hw _ (List.mem_of_getElem? (i := 12) rfl)) (hw _ (List.mem_of_getElem? (i := 3) rfl)) (by decide) (by decide)) (g := (mkF m 191 #[.val (.int vs), .val (.long vr), .second, .val (.int vf), .val (.int vt), .val (.ref b22), .val (.int yf), .val (.int yt), .val (.int r35), .unset, .unset] [(.int (4 : Int32)), (.int r35), (.int yf), (.ref b22)])) rfl (by rw [hml]; rfl) (argsL := [(.ref b22), (.int yf), (.int r35), (.int (4 : Int32))]) (rest := []) (lenOf pd_2 rfl) rfl (by show 2 * 0 + _ ≤ _; exact Nat.le_of_eq rfl) (hb hby at_191) (fun _ _ => ⟨rfl, e40, (by decide : 1 + 0 ≤ _), (by decide : 6 + 0 ≤ _)⟩)
    dsimp only [Pt.U, Pt.locs, Pt.cells, Pt.slots] at X41 l41 y41 z41 st41 hQ41
    subst l41 y41 z41
    obtain ⟨⟨r41, rfl, hr41⟩, N41q, e41⟩ := hQ41
    have N41 := Fr.app N40 N41q
    obtain ⟨_, _, ⟨T42, L42, k42, n42⟩, -, X42, ⟨Lc42, hQ42, l42, y42, z42⟩, st42⟩ := Jvm.LawKit.callS X41 hx (y := (⟨"com/example/rest_whiteboard/restwhiteboard/http/RequestHeadSkipEmptyLinesPinLaw", "inPrefix", "([BIII)Z"⟩ : MethodName)) hown (mvT hZ (hw _ (List.mem_of_getElem? (i := 10) rfl))) (mvT hZ (hw _ (List.mem_of_getElem? (i := 11) rfl))) (mvT hZ (hw _ (List.mem_of_getElem? (i := 3) rfl))) (mvT hZ (hw _ (List.mem_of_getElem? (i := 12) rfl))) (by decide) (backOf (W := 0) (rm_ip l Z a0 hw [] b22 yf r35 (5 : Int32) k22 [(nar .byte r23), (nar .byte r25), (nar .byte r27), (nar .byte r29), (nar .byte r31), (nar .byte r33)] h34 n0 Z34 Av_b22_34 (by decide) (by decide) hr6 (fun q1 q2 => (hr35.2 hft).2.2.1 _ q1 q2)) hZ (hw _ (List.mem_of_getElem? (i := 12) rfl)) (hw _ (List.mem_of_getElem? (i := 3) rfl)) (by decide) (by decide)) (g := (mkF m 204 #[.val (.int vs), .val (.long vr), .second, .val (.int vf), .val (.int vt), .val (.ref b22), .val (.int yf), .val (.int yt), .val (.int r35), .unset, .unset] [(.int (5 : Int32)), (.int r35), (.int yf), (.ref b22)])) rfl (by rw [hml]; rfl) (argsL := [(.ref b22), (.int yf), (.int r35), (.int (5 : Int32))]) (rest := []) (lenOf pd_2 rfl) rfl (by show 2 * 0 + _ ≤ _; exact Nat.le_of_eq rfl) (hb hby at_204) (fun _ _ => ⟨rfl, e41, (by decide : 1 + 0 ≤ _), (by decide : 6 + 0 ≤ _)⟩)
    dsimp only [Pt.U, Pt.locs, Pt.cells, Pt.slots] at X42 l42 y42 z42 st42 hQ42
    subst l42 y42 z42
    obtain ⟨⟨r42, rfl, hr42⟩, N42q, e42⟩ := hQ42
    have N42 := Fr.app N41 N42q
    by_cases h221_43 : r35 = yt
    · obtain ⟨fs, hr, hrun, hended, hW, hsame⟩ := X42.leave (v := some (.int (1 : Int32))) (fun h => by rw [Bd.returns] at h; cases h)
      refine ⟨_, _, pre0 _ ?_, hrun, hended, _, _, rfl, ?_, ⟨_, rfl⟩, hW, hsame.mono (by decide) (by decide)⟩
      · show Steps p.tables e below (s₁.setTop (mkF m 0 #[.val (.int vs), .val (.long vr), .second, .val (.int vf), .val (.int vt), .unset, .unset, .unset, .unset, .unset, .unset] [])) _
        refine XS.bipush X0.here hx rfl (hb hby at_0) ?_
        show Steps p.tables e below (s₁.setTop (mkF m 2 #[.val (.int vs), .val (.long vr), .second, .val (.int vf), .val (.int vt), .unset, .unset, .unset, .unset, .unset, .unset] [(.int (6 : Int32))])) _
        refine st22 _ ?_
        show Steps p.tables e below (T22.setTop (mkF m 4 #[.val (.int vs), .val (.long vr), .second, .val (.int vf), .val (.int vt), .unset, .unset, .unset, .unset, .unset, .unset] [(.ref b22)])) _
        refine XS.astore X22.here hx rfl (hb hby at_4) rfl rfl (l' := #[.val (.int vs), .val (.long vr), .second, .val (.int vf), .val (.int vt), .val (.ref b22), .unset, .unset, .unset, .unset, .unset]) rfl ?_
        show Steps p.tables e below (T22.setTop (mkF m 6 #[.val (.int vs), .val (.long vr), .second, .val (.int vf), .val (.int vt), .val (.ref b22), .unset, .unset, .unset, .unset, .unset] [])) _
        refine XS.aload X22.here hx rfl (hb hby at_6) rfl rfl ?_
        show Steps p.tables e below (T22.setTop (mkF m 8 #[.val (.int vs), .val (.long vr), .second, .val (.int vf), .val (.int vt), .val (.ref b22), .unset, .unset, .unset, .unset, .unset] [(.ref b22)])) _
        refine XS.iconst X22.here hx rfl (hb hby at_8) ?_
        show Steps p.tables e below (T22.setTop (mkF m 9 #[.val (.int vs), .val (.long vr), .second, .val (.int vf), .val (.int vt), .val (.ref b22), .unset, .unset, .unset, .unset, .unset] [(.int (0 : Int32)), (.ref b22)])) _
        refine XS.iloadN X22.here hx rfl (hb hby at_9) rfl ?_
        show Steps p.tables e below (T22.setTop (mkF m 10 #[.val (.int vs), .val (.long vr), .second, .val (.int vf), .val (.int vt), .val (.ref b22), .unset, .unset, .unset, .unset, .unset] [(.int vs), (.int (0 : Int32)), (.ref b22)])) _
        refine XS.iconst X22.here hx rfl (hb hby at_10) ?_
        show Steps p.tables e below (T22.setTop (mkF m 11 #[.val (.int vs), .val (.long vr), .second, .val (.int vf), .val (.int vt), .val (.ref b22), .unset, .unset, .unset, .unset, .unset] [(.int (0 : Int32)), (.int vs), (.int (0 : Int32)), (.ref b22)])) _
        refine XS.lloadN X22.here hx rfl (hb hby at_11) rfl ?_
        show Steps p.tables e below (T22.setTop (mkF m 12 #[.val (.int vs), .val (.long vr), .second, .val (.int vf), .val (.int vt), .val (.ref b22), .unset, .unset, .unset, .unset, .unset] [(.long vr), (.int (0 : Int32)), (.int vs), (.int (0 : Int32)), (.ref b22)])) _
        refine st23 _ ?_
        show Steps p.tables e below (T23.setTop (mkF m 15 #[.val (.int vs), .val (.long vr), .second, .val (.int vf), .val (.int vt), .val (.ref b22), .unset, .unset, .unset, .unset, .unset] [(.int r23), (.int (0 : Int32)), (.ref b22)])) _
        refine st24 _ ?_
        show Steps p.tables e below (T24.setTop (mkF m 16 #[.val (.int vs), .val (.long vr), .second, .val (.int vf), .val (.int vt), .val (.ref b22), .unset, .unset, .unset, .unset, .unset] [])) _
        refine XS.aload X24.here hx rfl (hb hby at_16) rfl rfl ?_
        show Steps p.tables e below (T24.setTop (mkF m 18 #[.val (.int vs), .val (.long vr), .second, .val (.int vf), .val (.int vt), .val (.ref b22), .unset, .unset, .unset, .unset, .unset] [(.ref b22)])) _
        refine XS.iconst X24.here hx rfl (hb hby at_18) ?_
        show Steps p.tables e below (T24.setTop (mkF m 19 #[.val (.int vs), .val (.long vr), .second, .val (.int vf), .val (.int vt), .val (.ref b22), .unset, .unset, .unset, .unset, .unset] [(.int (1 : Int32)), (.ref b22)])) _
        refine XS.iloadN X24.here hx rfl (hb hby at_19) rfl ?_
        show Steps p.tables e below (T24.setTop (mkF m 20 #[.val (.int vs), .val (.long vr), .second, .val (.int vf), .val (.int vt), .val (.ref b22), .unset, .unset, .unset, .unset, .unset] [(.int vs), (.int (1 : Int32)), (.ref b22)])) _
        refine XS.iconst X24.here hx rfl (hb hby at_20) ?_
        show Steps p.tables e below (T24.setTop (mkF m 21 #[.val (.int vs), .val (.long vr), .second, .val (.int vf), .val (.int vt), .val (.ref b22), .unset, .unset, .unset, .unset, .unset] [(.int (1 : Int32)), (.int vs), (.int (1 : Int32)), (.ref b22)])) _
        refine XS.lloadN X24.here hx rfl (hb hby at_21) rfl ?_
        show Steps p.tables e below (T24.setTop (mkF m 22 #[.val (.int vs), .val (.long vr), .second, .val (.int vf), .val (.int vt), .val (.ref b22), .unset, .unset, .unset, .unset, .unset] [(.long vr), (.int (1 : Int32)), (.int vs), (.int (1 : Int32)), (.ref b22)])) _
        refine st25 _ ?_
        show Steps p.tables e below (T25.setTop (mkF m 25 #[.val (.int vs), .val (.long vr), .second, .val (.int vf), .val (.int vt), .val (.ref b22), .unset, .unset, .unset, .unset, .unset] [(.int r25), (.int (1 : Int32)), (.ref b22)])) _
        refine st26 _ ?_
        show Steps p.tables e below (T26.setTop (mkF m 26 #[.val (.int vs), .val (.long vr), .second, .val (.int vf), .val (.int vt), .val (.ref b22), .unset, .unset, .unset, .unset, .unset] [])) _
        refine XS.aload X26.here hx rfl (hb hby at_26) rfl rfl ?_
        show Steps p.tables e below (T26.setTop (mkF m 28 #[.val (.int vs), .val (.long vr), .second, .val (.int vf), .val (.int vt), .val (.ref b22), .unset, .unset, .unset, .unset, .unset] [(.ref b22)])) _
        refine XS.iconst X26.here hx rfl (hb hby at_28) ?_
        show Steps p.tables e below (T26.setTop (mkF m 29 #[.val (.int vs), .val (.long vr), .second, .val (.int vf), .val (.int vt), .val (.ref b22), .unset, .unset, .unset, .unset, .unset] [(.int (2 : Int32)), (.ref b22)])) _
        refine XS.iloadN X26.here hx rfl (hb hby at_29) rfl ?_
        show Steps p.tables e below (T26.setTop (mkF m 30 #[.val (.int vs), .val (.long vr), .second, .val (.int vf), .val (.int vt), .val (.ref b22), .unset, .unset, .unset, .unset, .unset] [(.int vs), (.int (2 : Int32)), (.ref b22)])) _
        refine XS.iconst X26.here hx rfl (hb hby at_30) ?_
        show Steps p.tables e below (T26.setTop (mkF m 31 #[.val (.int vs), .val (.long vr), .second, .val (.int vf), .val (.int vt), .val (.ref b22), .unset, .unset, .unset, .unset, .unset] [(.int (2 : Int32)), (.int vs), (.int (2 : Int32)), (.ref b22)])) _
        refine XS.lloadN X26.here hx rfl (hb hby at_31) rfl ?_
        show Steps p.tables e below (T26.setTop (mkF m 32 #[.val (.int vs), .val (.long vr), .second, .val (.int vf), .val (.int vt), .val (.ref b22), .unset, .unset, .unset, .unset, .unset] [(.long vr), (.int (2 : Int32)), (.int vs), (.int (2 : Int32)), (.ref b22)])) _
        refine st27 _ ?_
        show Steps p.tables e below (T27.setTop (mkF m 35 #[.val (.int vs), .val (.long vr), .second, .val (.int vf), .val (.int vt), .val (.ref b22), .unset, .unset, .unset, .unset, .unset] [(.int r27), (.int (2 : Int32)), (.ref b22)])) _
        refine st28 _ ?_
        show Steps p.tables e below (T28.setTop (mkF m 36 #[.val (.int vs), .val (.long vr), .second, .val (.int vf), .val (.int vt), .val (.ref b22), .unset, .unset, .unset, .unset, .unset] [])) _
        refine XS.aload X28.here hx rfl (hb hby at_36) rfl rfl ?_
        show Steps p.tables e below (T28.setTop (mkF m 38 #[.val (.int vs), .val (.long vr), .second, .val (.int vf), .val (.int vt), .val (.ref b22), .unset, .unset, .unset, .unset, .unset] [(.ref b22)])) _
        refine XS.iconst X28.here hx rfl (hb hby at_38) ?_
        show Steps p.tables e below (T28.setTop (mkF m 39 #[.val (.int vs), .val (.long vr), .second, .val (.int vf), .val (.int vt), .val (.ref b22), .unset, .unset, .unset, .unset, .unset] [(.int (3 : Int32)), (.ref b22)])) _
        refine XS.iloadN X28.here hx rfl (hb hby at_39) rfl ?_
        show Steps p.tables e below (T28.setTop (mkF m 40 #[.val (.int vs), .val (.long vr), .second, .val (.int vf), .val (.int vt), .val (.ref b22), .unset, .unset, .unset, .unset, .unset] [(.int vs), (.int (3 : Int32)), (.ref b22)])) _
        refine XS.iconst X28.here hx rfl (hb hby at_40) ?_
        show Steps p.tables e below (T28.setTop (mkF m 41 #[.val (.int vs), .val (.long vr), .second, .val (.int vf), .val (.int vt), .val (.ref b22), .unset, .unset, .unset, .unset, .unset] [(.int (3 : Int32)), (.int vs), (.int (3 : Int32)), (.ref b22)])) _
        refine XS.lloadN X28.here hx rfl (hb hby at_41) rfl ?_
        show Steps p.tables e below (T28.setTop (mkF m 42 #[.val (.int vs), .val (.long vr), .second, .val (.int vf), .val (.int vt), .val (.ref b22), .unset, .unset, .unset, .unset, .unset] [(.long vr), (.int (3 : Int32)), (.int vs), (.int (3 : Int32)), (.ref b22)])) _
        refine st29 _ ?_
        show Steps p.tables e below (T29.setTop (mkF m 45 #[.val (.int vs), .val (.long vr), .second, .val (.int vf), .val (.int vt), .val (.ref b22), .unset, .unset, .unset, .unset, .unset] [(.int r29), (.int (3 : Int32)), (.ref b22)])) _
        refine st30 _ ?_
        show Steps p.tables e below (T30.setTop (mkF m 46 #[.val (.int vs), .val (.long vr), .second, .val (.int vf), .val (.int vt), .val (.ref b22), .unset, .unset, .unset, .unset, .unset] [])) _
        refine XS.aload X30.here hx rfl (hb hby at_46) rfl rfl ?_
        show Steps p.tables e below (T30.setTop (mkF m 48 #[.val (.int vs), .val (.long vr), .second, .val (.int vf), .val (.int vt), .val (.ref b22), .unset, .unset, .unset, .unset, .unset] [(.ref b22)])) _
        refine XS.iconst X30.here hx rfl (hb hby at_48) ?_
        show Steps p.tables e below (T30.setTop (mkF m 49 #[.val (.int vs), .val (.long vr), .second, .val (.int vf), .val (.int vt), .val (.ref b22), .unset, .unset, .unset, .unset, .unset] [(.int (4 : Int32)), (.ref b22)])) _
        refine XS.iloadN X30.here hx rfl (hb hby at_49) rfl ?_
        show Steps p.tables e below (T30.setTop (mkF m 50 #[.val (.int vs), .val (.long vr), .second, .val (.int vf), .val (.int vt), .val (.ref b22), .unset, .unset, .unset, .unset, .unset] [(.int vs), (.int (4 : Int32)), (.ref b22)])) _
        refine XS.iconst X30.here hx rfl (hb hby at_50) ?_
        show Steps p.tables e below (T30.setTop (mkF m 51 #[.val (.int vs), .val (.long vr), .second, .val (.int vf), .val (.int vt), .val (.ref b22), .unset, .unset, .unset, .unset, .unset] [(.int (4 : Int32)), (.int vs), (.int (4 : Int32)), (.ref b22)])) _
        refine XS.lloadN X30.here hx rfl (hb hby at_51) rfl ?_
        show Steps p.tables e below (T30.setTop (mkF m 52 #[.val (.int vs), .val (.long vr), .second, .val (.int vf), .val (.int vt), .val (.ref b22), .unset, .unset, .unset, .unset, .unset] [(.long vr), (.int (4 : Int32)), (.int vs), (.int (4 : Int32)), (.ref b22)])) _
        refine st31 _ ?_
        show Steps p.tables e below (T31.setTop (mkF m 55 #[.val (.int vs), .val (.long vr), .second, .val (.int vf), .val (.int vt), .val (.ref b22), .unset, .unset, .unset, .unset, .unset] [(.int r31), (.int (4 : Int32)), (.ref b22)])) _
        refine st32 _ ?_
        show Steps p.tables e below (T32.setTop (mkF m 56 #[.val (.int vs), .val (.long vr), .second, .val (.int vf), .val (.int vt), .val (.ref b22), .unset, .unset, .unset, .unset, .unset] [])) _
        refine XS.aload X32.here hx rfl (hb hby at_56) rfl rfl ?_
        show Steps p.tables e below (T32.setTop (mkF m 58 #[.val (.int vs), .val (.long vr), .second, .val (.int vf), .val (.int vt), .val (.ref b22), .unset, .unset, .unset, .unset, .unset] [(.ref b22)])) _
        refine XS.iconst X32.here hx rfl (hb hby at_58) ?_
        show Steps p.tables e below (T32.setTop (mkF m 59 #[.val (.int vs), .val (.long vr), .second, .val (.int vf), .val (.int vt), .val (.ref b22), .unset, .unset, .unset, .unset, .unset] [(.int (5 : Int32)), (.ref b22)])) _
        refine XS.iloadN X32.here hx rfl (hb hby at_59) rfl ?_
        show Steps p.tables e below (T32.setTop (mkF m 60 #[.val (.int vs), .val (.long vr), .second, .val (.int vf), .val (.int vt), .val (.ref b22), .unset, .unset, .unset, .unset, .unset] [(.int vs), (.int (5 : Int32)), (.ref b22)])) _
        refine XS.iconst X32.here hx rfl (hb hby at_60) ?_
        show Steps p.tables e below (T32.setTop (mkF m 61 #[.val (.int vs), .val (.long vr), .second, .val (.int vf), .val (.int vt), .val (.ref b22), .unset, .unset, .unset, .unset, .unset] [(.int (5 : Int32)), (.int vs), (.int (5 : Int32)), (.ref b22)])) _
        refine XS.lloadN X32.here hx rfl (hb hby at_61) rfl ?_
        show Steps p.tables e below (T32.setTop (mkF m 62 #[.val (.int vs), .val (.long vr), .second, .val (.int vf), .val (.int vt), .val (.ref b22), .unset, .unset, .unset, .unset, .unset] [(.long vr), (.int (5 : Int32)), (.int vs), (.int (5 : Int32)), (.ref b22)])) _
        refine st33 _ ?_
        show Steps p.tables e below (T33.setTop (mkF m 65 #[.val (.int vs), .val (.long vr), .second, .val (.int vf), .val (.int vt), .val (.ref b22), .unset, .unset, .unset, .unset, .unset] [(.int r33), (.int (5 : Int32)), (.ref b22)])) _
        refine st34 _ ?_
        show Steps p.tables e below (T34.setTop (mkF m 66 #[.val (.int vs), .val (.long vr), .second, .val (.int vf), .val (.int vt), .val (.ref b22), .unset, .unset, .unset, .unset, .unset] [])) _
        refine XS.iloadN X34.here hx rfl (hb hby at_66) rfl ?_
        show Steps p.tables e below (T34.setTop (mkF m 67 #[.val (.int vs), .val (.long vr), .second, .val (.int vf), .val (.int vt), .val (.ref b22), .unset, .unset, .unset, .unset, .unset] [(.int vf)])) _
        refine X34.ldcInt hx hown (mvT hZ (hw _ (List.mem_of_getElem? (i := 5) rfl))) (g := (mkF m 67 #[.val (.int vs), .val (.long vr), .second, .val (.int vf), .val (.int vt), .val (.ref b22), .unset, .unset, .unset, .unset, .unset] [(.int vf)])) rfl (hb hby at_67) _ ?_
        show Steps p.tables e below (T34.setTop (mkF m 69 #[.val (.int vs), .val (.long vr), .second, .val (.int vf), .val (.int vt), .val (.ref b22), .unset, .unset, .unset, .unset, .unset] [(.int (2147483647 : Int32)), (.int vf)])) _
        refine XS.iand X34.here hx rfl (hb hby at_69) rfl ?_
        show Steps p.tables e below (T34.setTop (mkF m 70 #[.val (.int vs), .val (.long vr), .second, .val (.int vf), .val (.int vt), .val (.ref b22), .unset, .unset, .unset, .unset, .unset] [(.int (vf &&& (2147483647 : Int32)))])) _
        refine XS.bipush X34.here hx rfl (hb hby at_70) ?_
        show Steps p.tables e below (T34.setTop (mkF m 72 #[.val (.int vs), .val (.long vr), .second, .val (.int vf), .val (.int vt), .val (.ref b22), .unset, .unset, .unset, .unset, .unset] [(.int (7 : Int32)), (.int (vf &&& (2147483647 : Int32)))])) _
        refine iremM X34 hx rfl (hb hby at_72) rfl (by decide) ?_
        show Steps p.tables e below (T34.setTop (mkF m 73 #[.val (.int vs), .val (.long vr), .second, .val (.int vf), .val (.int vt), .val (.ref b22), .unset, .unset, .unset, .unset, .unset] [(.int ((vf &&& (2147483647 : Int32)) % (7 : Int32)))])) _
        rw [← hyf]
        show Steps p.tables e below (T34.setTop (mkF m 73 #[.val (.int vs), .val (.long vr), .second, .val (.int vf), .val (.int vt), .val (.ref b22), .unset, .unset, .unset, .unset, .unset] [(.int yf)])) _
        refine XS.istore X34.here hx rfl (hb hby at_73) rfl (l' := #[.val (.int vs), .val (.long vr), .second, .val (.int vf), .val (.int vt), .val (.ref b22), .val (.int yf), .unset, .unset, .unset, .unset]) rfl ?_
        show Steps p.tables e below (T34.setTop (mkF m 75 #[.val (.int vs), .val (.long vr), .second, .val (.int vf), .val (.int vt), .val (.ref b22), .val (.int yf), .unset, .unset, .unset, .unset] [])) _
        refine XS.iload X34.here hx rfl (hb hby at_75) rfl ?_
        show Steps p.tables e below (T34.setTop (mkF m 77 #[.val (.int vs), .val (.long vr), .second, .val (.int vf), .val (.int vt), .val (.ref b22), .val (.int yf), .unset, .unset, .unset, .unset] [(.int vt)])) _
        refine X34.ldcInt hx hown (mvT hZ (hw _ (List.mem_of_getElem? (i := 5) rfl))) (g := (mkF m 77 #[.val (.int vs), .val (.long vr), .second, .val (.int vf), .val (.int vt), .val (.ref b22), .val (.int yf), .unset, .unset, .unset, .unset] [(.int vt)])) rfl (hb hby at_77) _ ?_
        show Steps p.tables e below (T34.setTop (mkF m 79 #[.val (.int vs), .val (.long vr), .second, .val (.int vf), .val (.int vt), .val (.ref b22), .val (.int yf), .unset, .unset, .unset, .unset] [(.int (2147483647 : Int32)), (.int vt)])) _
        refine XS.iand X34.here hx rfl (hb hby at_79) rfl ?_
        show Steps p.tables e below (T34.setTop (mkF m 80 #[.val (.int vs), .val (.long vr), .second, .val (.int vf), .val (.int vt), .val (.ref b22), .val (.int yf), .unset, .unset, .unset, .unset] [(.int (vt &&& (2147483647 : Int32)))])) _
        refine XS.bipush X34.here hx rfl (hb hby at_80) ?_
        show Steps p.tables e below (T34.setTop (mkF m 82 #[.val (.int vs), .val (.long vr), .second, .val (.int vf), .val (.int vt), .val (.ref b22), .val (.int yf), .unset, .unset, .unset, .unset] [(.int (7 : Int32)), (.int (vt &&& (2147483647 : Int32)))])) _
        refine iremM X34 hx rfl (hb hby at_82) rfl (by decide) ?_
        show Steps p.tables e below (T34.setTop (mkF m 83 #[.val (.int vs), .val (.long vr), .second, .val (.int vf), .val (.int vt), .val (.ref b22), .val (.int yf), .unset, .unset, .unset, .unset] [(.int ((vt &&& (2147483647 : Int32)) % (7 : Int32)))])) _
        rw [← hyt]
        show Steps p.tables e below (T34.setTop (mkF m 83 #[.val (.int vs), .val (.long vr), .second, .val (.int vf), .val (.int vt), .val (.ref b22), .val (.int yf), .unset, .unset, .unset, .unset] [(.int yt)])) _
        refine XS.istore X34.here hx rfl (hb hby at_83) rfl (l' := #[.val (.int vs), .val (.long vr), .second, .val (.int vf), .val (.int vt), .val (.ref b22), .val (.int yf), .val (.int yt), .unset, .unset, .unset]) rfl ?_
        show Steps p.tables e below (T34.setTop (mkF m 85 #[.val (.int vs), .val (.long vr), .second, .val (.int vf), .val (.int vt), .val (.ref b22), .val (.int yf), .val (.int yt), .unset, .unset, .unset] [])) _
        refine XS.aload X34.here hx rfl (hb hby at_85) rfl rfl ?_
        show Steps p.tables e below (T34.setTop (mkF m 87 #[.val (.int vs), .val (.long vr), .second, .val (.int vf), .val (.int vt), .val (.ref b22), .val (.int yf), .val (.int yt), .unset, .unset, .unset] [(.ref b22)])) _
        refine XS.iload X34.here hx rfl (hb hby at_87) rfl ?_
        show Steps p.tables e below (T34.setTop (mkF m 89 #[.val (.int vs), .val (.long vr), .second, .val (.int vf), .val (.int vt), .val (.ref b22), .val (.int yf), .val (.int yt), .unset, .unset, .unset] [(.int yf), (.ref b22)])) _
        refine XS.iload X34.here hx rfl (hb hby at_89) rfl ?_
        show Steps p.tables e below (T34.setTop (mkF m 91 #[.val (.int vs), .val (.long vr), .second, .val (.int vf), .val (.int vt), .val (.ref b22), .val (.int yf), .val (.int yt), .unset, .unset, .unset] [(.int yt), (.int yf), (.ref b22)])) _
        refine st35 _ ?_
        show Steps p.tables e below (T35.setTop (mkF m 94 #[.val (.int vs), .val (.long vr), .second, .val (.int vf), .val (.int vt), .val (.ref b22), .val (.int yf), .val (.int yt), .unset, .unset, .unset] [(.int r35)])) _
        refine XS.istore X35.here hx rfl (hb hby at_94) rfl (l' := #[.val (.int vs), .val (.long vr), .second, .val (.int vf), .val (.int vt), .val (.ref b22), .val (.int yf), .val (.int yt), .val (.int r35), .unset, .unset]) rfl ?_
        show Steps p.tables e below (T35.setTop (mkF m 96 #[.val (.int vs), .val (.long vr), .second, .val (.int vf), .val (.int vt), .val (.ref b22), .val (.int yf), .val (.int yt), .val (.int r35), .unset, .unset] [])) _
        refine XS.iload X35.here hx rfl (hb hby at_96) rfl ?_
        show Steps p.tables e below (T35.setTop (mkF m 98 #[.val (.int vs), .val (.long vr), .second, .val (.int vf), .val (.int vt), .val (.ref b22), .val (.int yf), .val (.int yt), .val (.int r35), .unset, .unset] [(.int yf)])) _
        refine XS.iload X35.here hx rfl (hb hby at_98) rfl ?_
        show Steps p.tables e below (T35.setTop (mkF m 100 #[.val (.int vs), .val (.long vr), .second, .val (.int vf), .val (.int vt), .val (.ref b22), .val (.int yf), .val (.int yt), .val (.int r35), .unset, .unset] [(.int yt), (.int yf)])) _
        refine XS.icmpYes X35.here hx rfl (pc0 := 100) (pc' := 116) rfl (hb hby at_100) rfl (tlt h100_36).1 (by decide) (by decide) ?_
        show Steps p.tables e below (T35.setTop (mkF m 116 #[.val (.int vs), .val (.long vr), .second, .val (.int vf), .val (.int vt), .val (.ref b22), .val (.int yf), .val (.int yt), .val (.int r35), .unset, .unset] [])) _
        refine XS.iload X35.here hx rfl (hb hby at_116) rfl ?_
        show Steps p.tables e below (T35.setTop (mkF m 118 #[.val (.int vs), .val (.long vr), .second, .val (.int vf), .val (.int vt), .val (.ref b22), .val (.int yf), .val (.int yt), .val (.int r35), .unset, .unset] [(.int r35)])) _
        refine XS.iload X35.here hx rfl (hb hby at_118) rfl ?_
        show Steps p.tables e below (T35.setTop (mkF m 120 #[.val (.int vs), .val (.long vr), .second, .val (.int vf), .val (.int vt), .val (.ref b22), .val (.int yf), .val (.int yt), .val (.int r35), .unset, .unset] [(.int yf), (.int r35)])) _
        refine XS.icmpNo X35.here hx rfl (hb hby at_120) rfl (flt (by rw [own_lt]; have := (hr35.2 ((own_lt _ _).mp h100_36)).1; omega : ¬ (r35 < yf))).1 ?_
        show Steps p.tables e below (T35.setTop (mkF m 123 #[.val (.int vs), .val (.long vr), .second, .val (.int vf), .val (.int vt), .val (.ref b22), .val (.int yf), .val (.int yt), .val (.int r35), .unset, .unset] [])) _
        refine XS.iload X35.here hx rfl (hb hby at_123) rfl ?_
        show Steps p.tables e below (T35.setTop (mkF m 125 #[.val (.int vs), .val (.long vr), .second, .val (.int vf), .val (.int vt), .val (.ref b22), .val (.int yf), .val (.int yt), .val (.int r35), .unset, .unset] [(.int r35)])) _
        refine XS.iload X35.here hx rfl (hb hby at_125) rfl ?_
        show Steps p.tables e below (T35.setTop (mkF m 127 #[.val (.int vs), .val (.long vr), .second, .val (.int vf), .val (.int vt), .val (.ref b22), .val (.int yf), .val (.int yt), .val (.int r35), .unset, .unset] [(.int yt), (.int r35)])) _
        refine XS.icmpYes X35.here hx rfl (pc0 := 127) (pc' := 132) rfl (hb hby at_127) rfl (flt (by rw [own_lt]; have := (hr35.2 ((own_lt _ _).mp h100_36)).2.1; omega : ¬ (yt < r35))).2.2.2 (by decide) (by decide) ?_
        show Steps p.tables e below (T35.setTop (mkF m 132 #[.val (.int vs), .val (.long vr), .second, .val (.int vf), .val (.int vt), .val (.ref b22), .val (.int yf), .val (.int yt), .val (.int r35), .unset, .unset] [])) _
        refine XS.aload X35.here hx rfl (hb hby at_132) rfl rfl ?_
        show Steps p.tables e below (T35.setTop (mkF m 134 #[.val (.int vs), .val (.long vr), .second, .val (.int vf), .val (.int vt), .val (.ref b22), .val (.int yf), .val (.int yt), .val (.int r35), .unset, .unset] [(.ref b22)])) _
        refine XS.iload X35.here hx rfl (hb hby at_134) rfl ?_
        show Steps p.tables e below (T35.setTop (mkF m 136 #[.val (.int vs), .val (.long vr), .second, .val (.int vf), .val (.int vt), .val (.ref b22), .val (.int yf), .val (.int yt), .val (.int r35), .unset, .unset] [(.int yf), (.ref b22)])) _
        refine XS.iload X35.here hx rfl (hb hby at_136) rfl ?_
        show Steps p.tables e below (T35.setTop (mkF m 138 #[.val (.int vs), .val (.long vr), .second, .val (.int vf), .val (.int vt), .val (.ref b22), .val (.int yf), .val (.int yt), .val (.int r35), .unset, .unset] [(.int r35), (.int yf), (.ref b22)])) _
        refine XS.iconst X35.here hx rfl (hb hby at_138) ?_
        show Steps p.tables e below (T35.setTop (mkF m 139 #[.val (.int vs), .val (.long vr), .second, .val (.int vf), .val (.int vt), .val (.ref b22), .val (.int yf), .val (.int yt), .val (.int r35), .unset, .unset] [(.int (0 : Int32)), (.int r35), (.int yf), (.ref b22)])) _
        refine st37 _ ?_
        show Steps p.tables e below (T37.setTop (mkF m 142 #[.val (.int vs), .val (.long vr), .second, .val (.int vf), .val (.int vt), .val (.ref b22), .val (.int yf), .val (.int yt), .val (.int r35), .unset, .unset] [(.int r37)])) _
        refine XS.ifNo X37.here hx rfl (hb hby at_142) rfl ((if0 _ _).trans (feq (by rw [hr37]; decide : ¬ (r37 = (0 : Int32)))).1) ?_
        show Steps p.tables e below (T37.setTop (mkF m 145 #[.val (.int vs), .val (.long vr), .second, .val (.int vf), .val (.int vt), .val (.ref b22), .val (.int yf), .val (.int yt), .val (.int r35), .unset, .unset] [])) _
        refine XS.aload X37.here hx rfl (hb hby at_145) rfl rfl ?_
        show Steps p.tables e below (T37.setTop (mkF m 147 #[.val (.int vs), .val (.long vr), .second, .val (.int vf), .val (.int vt), .val (.ref b22), .val (.int yf), .val (.int yt), .val (.int r35), .unset, .unset] [(.ref b22)])) _
        refine XS.iload X37.here hx rfl (hb hby at_147) rfl ?_
        show Steps p.tables e below (T37.setTop (mkF m 149 #[.val (.int vs), .val (.long vr), .second, .val (.int vf), .val (.int vt), .val (.ref b22), .val (.int yf), .val (.int yt), .val (.int r35), .unset, .unset] [(.int yf), (.ref b22)])) _
        refine XS.iload X37.here hx rfl (hb hby at_149) rfl ?_
        show Steps p.tables e below (T37.setTop (mkF m 151 #[.val (.int vs), .val (.long vr), .second, .val (.int vf), .val (.int vt), .val (.ref b22), .val (.int yf), .val (.int yt), .val (.int r35), .unset, .unset] [(.int r35), (.int yf), (.ref b22)])) _
        refine XS.iconst X37.here hx rfl (hb hby at_151) ?_
        show Steps p.tables e below (T37.setTop (mkF m 152 #[.val (.int vs), .val (.long vr), .second, .val (.int vf), .val (.int vt), .val (.ref b22), .val (.int yf), .val (.int yt), .val (.int r35), .unset, .unset] [(.int (1 : Int32)), (.int r35), (.int yf), (.ref b22)])) _
        refine st38 _ ?_
        show Steps p.tables e below (T38.setTop (mkF m 155 #[.val (.int vs), .val (.long vr), .second, .val (.int vf), .val (.int vt), .val (.ref b22), .val (.int yf), .val (.int yt), .val (.int r35), .unset, .unset] [(.int r38)])) _
        refine XS.ifNo X38.here hx rfl (hb hby at_155) rfl ((if0 _ _).trans (feq (by rw [hr38]; decide : ¬ (r38 = (0 : Int32)))).1) ?_
        show Steps p.tables e below (T38.setTop (mkF m 158 #[.val (.int vs), .val (.long vr), .second, .val (.int vf), .val (.int vt), .val (.ref b22), .val (.int yf), .val (.int yt), .val (.int r35), .unset, .unset] [])) _
        refine XS.aload X38.here hx rfl (hb hby at_158) rfl rfl ?_
        show Steps p.tables e below (T38.setTop (mkF m 160 #[.val (.int vs), .val (.long vr), .second, .val (.int vf), .val (.int vt), .val (.ref b22), .val (.int yf), .val (.int yt), .val (.int r35), .unset, .unset] [(.ref b22)])) _
        refine XS.iload X38.here hx rfl (hb hby at_160) rfl ?_
        show Steps p.tables e below (T38.setTop (mkF m 162 #[.val (.int vs), .val (.long vr), .second, .val (.int vf), .val (.int vt), .val (.ref b22), .val (.int yf), .val (.int yt), .val (.int r35), .unset, .unset] [(.int yf), (.ref b22)])) _
        refine XS.iload X38.here hx rfl (hb hby at_162) rfl ?_
        show Steps p.tables e below (T38.setTop (mkF m 164 #[.val (.int vs), .val (.long vr), .second, .val (.int vf), .val (.int vt), .val (.ref b22), .val (.int yf), .val (.int yt), .val (.int r35), .unset, .unset] [(.int r35), (.int yf), (.ref b22)])) _
        refine XS.iconst X38.here hx rfl (hb hby at_164) ?_
        show Steps p.tables e below (T38.setTop (mkF m 165 #[.val (.int vs), .val (.long vr), .second, .val (.int vf), .val (.int vt), .val (.ref b22), .val (.int yf), .val (.int yt), .val (.int r35), .unset, .unset] [(.int (2 : Int32)), (.int r35), (.int yf), (.ref b22)])) _
        refine st39 _ ?_
        show Steps p.tables e below (T39.setTop (mkF m 168 #[.val (.int vs), .val (.long vr), .second, .val (.int vf), .val (.int vt), .val (.ref b22), .val (.int yf), .val (.int yt), .val (.int r35), .unset, .unset] [(.int r39)])) _
        refine XS.ifNo X39.here hx rfl (hb hby at_168) rfl ((if0 _ _).trans (feq (by rw [hr39]; decide : ¬ (r39 = (0 : Int32)))).1) ?_
        show Steps p.tables e below (T39.setTop (mkF m 171 #[.val (.int vs), .val (.long vr), .second, .val (.int vf), .val (.int vt), .val (.ref b22), .val (.int yf), .val (.int yt), .val (.int r35), .unset, .unset] [])) _
        refine XS.aload X39.here hx rfl (hb hby at_171) rfl rfl ?_
        show Steps p.tables e below (T39.setTop (mkF m 173 #[.val (.int vs), .val (.long vr), .second, .val (.int vf), .val (.int vt), .val (.ref b22), .val (.int yf), .val (.int yt), .val (.int r35), .unset, .unset] [(.ref b22)])) _
        refine XS.iload X39.here hx rfl (hb hby at_173) rfl ?_
        show Steps p.tables e below (T39.setTop (mkF m 175 #[.val (.int vs), .val (.long vr), .second, .val (.int vf), .val (.int vt), .val (.ref b22), .val (.int yf), .val (.int yt), .val (.int r35), .unset, .unset] [(.int yf), (.ref b22)])) _
        refine XS.iload X39.here hx rfl (hb hby at_175) rfl ?_
        show Steps p.tables e below (T39.setTop (mkF m 177 #[.val (.int vs), .val (.long vr), .second, .val (.int vf), .val (.int vt), .val (.ref b22), .val (.int yf), .val (.int yt), .val (.int r35), .unset, .unset] [(.int r35), (.int yf), (.ref b22)])) _
        refine XS.iconst X39.here hx rfl (hb hby at_177) ?_
        show Steps p.tables e below (T39.setTop (mkF m 178 #[.val (.int vs), .val (.long vr), .second, .val (.int vf), .val (.int vt), .val (.ref b22), .val (.int yf), .val (.int yt), .val (.int r35), .unset, .unset] [(.int (3 : Int32)), (.int r35), (.int yf), (.ref b22)])) _
        refine st40 _ ?_
        show Steps p.tables e below (T40.setTop (mkF m 181 #[.val (.int vs), .val (.long vr), .second, .val (.int vf), .val (.int vt), .val (.ref b22), .val (.int yf), .val (.int yt), .val (.int r35), .unset, .unset] [(.int r40)])) _
        refine XS.ifNo X40.here hx rfl (hb hby at_181) rfl ((if0 _ _).trans (feq (by rw [hr40]; decide : ¬ (r40 = (0 : Int32)))).1) ?_
        show Steps p.tables e below (T40.setTop (mkF m 184 #[.val (.int vs), .val (.long vr), .second, .val (.int vf), .val (.int vt), .val (.ref b22), .val (.int yf), .val (.int yt), .val (.int r35), .unset, .unset] [])) _
        refine XS.aload X40.here hx rfl (hb hby at_184) rfl rfl ?_
        show Steps p.tables e below (T40.setTop (mkF m 186 #[.val (.int vs), .val (.long vr), .second, .val (.int vf), .val (.int vt), .val (.ref b22), .val (.int yf), .val (.int yt), .val (.int r35), .unset, .unset] [(.ref b22)])) _
        refine XS.iload X40.here hx rfl (hb hby at_186) rfl ?_
        show Steps p.tables e below (T40.setTop (mkF m 188 #[.val (.int vs), .val (.long vr), .second, .val (.int vf), .val (.int vt), .val (.ref b22), .val (.int yf), .val (.int yt), .val (.int r35), .unset, .unset] [(.int yf), (.ref b22)])) _
        refine XS.iload X40.here hx rfl (hb hby at_188) rfl ?_
        show Steps p.tables e below (T40.setTop (mkF m 190 #[.val (.int vs), .val (.long vr), .second, .val (.int vf), .val (.int vt), .val (.ref b22), .val (.int yf), .val (.int yt), .val (.int r35), .unset, .unset] [(.int r35), (.int yf), (.ref b22)])) _
        refine XS.iconst X40.here hx rfl (hb hby at_190) ?_
        show Steps p.tables e below (T40.setTop (mkF m 191 #[.val (.int vs), .val (.long vr), .second, .val (.int vf), .val (.int vt), .val (.ref b22), .val (.int yf), .val (.int yt), .val (.int r35), .unset, .unset] [(.int (4 : Int32)), (.int r35), (.int yf), (.ref b22)])) _
        refine st41 _ ?_
        show Steps p.tables e below (T41.setTop (mkF m 194 #[.val (.int vs), .val (.long vr), .second, .val (.int vf), .val (.int vt), .val (.ref b22), .val (.int yf), .val (.int yt), .val (.int r35), .unset, .unset] [(.int r41)])) _
        refine XS.ifNo X41.here hx rfl (hb hby at_194) rfl ((if0 _ _).trans (feq (by rw [hr41]; decide : ¬ (r41 = (0 : Int32)))).1) ?_
        show Steps p.tables e below (T41.setTop (mkF m 197 #[.val (.int vs), .val (.long vr), .second, .val (.int vf), .val (.int vt), .val (.ref b22), .val (.int yf), .val (.int yt), .val (.int r35), .unset, .unset] [])) _
        refine XS.aload X41.here hx rfl (hb hby at_197) rfl rfl ?_
        show Steps p.tables e below (T41.setTop (mkF m 199 #[.val (.int vs), .val (.long vr), .second, .val (.int vf), .val (.int vt), .val (.ref b22), .val (.int yf), .val (.int yt), .val (.int r35), .unset, .unset] [(.ref b22)])) _
        refine XS.iload X41.here hx rfl (hb hby at_199) rfl ?_
        show Steps p.tables e below (T41.setTop (mkF m 201 #[.val (.int vs), .val (.long vr), .second, .val (.int vf), .val (.int vt), .val (.ref b22), .val (.int yf), .val (.int yt), .val (.int r35), .unset, .unset] [(.int yf), (.ref b22)])) _
        refine XS.iload X41.here hx rfl (hb hby at_201) rfl ?_
        show Steps p.tables e below (T41.setTop (mkF m 203 #[.val (.int vs), .val (.long vr), .second, .val (.int vf), .val (.int vt), .val (.ref b22), .val (.int yf), .val (.int yt), .val (.int r35), .unset, .unset] [(.int r35), (.int yf), (.ref b22)])) _
        refine XS.iconst X41.here hx rfl (hb hby at_203) ?_
        show Steps p.tables e below (T41.setTop (mkF m 204 #[.val (.int vs), .val (.long vr), .second, .val (.int vf), .val (.int vt), .val (.ref b22), .val (.int yf), .val (.int yt), .val (.int r35), .unset, .unset] [(.int (5 : Int32)), (.int r35), (.int yf), (.ref b22)])) _
        refine st42 _ ?_
        show Steps p.tables e below (T42.setTop (mkF m 207 #[.val (.int vs), .val (.long vr), .second, .val (.int vf), .val (.int vt), .val (.ref b22), .val (.int yf), .val (.int yt), .val (.int r35), .unset, .unset] [(.int r42)])) _
        refine XS.ifNo X42.here hx rfl (hb hby at_207) rfl ((if0 _ _).trans (feq (by rw [hr42]; decide : ¬ (r42 = (0 : Int32)))).1) ?_
        show Steps p.tables e below (T42.setTop (mkF m 210 #[.val (.int vs), .val (.long vr), .second, .val (.int vf), .val (.int vt), .val (.ref b22), .val (.int yf), .val (.int yt), .val (.int r35), .unset, .unset] [])) _
        refine XS.iconst X42.here hx rfl (hb hby at_210) ?_
        show Steps p.tables e below (T42.setTop (mkF m 211 #[.val (.int vs), .val (.long vr), .second, .val (.int vf), .val (.int vt), .val (.ref b22), .val (.int yf), .val (.int yt), .val (.int r35), .unset, .unset] [(.int (1 : Int32))])) _
        refine XS.goto X42.here hx rfl (pc0 := 211) (pc' := 215) rfl (hb hby at_211) (by decide) (by decide) ?_
        show Steps p.tables e below (T42.setTop (mkF m 215 #[.val (.int vs), .val (.long vr), .second, .val (.int vf), .val (.int vt), .val (.ref b22), .val (.int yf), .val (.int yt), .val (.int r35), .unset, .unset] [(.int (1 : Int32))])) _
        refine XS.istore X42.here hx rfl (hb hby at_215) rfl (l' := #[.val (.int vs), .val (.long vr), .second, .val (.int vf), .val (.int vt), .val (.ref b22), .val (.int yf), .val (.int yt), .val (.int r35), .val (.int (1 : Int32)), .unset]) rfl ?_
        show Steps p.tables e below (T42.setTop (mkF m 217 #[.val (.int vs), .val (.long vr), .second, .val (.int vf), .val (.int vt), .val (.ref b22), .val (.int yf), .val (.int yt), .val (.int r35), .val (.int (1 : Int32)), .unset] [])) _
        refine XS.iload X42.here hx rfl (hb hby at_217) rfl ?_
        show Steps p.tables e below (T42.setTop (mkF m 219 #[.val (.int vs), .val (.long vr), .second, .val (.int vf), .val (.int vt), .val (.ref b22), .val (.int yf), .val (.int yt), .val (.int r35), .val (.int (1 : Int32)), .unset] [(.int r35)])) _
        refine XS.iload X42.here hx rfl (hb hby at_219) rfl ?_
        show Steps p.tables e below (T42.setTop (mkF m 221 #[.val (.int vs), .val (.long vr), .second, .val (.int vf), .val (.int vt), .val (.ref b22), .val (.int yf), .val (.int yt), .val (.int r35), .val (.int (1 : Int32)), .unset] [(.int yt), (.int r35)])) _
        refine XS.icmpYes X42.here hx rfl (pc0 := 221) (pc' := 265) rfl (hb hby at_221) rfl (teq h221_43).1 (by decide) (by decide) ?_
        show Steps p.tables e below (T42.setTop (mkF m 265 #[.val (.int vs), .val (.long vr), .second, .val (.int vf), .val (.int vt), .val (.ref b22), .val (.int yf), .val (.int yt), .val (.int r35), .val (.int (1 : Int32)), .unset] [])) _
        refine XS.iconst X42.here hx rfl (hb hby at_265) ?_
        show Steps p.tables e below (T42.setTop (mkF m 266 #[.val (.int vs), .val (.long vr), .second, .val (.int vf), .val (.int vt), .val (.ref b22), .val (.int yf), .val (.int yt), .val (.int r35), .val (.int (1 : Int32)), .unset] [(.int (1 : Int32))])) _
        refine XS.goto X42.here hx rfl (pc0 := 266) (pc' := 270) rfl (hb hby at_266) (by decide) (by decide) ?_
        show Steps p.tables e below (T42.setTop (mkF m 270 #[.val (.int vs), .val (.long vr), .second, .val (.int vf), .val (.int vt), .val (.ref b22), .val (.int yf), .val (.int yt), .val (.int r35), .val (.int (1 : Int32)), .unset] [(.int (1 : Int32))])) _
        refine XS.istore X42.here hx rfl (hb hby at_270) rfl (l' := #[.val (.int vs), .val (.long vr), .second, .val (.int vf), .val (.int vt), .val (.ref b22), .val (.int yf), .val (.int yt), .val (.int r35), .val (.int (1 : Int32)), .val (.int (1 : Int32))]) rfl ?_
        show Steps p.tables e below (T42.setTop (mkF m 272 #[.val (.int vs), .val (.long vr), .second, .val (.int vf), .val (.int vt), .val (.ref b22), .val (.int yf), .val (.int yt), .val (.int r35), .val (.int (1 : Int32)), .val (.int (1 : Int32))] [])) _
        refine XS.iload X42.here hx rfl (hb hby at_272) rfl ?_
        show Steps p.tables e below (T42.setTop (mkF m 274 #[.val (.int vs), .val (.long vr), .second, .val (.int vf), .val (.int vt), .val (.ref b22), .val (.int yf), .val (.int yt), .val (.int r35), .val (.int (1 : Int32)), .val (.int (1 : Int32))] [(.int (1 : Int32))])) _
        refine XS.ifNo X42.here hx rfl (hb hby at_274) rfl ((if0 _ _).trans (feq (by decide : ¬ ((1 : Int32) = (0 : Int32)))).1) ?_
        show Steps p.tables e below (T42.setTop (mkF m 277 #[.val (.int vs), .val (.long vr), .second, .val (.int vf), .val (.int vt), .val (.ref b22), .val (.int yf), .val (.int yt), .val (.int r35), .val (.int (1 : Int32)), .val (.int (1 : Int32))] [])) _
        refine XS.iload X42.here hx rfl (hb hby at_277) rfl ?_
        show Steps p.tables e below (T42.setTop (mkF m 279 #[.val (.int vs), .val (.long vr), .second, .val (.int vf), .val (.int vt), .val (.ref b22), .val (.int yf), .val (.int yt), .val (.int r35), .val (.int (1 : Int32)), .val (.int (1 : Int32))] [(.int (1 : Int32))])) _
        refine XS.ifNo X42.here hx rfl (hb hby at_279) rfl ((if0 _ _).trans (feq (by decide : ¬ ((1 : Int32) = (0 : Int32)))).1) ?_
        show Steps p.tables e below (T42.setTop (mkF m 282 #[.val (.int vs), .val (.long vr), .second, .val (.int vf), .val (.int vt), .val (.ref b22), .val (.int yf), .val (.int yt), .val (.int r35), .val (.int (1 : Int32)), .val (.int (1 : Int32))] [])) _
        refine XS.iconst X42.here hx rfl (hb hby at_282) ?_
        show Steps p.tables e below (T42.setTop (mkF m 283 #[.val (.int vs), .val (.long vr), .second, .val (.int vf), .val (.int vt), .val (.ref b22), .val (.int yf), .val (.int yt), .val (.int r35), .val (.int (1 : Int32)), .val (.int (1 : Int32))] [(.int (1 : Int32))])) _
        refine XS.goto X42.here hx rfl (pc0 := 283) (pc' := 287) rfl (hb hby at_283) (by decide) (by decide) ?_
        show Steps p.tables e below (T42.setTop (mkF m 287 #[.val (.int vs), .val (.long vr), .second, .val (.int vf), .val (.int vt), .val (.ref b22), .val (.int yf), .val (.int yt), .val (.int r35), .val (.int (1 : Int32)), .val (.int (1 : Int32))] [(.int (1 : Int32))])) _
        exact retN X42 hx (t := .boolean) Bd.returns (by simp) (hb hby at_287) hr
      · show Q_law Z vs vr vf vt h0 n0 _ T42.heap _
        rw [e42]
        exact ⟨rfl, N42⟩
    · by_cases h241_46 : (own_B [(nar .byte r23), (nar .byte r25), (nar .byte r27), (nar .byte r29), (nar .byte r31), (nar .byte r33)] r35) = (13 : Int32)
      · by_cases h250_47 : (r35 + (1 : Int32)) < yt
        · obtain ⟨fs, hr, hrun, hended, hW, hsame⟩ := X42.leave (v := some (.int (1 : Int32))) (fun h => by rw [Bd.returns] at h; cases h)
          refine ⟨_, _, pre0 _ ?_, hrun, hended, _, _, rfl, ?_, ⟨_, rfl⟩, hW, hsame.mono (by decide) (by decide)⟩
          · show Steps p.tables e below (s₁.setTop (mkF m 0 #[.val (.int vs), .val (.long vr), .second, .val (.int vf), .val (.int vt), .unset, .unset, .unset, .unset, .unset, .unset] [])) _
            refine XS.bipush X0.here hx rfl (hb hby at_0) ?_
            show Steps p.tables e below (s₁.setTop (mkF m 2 #[.val (.int vs), .val (.long vr), .second, .val (.int vf), .val (.int vt), .unset, .unset, .unset, .unset, .unset, .unset] [(.int (6 : Int32))])) _
            refine st22 _ ?_
            show Steps p.tables e below (T22.setTop (mkF m 4 #[.val (.int vs), .val (.long vr), .second, .val (.int vf), .val (.int vt), .unset, .unset, .unset, .unset, .unset, .unset] [(.ref b22)])) _
            refine XS.astore X22.here hx rfl (hb hby at_4) rfl rfl (l' := #[.val (.int vs), .val (.long vr), .second, .val (.int vf), .val (.int vt), .val (.ref b22), .unset, .unset, .unset, .unset, .unset]) rfl ?_
            show Steps p.tables e below (T22.setTop (mkF m 6 #[.val (.int vs), .val (.long vr), .second, .val (.int vf), .val (.int vt), .val (.ref b22), .unset, .unset, .unset, .unset, .unset] [])) _
            refine XS.aload X22.here hx rfl (hb hby at_6) rfl rfl ?_
            show Steps p.tables e below (T22.setTop (mkF m 8 #[.val (.int vs), .val (.long vr), .second, .val (.int vf), .val (.int vt), .val (.ref b22), .unset, .unset, .unset, .unset, .unset] [(.ref b22)])) _
            refine XS.iconst X22.here hx rfl (hb hby at_8) ?_
            show Steps p.tables e below (T22.setTop (mkF m 9 #[.val (.int vs), .val (.long vr), .second, .val (.int vf), .val (.int vt), .val (.ref b22), .unset, .unset, .unset, .unset, .unset] [(.int (0 : Int32)), (.ref b22)])) _
            refine XS.iloadN X22.here hx rfl (hb hby at_9) rfl ?_
            show Steps p.tables e below (T22.setTop (mkF m 10 #[.val (.int vs), .val (.long vr), .second, .val (.int vf), .val (.int vt), .val (.ref b22), .unset, .unset, .unset, .unset, .unset] [(.int vs), (.int (0 : Int32)), (.ref b22)])) _
            refine XS.iconst X22.here hx rfl (hb hby at_10) ?_
            show Steps p.tables e below (T22.setTop (mkF m 11 #[.val (.int vs), .val (.long vr), .second, .val (.int vf), .val (.int vt), .val (.ref b22), .unset, .unset, .unset, .unset, .unset] [(.int (0 : Int32)), (.int vs), (.int (0 : Int32)), (.ref b22)])) _
            refine XS.lloadN X22.here hx rfl (hb hby at_11) rfl ?_
            show Steps p.tables e below (T22.setTop (mkF m 12 #[.val (.int vs), .val (.long vr), .second, .val (.int vf), .val (.int vt), .val (.ref b22), .unset, .unset, .unset, .unset, .unset] [(.long vr), (.int (0 : Int32)), (.int vs), (.int (0 : Int32)), (.ref b22)])) _
            refine st23 _ ?_
            show Steps p.tables e below (T23.setTop (mkF m 15 #[.val (.int vs), .val (.long vr), .second, .val (.int vf), .val (.int vt), .val (.ref b22), .unset, .unset, .unset, .unset, .unset] [(.int r23), (.int (0 : Int32)), (.ref b22)])) _
            refine st24 _ ?_
            show Steps p.tables e below (T24.setTop (mkF m 16 #[.val (.int vs), .val (.long vr), .second, .val (.int vf), .val (.int vt), .val (.ref b22), .unset, .unset, .unset, .unset, .unset] [])) _
            refine XS.aload X24.here hx rfl (hb hby at_16) rfl rfl ?_
            show Steps p.tables e below (T24.setTop (mkF m 18 #[.val (.int vs), .val (.long vr), .second, .val (.int vf), .val (.int vt), .val (.ref b22), .unset, .unset, .unset, .unset, .unset] [(.ref b22)])) _
            refine XS.iconst X24.here hx rfl (hb hby at_18) ?_
            show Steps p.tables e below (T24.setTop (mkF m 19 #[.val (.int vs), .val (.long vr), .second, .val (.int vf), .val (.int vt), .val (.ref b22), .unset, .unset, .unset, .unset, .unset] [(.int (1 : Int32)), (.ref b22)])) _
            refine XS.iloadN X24.here hx rfl (hb hby at_19) rfl ?_
            show Steps p.tables e below (T24.setTop (mkF m 20 #[.val (.int vs), .val (.long vr), .second, .val (.int vf), .val (.int vt), .val (.ref b22), .unset, .unset, .unset, .unset, .unset] [(.int vs), (.int (1 : Int32)), (.ref b22)])) _
            refine XS.iconst X24.here hx rfl (hb hby at_20) ?_
            show Steps p.tables e below (T24.setTop (mkF m 21 #[.val (.int vs), .val (.long vr), .second, .val (.int vf), .val (.int vt), .val (.ref b22), .unset, .unset, .unset, .unset, .unset] [(.int (1 : Int32)), (.int vs), (.int (1 : Int32)), (.ref b22)])) _
            refine XS.lloadN X24.here hx rfl (hb hby at_21) rfl ?_
            show Steps p.tables e below (T24.setTop (mkF m 22 #[.val (.int vs), .val (.long vr), .second, .val (.int vf), .val (.int vt), .val (.ref b22), .unset, .unset, .unset, .unset, .unset] [(.long vr), (.int (1 : Int32)), (.int vs), (.int (1 : Int32)), (.ref b22)])) _
            refine st25 _ ?_
            show Steps p.tables e below (T25.setTop (mkF m 25 #[.val (.int vs), .val (.long vr), .second, .val (.int vf), .val (.int vt), .val (.ref b22), .unset, .unset, .unset, .unset, .unset] [(.int r25), (.int (1 : Int32)), (.ref b22)])) _
            refine st26 _ ?_
            show Steps p.tables e below (T26.setTop (mkF m 26 #[.val (.int vs), .val (.long vr), .second, .val (.int vf), .val (.int vt), .val (.ref b22), .unset, .unset, .unset, .unset, .unset] [])) _
            refine XS.aload X26.here hx rfl (hb hby at_26) rfl rfl ?_
            show Steps p.tables e below (T26.setTop (mkF m 28 #[.val (.int vs), .val (.long vr), .second, .val (.int vf), .val (.int vt), .val (.ref b22), .unset, .unset, .unset, .unset, .unset] [(.ref b22)])) _
            refine XS.iconst X26.here hx rfl (hb hby at_28) ?_
            show Steps p.tables e below (T26.setTop (mkF m 29 #[.val (.int vs), .val (.long vr), .second, .val (.int vf), .val (.int vt), .val (.ref b22), .unset, .unset, .unset, .unset, .unset] [(.int (2 : Int32)), (.ref b22)])) _
            refine XS.iloadN X26.here hx rfl (hb hby at_29) rfl ?_
            show Steps p.tables e below (T26.setTop (mkF m 30 #[.val (.int vs), .val (.long vr), .second, .val (.int vf), .val (.int vt), .val (.ref b22), .unset, .unset, .unset, .unset, .unset] [(.int vs), (.int (2 : Int32)), (.ref b22)])) _
            refine XS.iconst X26.here hx rfl (hb hby at_30) ?_
            show Steps p.tables e below (T26.setTop (mkF m 31 #[.val (.int vs), .val (.long vr), .second, .val (.int vf), .val (.int vt), .val (.ref b22), .unset, .unset, .unset, .unset, .unset] [(.int (2 : Int32)), (.int vs), (.int (2 : Int32)), (.ref b22)])) _
            refine XS.lloadN X26.here hx rfl (hb hby at_31) rfl ?_
            show Steps p.tables e below (T26.setTop (mkF m 32 #[.val (.int vs), .val (.long vr), .second, .val (.int vf), .val (.int vt), .val (.ref b22), .unset, .unset, .unset, .unset, .unset] [(.long vr), (.int (2 : Int32)), (.int vs), (.int (2 : Int32)), (.ref b22)])) _
            refine st27 _ ?_
            show Steps p.tables e below (T27.setTop (mkF m 35 #[.val (.int vs), .val (.long vr), .second, .val (.int vf), .val (.int vt), .val (.ref b22), .unset, .unset, .unset, .unset, .unset] [(.int r27), (.int (2 : Int32)), (.ref b22)])) _
            refine st28 _ ?_
            show Steps p.tables e below (T28.setTop (mkF m 36 #[.val (.int vs), .val (.long vr), .second, .val (.int vf), .val (.int vt), .val (.ref b22), .unset, .unset, .unset, .unset, .unset] [])) _
            refine XS.aload X28.here hx rfl (hb hby at_36) rfl rfl ?_
            show Steps p.tables e below (T28.setTop (mkF m 38 #[.val (.int vs), .val (.long vr), .second, .val (.int vf), .val (.int vt), .val (.ref b22), .unset, .unset, .unset, .unset, .unset] [(.ref b22)])) _
            refine XS.iconst X28.here hx rfl (hb hby at_38) ?_
            show Steps p.tables e below (T28.setTop (mkF m 39 #[.val (.int vs), .val (.long vr), .second, .val (.int vf), .val (.int vt), .val (.ref b22), .unset, .unset, .unset, .unset, .unset] [(.int (3 : Int32)), (.ref b22)])) _
            refine XS.iloadN X28.here hx rfl (hb hby at_39) rfl ?_
            show Steps p.tables e below (T28.setTop (mkF m 40 #[.val (.int vs), .val (.long vr), .second, .val (.int vf), .val (.int vt), .val (.ref b22), .unset, .unset, .unset, .unset, .unset] [(.int vs), (.int (3 : Int32)), (.ref b22)])) _
            refine XS.iconst X28.here hx rfl (hb hby at_40) ?_
            show Steps p.tables e below (T28.setTop (mkF m 41 #[.val (.int vs), .val (.long vr), .second, .val (.int vf), .val (.int vt), .val (.ref b22), .unset, .unset, .unset, .unset, .unset] [(.int (3 : Int32)), (.int vs), (.int (3 : Int32)), (.ref b22)])) _
            refine XS.lloadN X28.here hx rfl (hb hby at_41) rfl ?_
            show Steps p.tables e below (T28.setTop (mkF m 42 #[.val (.int vs), .val (.long vr), .second, .val (.int vf), .val (.int vt), .val (.ref b22), .unset, .unset, .unset, .unset, .unset] [(.long vr), (.int (3 : Int32)), (.int vs), (.int (3 : Int32)), (.ref b22)])) _
            refine st29 _ ?_
            show Steps p.tables e below (T29.setTop (mkF m 45 #[.val (.int vs), .val (.long vr), .second, .val (.int vf), .val (.int vt), .val (.ref b22), .unset, .unset, .unset, .unset, .unset] [(.int r29), (.int (3 : Int32)), (.ref b22)])) _
            refine st30 _ ?_
            show Steps p.tables e below (T30.setTop (mkF m 46 #[.val (.int vs), .val (.long vr), .second, .val (.int vf), .val (.int vt), .val (.ref b22), .unset, .unset, .unset, .unset, .unset] [])) _
            refine XS.aload X30.here hx rfl (hb hby at_46) rfl rfl ?_
            show Steps p.tables e below (T30.setTop (mkF m 48 #[.val (.int vs), .val (.long vr), .second, .val (.int vf), .val (.int vt), .val (.ref b22), .unset, .unset, .unset, .unset, .unset] [(.ref b22)])) _
            refine XS.iconst X30.here hx rfl (hb hby at_48) ?_
            show Steps p.tables e below (T30.setTop (mkF m 49 #[.val (.int vs), .val (.long vr), .second, .val (.int vf), .val (.int vt), .val (.ref b22), .unset, .unset, .unset, .unset, .unset] [(.int (4 : Int32)), (.ref b22)])) _
            refine XS.iloadN X30.here hx rfl (hb hby at_49) rfl ?_
            show Steps p.tables e below (T30.setTop (mkF m 50 #[.val (.int vs), .val (.long vr), .second, .val (.int vf), .val (.int vt), .val (.ref b22), .unset, .unset, .unset, .unset, .unset] [(.int vs), (.int (4 : Int32)), (.ref b22)])) _
            refine XS.iconst X30.here hx rfl (hb hby at_50) ?_
            show Steps p.tables e below (T30.setTop (mkF m 51 #[.val (.int vs), .val (.long vr), .second, .val (.int vf), .val (.int vt), .val (.ref b22), .unset, .unset, .unset, .unset, .unset] [(.int (4 : Int32)), (.int vs), (.int (4 : Int32)), (.ref b22)])) _
            refine XS.lloadN X30.here hx rfl (hb hby at_51) rfl ?_
            show Steps p.tables e below (T30.setTop (mkF m 52 #[.val (.int vs), .val (.long vr), .second, .val (.int vf), .val (.int vt), .val (.ref b22), .unset, .unset, .unset, .unset, .unset] [(.long vr), (.int (4 : Int32)), (.int vs), (.int (4 : Int32)), (.ref b22)])) _
            refine st31 _ ?_
            show Steps p.tables e below (T31.setTop (mkF m 55 #[.val (.int vs), .val (.long vr), .second, .val (.int vf), .val (.int vt), .val (.ref b22), .unset, .unset, .unset, .unset, .unset] [(.int r31), (.int (4 : Int32)), (.ref b22)])) _
            refine st32 _ ?_
            show Steps p.tables e below (T32.setTop (mkF m 56 #[.val (.int vs), .val (.long vr), .second, .val (.int vf), .val (.int vt), .val (.ref b22), .unset, .unset, .unset, .unset, .unset] [])) _
            refine XS.aload X32.here hx rfl (hb hby at_56) rfl rfl ?_
            show Steps p.tables e below (T32.setTop (mkF m 58 #[.val (.int vs), .val (.long vr), .second, .val (.int vf), .val (.int vt), .val (.ref b22), .unset, .unset, .unset, .unset, .unset] [(.ref b22)])) _
            refine XS.iconst X32.here hx rfl (hb hby at_58) ?_
            show Steps p.tables e below (T32.setTop (mkF m 59 #[.val (.int vs), .val (.long vr), .second, .val (.int vf), .val (.int vt), .val (.ref b22), .unset, .unset, .unset, .unset, .unset] [(.int (5 : Int32)), (.ref b22)])) _
            refine XS.iloadN X32.here hx rfl (hb hby at_59) rfl ?_
            show Steps p.tables e below (T32.setTop (mkF m 60 #[.val (.int vs), .val (.long vr), .second, .val (.int vf), .val (.int vt), .val (.ref b22), .unset, .unset, .unset, .unset, .unset] [(.int vs), (.int (5 : Int32)), (.ref b22)])) _
            refine XS.iconst X32.here hx rfl (hb hby at_60) ?_
            show Steps p.tables e below (T32.setTop (mkF m 61 #[.val (.int vs), .val (.long vr), .second, .val (.int vf), .val (.int vt), .val (.ref b22), .unset, .unset, .unset, .unset, .unset] [(.int (5 : Int32)), (.int vs), (.int (5 : Int32)), (.ref b22)])) _
            refine XS.lloadN X32.here hx rfl (hb hby at_61) rfl ?_
            show Steps p.tables e below (T32.setTop (mkF m 62 #[.val (.int vs), .val (.long vr), .second, .val (.int vf), .val (.int vt), .val (.ref b22), .unset, .unset, .unset, .unset, .unset] [(.long vr), (.int (5 : Int32)), (.int vs), (.int (5 : Int32)), (.ref b22)])) _
            refine st33 _ ?_
            show Steps p.tables e below (T33.setTop (mkF m 65 #[.val (.int vs), .val (.long vr), .second, .val (.int vf), .val (.int vt), .val (.ref b22), .unset, .unset, .unset, .unset, .unset] [(.int r33), (.int (5 : Int32)), (.ref b22)])) _
            refine st34 _ ?_
            show Steps p.tables e below (T34.setTop (mkF m 66 #[.val (.int vs), .val (.long vr), .second, .val (.int vf), .val (.int vt), .val (.ref b22), .unset, .unset, .unset, .unset, .unset] [])) _
            refine XS.iloadN X34.here hx rfl (hb hby at_66) rfl ?_
            show Steps p.tables e below (T34.setTop (mkF m 67 #[.val (.int vs), .val (.long vr), .second, .val (.int vf), .val (.int vt), .val (.ref b22), .unset, .unset, .unset, .unset, .unset] [(.int vf)])) _
            refine X34.ldcInt hx hown (mvT hZ (hw _ (List.mem_of_getElem? (i := 5) rfl))) (g := (mkF m 67 #[.val (.int vs), .val (.long vr), .second, .val (.int vf), .val (.int vt), .val (.ref b22), .unset, .unset, .unset, .unset, .unset] [(.int vf)])) rfl (hb hby at_67) _ ?_
            show Steps p.tables e below (T34.setTop (mkF m 69 #[.val (.int vs), .val (.long vr), .second, .val (.int vf), .val (.int vt), .val (.ref b22), .unset, .unset, .unset, .unset, .unset] [(.int (2147483647 : Int32)), (.int vf)])) _
            refine XS.iand X34.here hx rfl (hb hby at_69) rfl ?_
            show Steps p.tables e below (T34.setTop (mkF m 70 #[.val (.int vs), .val (.long vr), .second, .val (.int vf), .val (.int vt), .val (.ref b22), .unset, .unset, .unset, .unset, .unset] [(.int (vf &&& (2147483647 : Int32)))])) _
            refine XS.bipush X34.here hx rfl (hb hby at_70) ?_
            show Steps p.tables e below (T34.setTop (mkF m 72 #[.val (.int vs), .val (.long vr), .second, .val (.int vf), .val (.int vt), .val (.ref b22), .unset, .unset, .unset, .unset, .unset] [(.int (7 : Int32)), (.int (vf &&& (2147483647 : Int32)))])) _
            refine iremM X34 hx rfl (hb hby at_72) rfl (by decide) ?_
            show Steps p.tables e below (T34.setTop (mkF m 73 #[.val (.int vs), .val (.long vr), .second, .val (.int vf), .val (.int vt), .val (.ref b22), .unset, .unset, .unset, .unset, .unset] [(.int ((vf &&& (2147483647 : Int32)) % (7 : Int32)))])) _
            rw [← hyf]
            show Steps p.tables e below (T34.setTop (mkF m 73 #[.val (.int vs), .val (.long vr), .second, .val (.int vf), .val (.int vt), .val (.ref b22), .unset, .unset, .unset, .unset, .unset] [(.int yf)])) _
            refine XS.istore X34.here hx rfl (hb hby at_73) rfl (l' := #[.val (.int vs), .val (.long vr), .second, .val (.int vf), .val (.int vt), .val (.ref b22), .val (.int yf), .unset, .unset, .unset, .unset]) rfl ?_
            show Steps p.tables e below (T34.setTop (mkF m 75 #[.val (.int vs), .val (.long vr), .second, .val (.int vf), .val (.int vt), .val (.ref b22), .val (.int yf), .unset, .unset, .unset, .unset] [])) _
            refine XS.iload X34.here hx rfl (hb hby at_75) rfl ?_
            show Steps p.tables e below (T34.setTop (mkF m 77 #[.val (.int vs), .val (.long vr), .second, .val (.int vf), .val (.int vt), .val (.ref b22), .val (.int yf), .unset, .unset, .unset, .unset] [(.int vt)])) _
            refine X34.ldcInt hx hown (mvT hZ (hw _ (List.mem_of_getElem? (i := 5) rfl))) (g := (mkF m 77 #[.val (.int vs), .val (.long vr), .second, .val (.int vf), .val (.int vt), .val (.ref b22), .val (.int yf), .unset, .unset, .unset, .unset] [(.int vt)])) rfl (hb hby at_77) _ ?_
            show Steps p.tables e below (T34.setTop (mkF m 79 #[.val (.int vs), .val (.long vr), .second, .val (.int vf), .val (.int vt), .val (.ref b22), .val (.int yf), .unset, .unset, .unset, .unset] [(.int (2147483647 : Int32)), (.int vt)])) _
            refine XS.iand X34.here hx rfl (hb hby at_79) rfl ?_
            show Steps p.tables e below (T34.setTop (mkF m 80 #[.val (.int vs), .val (.long vr), .second, .val (.int vf), .val (.int vt), .val (.ref b22), .val (.int yf), .unset, .unset, .unset, .unset] [(.int (vt &&& (2147483647 : Int32)))])) _
            refine XS.bipush X34.here hx rfl (hb hby at_80) ?_
            show Steps p.tables e below (T34.setTop (mkF m 82 #[.val (.int vs), .val (.long vr), .second, .val (.int vf), .val (.int vt), .val (.ref b22), .val (.int yf), .unset, .unset, .unset, .unset] [(.int (7 : Int32)), (.int (vt &&& (2147483647 : Int32)))])) _
            refine iremM X34 hx rfl (hb hby at_82) rfl (by decide) ?_
            show Steps p.tables e below (T34.setTop (mkF m 83 #[.val (.int vs), .val (.long vr), .second, .val (.int vf), .val (.int vt), .val (.ref b22), .val (.int yf), .unset, .unset, .unset, .unset] [(.int ((vt &&& (2147483647 : Int32)) % (7 : Int32)))])) _
            rw [← hyt]
            show Steps p.tables e below (T34.setTop (mkF m 83 #[.val (.int vs), .val (.long vr), .second, .val (.int vf), .val (.int vt), .val (.ref b22), .val (.int yf), .unset, .unset, .unset, .unset] [(.int yt)])) _
            refine XS.istore X34.here hx rfl (hb hby at_83) rfl (l' := #[.val (.int vs), .val (.long vr), .second, .val (.int vf), .val (.int vt), .val (.ref b22), .val (.int yf), .val (.int yt), .unset, .unset, .unset]) rfl ?_
            show Steps p.tables e below (T34.setTop (mkF m 85 #[.val (.int vs), .val (.long vr), .second, .val (.int vf), .val (.int vt), .val (.ref b22), .val (.int yf), .val (.int yt), .unset, .unset, .unset] [])) _
            refine XS.aload X34.here hx rfl (hb hby at_85) rfl rfl ?_
            show Steps p.tables e below (T34.setTop (mkF m 87 #[.val (.int vs), .val (.long vr), .second, .val (.int vf), .val (.int vt), .val (.ref b22), .val (.int yf), .val (.int yt), .unset, .unset, .unset] [(.ref b22)])) _
            refine XS.iload X34.here hx rfl (hb hby at_87) rfl ?_
            show Steps p.tables e below (T34.setTop (mkF m 89 #[.val (.int vs), .val (.long vr), .second, .val (.int vf), .val (.int vt), .val (.ref b22), .val (.int yf), .val (.int yt), .unset, .unset, .unset] [(.int yf), (.ref b22)])) _
            refine XS.iload X34.here hx rfl (hb hby at_89) rfl ?_
            show Steps p.tables e below (T34.setTop (mkF m 91 #[.val (.int vs), .val (.long vr), .second, .val (.int vf), .val (.int vt), .val (.ref b22), .val (.int yf), .val (.int yt), .unset, .unset, .unset] [(.int yt), (.int yf), (.ref b22)])) _
            refine st35 _ ?_
            show Steps p.tables e below (T35.setTop (mkF m 94 #[.val (.int vs), .val (.long vr), .second, .val (.int vf), .val (.int vt), .val (.ref b22), .val (.int yf), .val (.int yt), .unset, .unset, .unset] [(.int r35)])) _
            refine XS.istore X35.here hx rfl (hb hby at_94) rfl (l' := #[.val (.int vs), .val (.long vr), .second, .val (.int vf), .val (.int vt), .val (.ref b22), .val (.int yf), .val (.int yt), .val (.int r35), .unset, .unset]) rfl ?_
            show Steps p.tables e below (T35.setTop (mkF m 96 #[.val (.int vs), .val (.long vr), .second, .val (.int vf), .val (.int vt), .val (.ref b22), .val (.int yf), .val (.int yt), .val (.int r35), .unset, .unset] [])) _
            refine XS.iload X35.here hx rfl (hb hby at_96) rfl ?_
            show Steps p.tables e below (T35.setTop (mkF m 98 #[.val (.int vs), .val (.long vr), .second, .val (.int vf), .val (.int vt), .val (.ref b22), .val (.int yf), .val (.int yt), .val (.int r35), .unset, .unset] [(.int yf)])) _
            refine XS.iload X35.here hx rfl (hb hby at_98) rfl ?_
            show Steps p.tables e below (T35.setTop (mkF m 100 #[.val (.int vs), .val (.long vr), .second, .val (.int vf), .val (.int vt), .val (.ref b22), .val (.int yf), .val (.int yt), .val (.int r35), .unset, .unset] [(.int yt), (.int yf)])) _
            refine XS.icmpYes X35.here hx rfl (pc0 := 100) (pc' := 116) rfl (hb hby at_100) rfl (tlt h100_36).1 (by decide) (by decide) ?_
            show Steps p.tables e below (T35.setTop (mkF m 116 #[.val (.int vs), .val (.long vr), .second, .val (.int vf), .val (.int vt), .val (.ref b22), .val (.int yf), .val (.int yt), .val (.int r35), .unset, .unset] [])) _
            refine XS.iload X35.here hx rfl (hb hby at_116) rfl ?_
            show Steps p.tables e below (T35.setTop (mkF m 118 #[.val (.int vs), .val (.long vr), .second, .val (.int vf), .val (.int vt), .val (.ref b22), .val (.int yf), .val (.int yt), .val (.int r35), .unset, .unset] [(.int r35)])) _
            refine XS.iload X35.here hx rfl (hb hby at_118) rfl ?_
            show Steps p.tables e below (T35.setTop (mkF m 120 #[.val (.int vs), .val (.long vr), .second, .val (.int vf), .val (.int vt), .val (.ref b22), .val (.int yf), .val (.int yt), .val (.int r35), .unset, .unset] [(.int yf), (.int r35)])) _
            refine XS.icmpNo X35.here hx rfl (hb hby at_120) rfl (flt (by rw [own_lt]; have := (hr35.2 ((own_lt _ _).mp h100_36)).1; omega : ¬ (r35 < yf))).1 ?_
            show Steps p.tables e below (T35.setTop (mkF m 123 #[.val (.int vs), .val (.long vr), .second, .val (.int vf), .val (.int vt), .val (.ref b22), .val (.int yf), .val (.int yt), .val (.int r35), .unset, .unset] [])) _
            refine XS.iload X35.here hx rfl (hb hby at_123) rfl ?_
            show Steps p.tables e below (T35.setTop (mkF m 125 #[.val (.int vs), .val (.long vr), .second, .val (.int vf), .val (.int vt), .val (.ref b22), .val (.int yf), .val (.int yt), .val (.int r35), .unset, .unset] [(.int r35)])) _
            refine XS.iload X35.here hx rfl (hb hby at_125) rfl ?_
            show Steps p.tables e below (T35.setTop (mkF m 127 #[.val (.int vs), .val (.long vr), .second, .val (.int vf), .val (.int vt), .val (.ref b22), .val (.int yf), .val (.int yt), .val (.int r35), .unset, .unset] [(.int yt), (.int r35)])) _
            refine XS.icmpYes X35.here hx rfl (pc0 := 127) (pc' := 132) rfl (hb hby at_127) rfl (flt (by rw [own_lt]; have := (hr35.2 ((own_lt _ _).mp h100_36)).2.1; omega : ¬ (yt < r35))).2.2.2 (by decide) (by decide) ?_
            show Steps p.tables e below (T35.setTop (mkF m 132 #[.val (.int vs), .val (.long vr), .second, .val (.int vf), .val (.int vt), .val (.ref b22), .val (.int yf), .val (.int yt), .val (.int r35), .unset, .unset] [])) _
            refine XS.aload X35.here hx rfl (hb hby at_132) rfl rfl ?_
            show Steps p.tables e below (T35.setTop (mkF m 134 #[.val (.int vs), .val (.long vr), .second, .val (.int vf), .val (.int vt), .val (.ref b22), .val (.int yf), .val (.int yt), .val (.int r35), .unset, .unset] [(.ref b22)])) _
            refine XS.iload X35.here hx rfl (hb hby at_134) rfl ?_
            show Steps p.tables e below (T35.setTop (mkF m 136 #[.val (.int vs), .val (.long vr), .second, .val (.int vf), .val (.int vt), .val (.ref b22), .val (.int yf), .val (.int yt), .val (.int r35), .unset, .unset] [(.int yf), (.ref b22)])) _
            refine XS.iload X35.here hx rfl (hb hby at_136) rfl ?_
            show Steps p.tables e below (T35.setTop (mkF m 138 #[.val (.int vs), .val (.long vr), .second, .val (.int vf), .val (.int vt), .val (.ref b22), .val (.int yf), .val (.int yt), .val (.int r35), .unset, .unset] [(.int r35), (.int yf), (.ref b22)])) _
            refine XS.iconst X35.here hx rfl (hb hby at_138) ?_
            show Steps p.tables e below (T35.setTop (mkF m 139 #[.val (.int vs), .val (.long vr), .second, .val (.int vf), .val (.int vt), .val (.ref b22), .val (.int yf), .val (.int yt), .val (.int r35), .unset, .unset] [(.int (0 : Int32)), (.int r35), (.int yf), (.ref b22)])) _
            refine st37 _ ?_
            show Steps p.tables e below (T37.setTop (mkF m 142 #[.val (.int vs), .val (.long vr), .second, .val (.int vf), .val (.int vt), .val (.ref b22), .val (.int yf), .val (.int yt), .val (.int r35), .unset, .unset] [(.int r37)])) _
            refine XS.ifNo X37.here hx rfl (hb hby at_142) rfl ((if0 _ _).trans (feq (by rw [hr37]; decide : ¬ (r37 = (0 : Int32)))).1) ?_
            show Steps p.tables e below (T37.setTop (mkF m 145 #[.val (.int vs), .val (.long vr), .second, .val (.int vf), .val (.int vt), .val (.ref b22), .val (.int yf), .val (.int yt), .val (.int r35), .unset, .unset] [])) _
            refine XS.aload X37.here hx rfl (hb hby at_145) rfl rfl ?_
            show Steps p.tables e below (T37.setTop (mkF m 147 #[.val (.int vs), .val (.long vr), .second, .val (.int vf), .val (.int vt), .val (.ref b22), .val (.int yf), .val (.int yt), .val (.int r35), .unset, .unset] [(.ref b22)])) _
            refine XS.iload X37.here hx rfl (hb hby at_147) rfl ?_
            show Steps p.tables e below (T37.setTop (mkF m 149 #[.val (.int vs), .val (.long vr), .second, .val (.int vf), .val (.int vt), .val (.ref b22), .val (.int yf), .val (.int yt), .val (.int r35), .unset, .unset] [(.int yf), (.ref b22)])) _
            refine XS.iload X37.here hx rfl (hb hby at_149) rfl ?_
            show Steps p.tables e below (T37.setTop (mkF m 151 #[.val (.int vs), .val (.long vr), .second, .val (.int vf), .val (.int vt), .val (.ref b22), .val (.int yf), .val (.int yt), .val (.int r35), .unset, .unset] [(.int r35), (.int yf), (.ref b22)])) _
            refine XS.iconst X37.here hx rfl (hb hby at_151) ?_
            show Steps p.tables e below (T37.setTop (mkF m 152 #[.val (.int vs), .val (.long vr), .second, .val (.int vf), .val (.int vt), .val (.ref b22), .val (.int yf), .val (.int yt), .val (.int r35), .unset, .unset] [(.int (1 : Int32)), (.int r35), (.int yf), (.ref b22)])) _
            refine st38 _ ?_
            show Steps p.tables e below (T38.setTop (mkF m 155 #[.val (.int vs), .val (.long vr), .second, .val (.int vf), .val (.int vt), .val (.ref b22), .val (.int yf), .val (.int yt), .val (.int r35), .unset, .unset] [(.int r38)])) _
            refine XS.ifNo X38.here hx rfl (hb hby at_155) rfl ((if0 _ _).trans (feq (by rw [hr38]; decide : ¬ (r38 = (0 : Int32)))).1) ?_
            show Steps p.tables e below (T38.setTop (mkF m 158 #[.val (.int vs), .val (.long vr), .second, .val (.int vf), .val (.int vt), .val (.ref b22), .val (.int yf), .val (.int yt), .val (.int r35), .unset, .unset] [])) _
            refine XS.aload X38.here hx rfl (hb hby at_158) rfl rfl ?_
            show Steps p.tables e below (T38.setTop (mkF m 160 #[.val (.int vs), .val (.long vr), .second, .val (.int vf), .val (.int vt), .val (.ref b22), .val (.int yf), .val (.int yt), .val (.int r35), .unset, .unset] [(.ref b22)])) _
            refine XS.iload X38.here hx rfl (hb hby at_160) rfl ?_
            show Steps p.tables e below (T38.setTop (mkF m 162 #[.val (.int vs), .val (.long vr), .second, .val (.int vf), .val (.int vt), .val (.ref b22), .val (.int yf), .val (.int yt), .val (.int r35), .unset, .unset] [(.int yf), (.ref b22)])) _
            refine XS.iload X38.here hx rfl (hb hby at_162) rfl ?_
            show Steps p.tables e below (T38.setTop (mkF m 164 #[.val (.int vs), .val (.long vr), .second, .val (.int vf), .val (.int vt), .val (.ref b22), .val (.int yf), .val (.int yt), .val (.int r35), .unset, .unset] [(.int r35), (.int yf), (.ref b22)])) _
            refine XS.iconst X38.here hx rfl (hb hby at_164) ?_
            show Steps p.tables e below (T38.setTop (mkF m 165 #[.val (.int vs), .val (.long vr), .second, .val (.int vf), .val (.int vt), .val (.ref b22), .val (.int yf), .val (.int yt), .val (.int r35), .unset, .unset] [(.int (2 : Int32)), (.int r35), (.int yf), (.ref b22)])) _
            refine st39 _ ?_
            show Steps p.tables e below (T39.setTop (mkF m 168 #[.val (.int vs), .val (.long vr), .second, .val (.int vf), .val (.int vt), .val (.ref b22), .val (.int yf), .val (.int yt), .val (.int r35), .unset, .unset] [(.int r39)])) _
            refine XS.ifNo X39.here hx rfl (hb hby at_168) rfl ((if0 _ _).trans (feq (by rw [hr39]; decide : ¬ (r39 = (0 : Int32)))).1) ?_
            show Steps p.tables e below (T39.setTop (mkF m 171 #[.val (.int vs), .val (.long vr), .second, .val (.int vf), .val (.int vt), .val (.ref b22), .val (.int yf), .val (.int yt), .val (.int r35), .unset, .unset] [])) _
            refine XS.aload X39.here hx rfl (hb hby at_171) rfl rfl ?_
            show Steps p.tables e below (T39.setTop (mkF m 173 #[.val (.int vs), .val (.long vr), .second, .val (.int vf), .val (.int vt), .val (.ref b22), .val (.int yf), .val (.int yt), .val (.int r35), .unset, .unset] [(.ref b22)])) _
            refine XS.iload X39.here hx rfl (hb hby at_173) rfl ?_
            show Steps p.tables e below (T39.setTop (mkF m 175 #[.val (.int vs), .val (.long vr), .second, .val (.int vf), .val (.int vt), .val (.ref b22), .val (.int yf), .val (.int yt), .val (.int r35), .unset, .unset] [(.int yf), (.ref b22)])) _
            refine XS.iload X39.here hx rfl (hb hby at_175) rfl ?_
            show Steps p.tables e below (T39.setTop (mkF m 177 #[.val (.int vs), .val (.long vr), .second, .val (.int vf), .val (.int vt), .val (.ref b22), .val (.int yf), .val (.int yt), .val (.int r35), .unset, .unset] [(.int r35), (.int yf), (.ref b22)])) _
            refine XS.iconst X39.here hx rfl (hb hby at_177) ?_
            show Steps p.tables e below (T39.setTop (mkF m 178 #[.val (.int vs), .val (.long vr), .second, .val (.int vf), .val (.int vt), .val (.ref b22), .val (.int yf), .val (.int yt), .val (.int r35), .unset, .unset] [(.int (3 : Int32)), (.int r35), (.int yf), (.ref b22)])) _
            refine st40 _ ?_
            show Steps p.tables e below (T40.setTop (mkF m 181 #[.val (.int vs), .val (.long vr), .second, .val (.int vf), .val (.int vt), .val (.ref b22), .val (.int yf), .val (.int yt), .val (.int r35), .unset, .unset] [(.int r40)])) _
            refine XS.ifNo X40.here hx rfl (hb hby at_181) rfl ((if0 _ _).trans (feq (by rw [hr40]; decide : ¬ (r40 = (0 : Int32)))).1) ?_
            show Steps p.tables e below (T40.setTop (mkF m 184 #[.val (.int vs), .val (.long vr), .second, .val (.int vf), .val (.int vt), .val (.ref b22), .val (.int yf), .val (.int yt), .val (.int r35), .unset, .unset] [])) _
            refine XS.aload X40.here hx rfl (hb hby at_184) rfl rfl ?_
            show Steps p.tables e below (T40.setTop (mkF m 186 #[.val (.int vs), .val (.long vr), .second, .val (.int vf), .val (.int vt), .val (.ref b22), .val (.int yf), .val (.int yt), .val (.int r35), .unset, .unset] [(.ref b22)])) _
            refine XS.iload X40.here hx rfl (hb hby at_186) rfl ?_
            show Steps p.tables e below (T40.setTop (mkF m 188 #[.val (.int vs), .val (.long vr), .second, .val (.int vf), .val (.int vt), .val (.ref b22), .val (.int yf), .val (.int yt), .val (.int r35), .unset, .unset] [(.int yf), (.ref b22)])) _
            refine XS.iload X40.here hx rfl (hb hby at_188) rfl ?_
            show Steps p.tables e below (T40.setTop (mkF m 190 #[.val (.int vs), .val (.long vr), .second, .val (.int vf), .val (.int vt), .val (.ref b22), .val (.int yf), .val (.int yt), .val (.int r35), .unset, .unset] [(.int r35), (.int yf), (.ref b22)])) _
            refine XS.iconst X40.here hx rfl (hb hby at_190) ?_
            show Steps p.tables e below (T40.setTop (mkF m 191 #[.val (.int vs), .val (.long vr), .second, .val (.int vf), .val (.int vt), .val (.ref b22), .val (.int yf), .val (.int yt), .val (.int r35), .unset, .unset] [(.int (4 : Int32)), (.int r35), (.int yf), (.ref b22)])) _
            refine st41 _ ?_
            show Steps p.tables e below (T41.setTop (mkF m 194 #[.val (.int vs), .val (.long vr), .second, .val (.int vf), .val (.int vt), .val (.ref b22), .val (.int yf), .val (.int yt), .val (.int r35), .unset, .unset] [(.int r41)])) _
            refine XS.ifNo X41.here hx rfl (hb hby at_194) rfl ((if0 _ _).trans (feq (by rw [hr41]; decide : ¬ (r41 = (0 : Int32)))).1) ?_
            show Steps p.tables e below (T41.setTop (mkF m 197 #[.val (.int vs), .val (.long vr), .second, .val (.int vf), .val (.int vt), .val (.ref b22), .val (.int yf), .val (.int yt), .val (.int r35), .unset, .unset] [])) _
            refine XS.aload X41.here hx rfl (hb hby at_197) rfl rfl ?_
            show Steps p.tables e below (T41.setTop (mkF m 199 #[.val (.int vs), .val (.long vr), .second, .val (.int vf), .val (.int vt), .val (.ref b22), .val (.int yf), .val (.int yt), .val (.int r35), .unset, .unset] [(.ref b22)])) _
            refine XS.iload X41.here hx rfl (hb hby at_199) rfl ?_
            show Steps p.tables e below (T41.setTop (mkF m 201 #[.val (.int vs), .val (.long vr), .second, .val (.int vf), .val (.int vt), .val (.ref b22), .val (.int yf), .val (.int yt), .val (.int r35), .unset, .unset] [(.int yf), (.ref b22)])) _
            refine XS.iload X41.here hx rfl (hb hby at_201) rfl ?_
            show Steps p.tables e below (T41.setTop (mkF m 203 #[.val (.int vs), .val (.long vr), .second, .val (.int vf), .val (.int vt), .val (.ref b22), .val (.int yf), .val (.int yt), .val (.int r35), .unset, .unset] [(.int r35), (.int yf), (.ref b22)])) _
            refine XS.iconst X41.here hx rfl (hb hby at_203) ?_
            show Steps p.tables e below (T41.setTop (mkF m 204 #[.val (.int vs), .val (.long vr), .second, .val (.int vf), .val (.int vt), .val (.ref b22), .val (.int yf), .val (.int yt), .val (.int r35), .unset, .unset] [(.int (5 : Int32)), (.int r35), (.int yf), (.ref b22)])) _
            refine st42 _ ?_
            show Steps p.tables e below (T42.setTop (mkF m 207 #[.val (.int vs), .val (.long vr), .second, .val (.int vf), .val (.int vt), .val (.ref b22), .val (.int yf), .val (.int yt), .val (.int r35), .unset, .unset] [(.int r42)])) _
            refine XS.ifNo X42.here hx rfl (hb hby at_207) rfl ((if0 _ _).trans (feq (by rw [hr42]; decide : ¬ (r42 = (0 : Int32)))).1) ?_
            show Steps p.tables e below (T42.setTop (mkF m 210 #[.val (.int vs), .val (.long vr), .second, .val (.int vf), .val (.int vt), .val (.ref b22), .val (.int yf), .val (.int yt), .val (.int r35), .unset, .unset] [])) _
            refine XS.iconst X42.here hx rfl (hb hby at_210) ?_
            show Steps p.tables e below (T42.setTop (mkF m 211 #[.val (.int vs), .val (.long vr), .second, .val (.int vf), .val (.int vt), .val (.ref b22), .val (.int yf), .val (.int yt), .val (.int r35), .unset, .unset] [(.int (1 : Int32))])) _
            refine XS.goto X42.here hx rfl (pc0 := 211) (pc' := 215) rfl (hb hby at_211) (by decide) (by decide) ?_
            show Steps p.tables e below (T42.setTop (mkF m 215 #[.val (.int vs), .val (.long vr), .second, .val (.int vf), .val (.int vt), .val (.ref b22), .val (.int yf), .val (.int yt), .val (.int r35), .unset, .unset] [(.int (1 : Int32))])) _
            refine XS.istore X42.here hx rfl (hb hby at_215) rfl (l' := #[.val (.int vs), .val (.long vr), .second, .val (.int vf), .val (.int vt), .val (.ref b22), .val (.int yf), .val (.int yt), .val (.int r35), .val (.int (1 : Int32)), .unset]) rfl ?_
            show Steps p.tables e below (T42.setTop (mkF m 217 #[.val (.int vs), .val (.long vr), .second, .val (.int vf), .val (.int vt), .val (.ref b22), .val (.int yf), .val (.int yt), .val (.int r35), .val (.int (1 : Int32)), .unset] [])) _
            refine XS.iload X42.here hx rfl (hb hby at_217) rfl ?_
            show Steps p.tables e below (T42.setTop (mkF m 219 #[.val (.int vs), .val (.long vr), .second, .val (.int vf), .val (.int vt), .val (.ref b22), .val (.int yf), .val (.int yt), .val (.int r35), .val (.int (1 : Int32)), .unset] [(.int r35)])) _
            refine XS.iload X42.here hx rfl (hb hby at_219) rfl ?_
            show Steps p.tables e below (T42.setTop (mkF m 221 #[.val (.int vs), .val (.long vr), .second, .val (.int vf), .val (.int vt), .val (.ref b22), .val (.int yf), .val (.int yt), .val (.int r35), .val (.int (1 : Int32)), .unset] [(.int yt), (.int r35)])) _
            refine XS.icmpNo X42.here hx rfl (hb hby at_221) rfl (feq h221_43).1 ?_
            show Steps p.tables e below (T42.setTop (mkF m 224 #[.val (.int vs), .val (.long vr), .second, .val (.int vf), .val (.int vt), .val (.ref b22), .val (.int yf), .val (.int yt), .val (.int r35), .val (.int (1 : Int32)), .unset] [])) _
            refine XS.aload X42.here hx rfl (hb hby at_224) rfl rfl ?_
            show Steps p.tables e below (T42.setTop (mkF m 226 #[.val (.int vs), .val (.long vr), .second, .val (.int vf), .val (.int vt), .val (.ref b22), .val (.int yf), .val (.int yt), .val (.int r35), .val (.int (1 : Int32)), .unset] [(.ref b22)])) _
            refine XS.iload X42.here hx rfl (hb hby at_226) rfl ?_
            show Steps p.tables e below (T42.setTop (mkF m 228 #[.val (.int vs), .val (.long vr), .second, .val (.int vf), .val (.int vt), .val (.ref b22), .val (.int yf), .val (.int yt), .val (.int r35), .val (.int (1 : Int32)), .unset] [(.int r35), (.ref b22)])) _
            obtain ⟨cl44, Ar44, q44, S44, N44a, H44, G44⟩ := id Av_b22_34
            have hin44 : ¬ (r35 < 0 ∨ cl44.slots.size ≤ (r35).toNatClampNeg) := inb_of S44 (own_idx _ (by have q1 := (hr35.2 ((own_lt _ _).mp h100_36)).1; have q2 := (hr35.2 ((own_lt _ _).mp h100_36)).2.1; have q3 : r35.toInt ≠ yt.toInt := fun q => h221_43 (Int32.toInt_inj.mp q); omega) (by have q1 := (hr35.2 ((own_lt _ _).mp h100_36)).1; have q2 := (hr35.2 ((own_lt _ _).mp h100_36)).2.1; have q3 : r35.toInt ≠ yt.toInt := fun q => h221_43 (Int32.toInt_inj.mp q); omega))
            have hat44 : cl44.slots[(r35).toNatClampNeg]? = some (.int (own_B [(nar .byte r23), (nar .byte r25), (nar .byte r27), (nar .byte r29), (nar .byte r31), (nar .byte r33)] r35)) := H44.at hin44 (own_getD [(nar .byte r23), (nar .byte r25), (nar .byte r27), (nar .byte r29), (nar .byte r31), (nar .byte r33)] _)
            refine X42.baloadBytes hx (j := r35) (v := (.int (own_B [(nar .byte r23), (nar .byte r25), (nar .byte r27), (nar .byte r29), (nar .byte r31), (nar .byte r33)] r35))) (by rw [e42]; exact Ar44.1) (State.isArrayOf_alike hZ.alike Ar44.2.1) Ar44.2.2 hin44 hat44 (g := (mkF m 228 #[.val (.int vs), .val (.long vr), .second, .val (.int vf), .val (.int vt), .val (.ref b22), .val (.int yf), .val (.int yt), .val (.int r35), .val (.int (1 : Int32)), .unset] [(.int r35), (.ref b22)])) rfl rfl (hb hby at_228) _ ?_
            show Steps p.tables e below (T42.setTop (mkF m 229 #[.val (.int vs), .val (.long vr), .second, .val (.int vf), .val (.int vt), .val (.ref b22), .val (.int yf), .val (.int yt), .val (.int r35), .val (.int (1 : Int32)), .unset] [(.int (own_B [(nar .byte r23), (nar .byte r25), (nar .byte r27), (nar .byte r29), (nar .byte r31), (nar .byte r33)] r35))])) _
            refine XS.bipush X42.here hx rfl (hb hby at_229) ?_
            show Steps p.tables e below (T42.setTop (mkF m 231 #[.val (.int vs), .val (.long vr), .second, .val (.int vf), .val (.int vt), .val (.ref b22), .val (.int yf), .val (.int yt), .val (.int r35), .val (.int (1 : Int32)), .unset] [(.int (10 : Int32)), (.int (own_B [(nar .byte r23), (nar .byte r25), (nar .byte r27), (nar .byte r29), (nar .byte r31), (nar .byte r33)] r35))])) _
            refine XS.icmpNo X42.here hx rfl (hb hby at_231) rfl (feq (((hr35.2 ((own_lt _ _).mp h100_36)).2.2.2.resolve_left h221_43).1 : ¬ ((own_B [(nar .byte r23), (nar .byte r25), (nar .byte r27), (nar .byte r29), (nar .byte r31), (nar .byte r33)] r35) = (10 : Int32)))).1 ?_
            show Steps p.tables e below (T42.setTop (mkF m 234 #[.val (.int vs), .val (.long vr), .second, .val (.int vf), .val (.int vt), .val (.ref b22), .val (.int yf), .val (.int yt), .val (.int r35), .val (.int (1 : Int32)), .unset] [])) _
            refine XS.aload X42.here hx rfl (hb hby at_234) rfl rfl ?_
            show Steps p.tables e below (T42.setTop (mkF m 236 #[.val (.int vs), .val (.long vr), .second, .val (.int vf), .val (.int vt), .val (.ref b22), .val (.int yf), .val (.int yt), .val (.int r35), .val (.int (1 : Int32)), .unset] [(.ref b22)])) _
            refine XS.iload X42.here hx rfl (hb hby at_236) rfl ?_
            show Steps p.tables e below (T42.setTop (mkF m 238 #[.val (.int vs), .val (.long vr), .second, .val (.int vf), .val (.int vt), .val (.ref b22), .val (.int yf), .val (.int yt), .val (.int r35), .val (.int (1 : Int32)), .unset] [(.int r35), (.ref b22)])) _
            obtain ⟨cl45, Ar45, q45, S45, N45a, H45, G45⟩ := id Av_b22_34
            have hin45 : ¬ (r35 < 0 ∨ cl45.slots.size ≤ (r35).toNatClampNeg) := inb_of S45 (own_idx _ (by have q1 := (hr35.2 ((own_lt _ _).mp h100_36)).1; have q2 := (hr35.2 ((own_lt _ _).mp h100_36)).2.1; have q3 : r35.toInt ≠ yt.toInt := fun q => h221_43 (Int32.toInt_inj.mp q); omega) (by have q1 := (hr35.2 ((own_lt _ _).mp h100_36)).1; have q2 := (hr35.2 ((own_lt _ _).mp h100_36)).2.1; have q3 : r35.toInt ≠ yt.toInt := fun q => h221_43 (Int32.toInt_inj.mp q); omega))
            have hat45 : cl45.slots[(r35).toNatClampNeg]? = some (.int (own_B [(nar .byte r23), (nar .byte r25), (nar .byte r27), (nar .byte r29), (nar .byte r31), (nar .byte r33)] r35)) := H45.at hin45 (own_getD [(nar .byte r23), (nar .byte r25), (nar .byte r27), (nar .byte r29), (nar .byte r31), (nar .byte r33)] _)
            refine X42.baloadBytes hx (j := r35) (v := (.int (own_B [(nar .byte r23), (nar .byte r25), (nar .byte r27), (nar .byte r29), (nar .byte r31), (nar .byte r33)] r35))) (by rw [e42]; exact Ar45.1) (State.isArrayOf_alike hZ.alike Ar45.2.1) Ar45.2.2 hin45 hat45 (g := (mkF m 238 #[.val (.int vs), .val (.long vr), .second, .val (.int vf), .val (.int vt), .val (.ref b22), .val (.int yf), .val (.int yt), .val (.int r35), .val (.int (1 : Int32)), .unset] [(.int r35), (.ref b22)])) rfl rfl (hb hby at_238) _ ?_
            show Steps p.tables e below (T42.setTop (mkF m 239 #[.val (.int vs), .val (.long vr), .second, .val (.int vf), .val (.int vt), .val (.ref b22), .val (.int yf), .val (.int yt), .val (.int r35), .val (.int (1 : Int32)), .unset] [(.int (own_B [(nar .byte r23), (nar .byte r25), (nar .byte r27), (nar .byte r29), (nar .byte r31), (nar .byte r33)] r35))])) _
            refine XS.bipush X42.here hx rfl (hb hby at_239) ?_
            show Steps p.tables e below (T42.setTop (mkF m 241 #[.val (.int vs), .val (.long vr), .second, .val (.int vf), .val (.int vt), .val (.ref b22), .val (.int yf), .val (.int yt), .val (.int r35), .val (.int (1 : Int32)), .unset] [(.int (13 : Int32)), (.int (own_B [(nar .byte r23), (nar .byte r25), (nar .byte r27), (nar .byte r29), (nar .byte r31), (nar .byte r33)] r35))])) _
            refine XS.icmpNo X42.here hx rfl (hb hby at_241) rfl (teq h241_46).2 ?_
            show Steps p.tables e below (T42.setTop (mkF m 244 #[.val (.int vs), .val (.long vr), .second, .val (.int vf), .val (.int vt), .val (.ref b22), .val (.int yf), .val (.int yt), .val (.int r35), .val (.int (1 : Int32)), .unset] [])) _
            refine XS.iload X42.here hx rfl (hb hby at_244) rfl ?_
            show Steps p.tables e below (T42.setTop (mkF m 246 #[.val (.int vs), .val (.long vr), .second, .val (.int vf), .val (.int vt), .val (.ref b22), .val (.int yf), .val (.int yt), .val (.int r35), .val (.int (1 : Int32)), .unset] [(.int r35)])) _
            refine XS.iconst X42.here hx rfl (hb hby at_246) ?_
            show Steps p.tables e below (T42.setTop (mkF m 247 #[.val (.int vs), .val (.long vr), .second, .val (.int vf), .val (.int vt), .val (.ref b22), .val (.int yf), .val (.int yt), .val (.int r35), .val (.int (1 : Int32)), .unset] [(.int (1 : Int32)), (.int r35)])) _
            refine XS.iadd X42.here hx rfl (hb hby at_247) rfl ?_
            show Steps p.tables e below (T42.setTop (mkF m 248 #[.val (.int vs), .val (.long vr), .second, .val (.int vf), .val (.int vt), .val (.ref b22), .val (.int yf), .val (.int yt), .val (.int r35), .val (.int (1 : Int32)), .unset] [(.int (r35 + (1 : Int32)))])) _
            refine XS.iload X42.here hx rfl (hb hby at_248) rfl ?_
            show Steps p.tables e below (T42.setTop (mkF m 250 #[.val (.int vs), .val (.long vr), .second, .val (.int vf), .val (.int vt), .val (.ref b22), .val (.int yf), .val (.int yt), .val (.int r35), .val (.int (1 : Int32)), .unset] [(.int yt), (.int (r35 + (1 : Int32)))])) _
            refine XS.icmpNo X42.here hx rfl (hb hby at_250) rfl (tlt h250_47).2.1 ?_
            show Steps p.tables e below (T42.setTop (mkF m 253 #[.val (.int vs), .val (.long vr), .second, .val (.int vf), .val (.int vt), .val (.ref b22), .val (.int yf), .val (.int yt), .val (.int r35), .val (.int (1 : Int32)), .unset] [])) _
            refine XS.aload X42.here hx rfl (hb hby at_253) rfl rfl ?_
            show Steps p.tables e below (T42.setTop (mkF m 255 #[.val (.int vs), .val (.long vr), .second, .val (.int vf), .val (.int vt), .val (.ref b22), .val (.int yf), .val (.int yt), .val (.int r35), .val (.int (1 : Int32)), .unset] [(.ref b22)])) _
            refine XS.iload X42.here hx rfl (hb hby at_255) rfl ?_
            show Steps p.tables e below (T42.setTop (mkF m 257 #[.val (.int vs), .val (.long vr), .second, .val (.int vf), .val (.int vt), .val (.ref b22), .val (.int yf), .val (.int yt), .val (.int r35), .val (.int (1 : Int32)), .unset] [(.int r35), (.ref b22)])) _
            refine XS.iconst X42.here hx rfl (hb hby at_257) ?_
            show Steps p.tables e below (T42.setTop (mkF m 258 #[.val (.int vs), .val (.long vr), .second, .val (.int vf), .val (.int vt), .val (.ref b22), .val (.int yf), .val (.int yt), .val (.int r35), .val (.int (1 : Int32)), .unset] [(.int (1 : Int32)), (.int r35), (.ref b22)])) _
            refine XS.iadd X42.here hx rfl (hb hby at_258) rfl ?_
            show Steps p.tables e below (T42.setTop (mkF m 259 #[.val (.int vs), .val (.long vr), .second, .val (.int vf), .val (.int vt), .val (.ref b22), .val (.int yf), .val (.int yt), .val (.int r35), .val (.int (1 : Int32)), .unset] [(.int (r35 + (1 : Int32))), (.ref b22)])) _
            obtain ⟨cl48, Ar48, q48, S48, N48a, H48, G48⟩ := id Av_b22_34
            have hin48 : ¬ ((r35 + (1 : Int32)) < 0 ∨ cl48.slots.size ≤ ((r35 + (1 : Int32))).toNatClampNeg) := inb_of S48 (own_idx _ (by have q1 := (hr35.2 ((own_lt _ _).mp h100_36)).1; have q2 := (hr35.2 ((own_lt _ _).mp h100_36)).2.1; have q3 : r35.toInt ≠ yt.toInt := fun q => h221_43 (Int32.toInt_inj.mp q); rw [own_inc _ 1 (by decide) (by omega) (by omega), show (1 : Int32).toInt = 1 from by decide]; omega) (by have := (own_lt _ _).mp h250_47; omega))
            have hat48 : cl48.slots[((r35 + (1 : Int32))).toNatClampNeg]? = some (.int (own_B [(nar .byte r23), (nar .byte r25), (nar .byte r27), (nar .byte r29), (nar .byte r31), (nar .byte r33)] (r35 + (1 : Int32)))) := H48.at hin48 (own_getD [(nar .byte r23), (nar .byte r25), (nar .byte r27), (nar .byte r29), (nar .byte r31), (nar .byte r33)] _)
            refine X42.baloadBytes hx (j := (r35 + (1 : Int32))) (v := (.int (own_B [(nar .byte r23), (nar .byte r25), (nar .byte r27), (nar .byte r29), (nar .byte r31), (nar .byte r33)] (r35 + (1 : Int32))))) (by rw [e42]; exact Ar48.1) (State.isArrayOf_alike hZ.alike Ar48.2.1) Ar48.2.2 hin48 hat48 (g := (mkF m 259 #[.val (.int vs), .val (.long vr), .second, .val (.int vf), .val (.int vt), .val (.ref b22), .val (.int yf), .val (.int yt), .val (.int r35), .val (.int (1 : Int32)), .unset] [(.int (r35 + (1 : Int32))), (.ref b22)])) rfl rfl (hb hby at_259) _ ?_
            show Steps p.tables e below (T42.setTop (mkF m 260 #[.val (.int vs), .val (.long vr), .second, .val (.int vf), .val (.int vt), .val (.ref b22), .val (.int yf), .val (.int yt), .val (.int r35), .val (.int (1 : Int32)), .unset] [(.int (own_B [(nar .byte r23), (nar .byte r25), (nar .byte r27), (nar .byte r29), (nar .byte r31), (nar .byte r33)] (r35 + (1 : Int32))))])) _
            refine XS.bipush X42.here hx rfl (hb hby at_260) ?_
            show Steps p.tables e below (T42.setTop (mkF m 262 #[.val (.int vs), .val (.long vr), .second, .val (.int vf), .val (.int vt), .val (.ref b22), .val (.int yf), .val (.int yt), .val (.int r35), .val (.int (1 : Int32)), .unset] [(.int (10 : Int32)), (.int (own_B [(nar .byte r23), (nar .byte r25), (nar .byte r27), (nar .byte r29), (nar .byte r31), (nar .byte r33)] (r35 + (1 : Int32))))])) _
            refine XS.icmpNo X42.here hx rfl (hb hby at_262) rfl (feq (((hr35.2 ((own_lt _ _).mp h100_36)).2.2.2.resolve_left h221_43).2 h241_46 ((own_lt _ _).mp h250_47) : ¬ ((own_B [(nar .byte r23), (nar .byte r25), (nar .byte r27), (nar .byte r29), (nar .byte r31), (nar .byte r33)] (r35 + (1 : Int32))) = (10 : Int32)))).1 ?_
            show Steps p.tables e below (T42.setTop (mkF m 265 #[.val (.int vs), .val (.long vr), .second, .val (.int vf), .val (.int vt), .val (.ref b22), .val (.int yf), .val (.int yt), .val (.int r35), .val (.int (1 : Int32)), .unset] [])) _
            refine XS.iconst X42.here hx rfl (hb hby at_265) ?_
            show Steps p.tables e below (T42.setTop (mkF m 266 #[.val (.int vs), .val (.long vr), .second, .val (.int vf), .val (.int vt), .val (.ref b22), .val (.int yf), .val (.int yt), .val (.int r35), .val (.int (1 : Int32)), .unset] [(.int (1 : Int32))])) _
            refine XS.goto X42.here hx rfl (pc0 := 266) (pc' := 270) rfl (hb hby at_266) (by decide) (by decide) ?_
            show Steps p.tables e below (T42.setTop (mkF m 270 #[.val (.int vs), .val (.long vr), .second, .val (.int vf), .val (.int vt), .val (.ref b22), .val (.int yf), .val (.int yt), .val (.int r35), .val (.int (1 : Int32)), .unset] [(.int (1 : Int32))])) _
            refine XS.istore X42.here hx rfl (hb hby at_270) rfl (l' := #[.val (.int vs), .val (.long vr), .second, .val (.int vf), .val (.int vt), .val (.ref b22), .val (.int yf), .val (.int yt), .val (.int r35), .val (.int (1 : Int32)), .val (.int (1 : Int32))]) rfl ?_
            show Steps p.tables e below (T42.setTop (mkF m 272 #[.val (.int vs), .val (.long vr), .second, .val (.int vf), .val (.int vt), .val (.ref b22), .val (.int yf), .val (.int yt), .val (.int r35), .val (.int (1 : Int32)), .val (.int (1 : Int32))] [])) _
            refine XS.iload X42.here hx rfl (hb hby at_272) rfl ?_
            show Steps p.tables e below (T42.setTop (mkF m 274 #[.val (.int vs), .val (.long vr), .second, .val (.int vf), .val (.int vt), .val (.ref b22), .val (.int yf), .val (.int yt), .val (.int r35), .val (.int (1 : Int32)), .val (.int (1 : Int32))] [(.int (1 : Int32))])) _
            refine XS.ifNo X42.here hx rfl (hb hby at_274) rfl ((if0 _ _).trans (feq (by decide : ¬ ((1 : Int32) = (0 : Int32)))).1) ?_
            show Steps p.tables e below (T42.setTop (mkF m 277 #[.val (.int vs), .val (.long vr), .second, .val (.int vf), .val (.int vt), .val (.ref b22), .val (.int yf), .val (.int yt), .val (.int r35), .val (.int (1 : Int32)), .val (.int (1 : Int32))] [])) _
            refine XS.iload X42.here hx rfl (hb hby at_277) rfl ?_
            show Steps p.tables e below (T42.setTop (mkF m 279 #[.val (.int vs), .val (.long vr), .second, .val (.int vf), .val (.int vt), .val (.ref b22), .val (.int yf), .val (.int yt), .val (.int r35), .val (.int (1 : Int32)), .val (.int (1 : Int32))] [(.int (1 : Int32))])) _
            refine XS.ifNo X42.here hx rfl (hb hby at_279) rfl ((if0 _ _).trans (feq (by decide : ¬ ((1 : Int32) = (0 : Int32)))).1) ?_
            show Steps p.tables e below (T42.setTop (mkF m 282 #[.val (.int vs), .val (.long vr), .second, .val (.int vf), .val (.int vt), .val (.ref b22), .val (.int yf), .val (.int yt), .val (.int r35), .val (.int (1 : Int32)), .val (.int (1 : Int32))] [])) _
            refine XS.iconst X42.here hx rfl (hb hby at_282) ?_
            show Steps p.tables e below (T42.setTop (mkF m 283 #[.val (.int vs), .val (.long vr), .second, .val (.int vf), .val (.int vt), .val (.ref b22), .val (.int yf), .val (.int yt), .val (.int r35), .val (.int (1 : Int32)), .val (.int (1 : Int32))] [(.int (1 : Int32))])) _
            refine XS.goto X42.here hx rfl (pc0 := 283) (pc' := 287) rfl (hb hby at_283) (by decide) (by decide) ?_
            show Steps p.tables e below (T42.setTop (mkF m 287 #[.val (.int vs), .val (.long vr), .second, .val (.int vf), .val (.int vt), .val (.ref b22), .val (.int yf), .val (.int yt), .val (.int r35), .val (.int (1 : Int32)), .val (.int (1 : Int32))] [(.int (1 : Int32))])) _
            exact retN X42 hx (t := .boolean) Bd.returns (by simp) (hb hby at_287) hr
          · show Q_law Z vs vr vf vt h0 n0 _ T42.heap _
            rw [e42]
            exact ⟨rfl, N42⟩
        · obtain ⟨fs, hr, hrun, hended, hW, hsame⟩ := X42.leave (v := some (.int (1 : Int32))) (fun h => by rw [Bd.returns] at h; cases h)
          refine ⟨_, _, pre0 _ ?_, hrun, hended, _, _, rfl, ?_, ⟨_, rfl⟩, hW, hsame.mono (by decide) (by decide)⟩
          · show Steps p.tables e below (s₁.setTop (mkF m 0 #[.val (.int vs), .val (.long vr), .second, .val (.int vf), .val (.int vt), .unset, .unset, .unset, .unset, .unset, .unset] [])) _
            refine XS.bipush X0.here hx rfl (hb hby at_0) ?_
            show Steps p.tables e below (s₁.setTop (mkF m 2 #[.val (.int vs), .val (.long vr), .second, .val (.int vf), .val (.int vt), .unset, .unset, .unset, .unset, .unset, .unset] [(.int (6 : Int32))])) _
            refine st22 _ ?_
            show Steps p.tables e below (T22.setTop (mkF m 4 #[.val (.int vs), .val (.long vr), .second, .val (.int vf), .val (.int vt), .unset, .unset, .unset, .unset, .unset, .unset] [(.ref b22)])) _
            refine XS.astore X22.here hx rfl (hb hby at_4) rfl rfl (l' := #[.val (.int vs), .val (.long vr), .second, .val (.int vf), .val (.int vt), .val (.ref b22), .unset, .unset, .unset, .unset, .unset]) rfl ?_
            show Steps p.tables e below (T22.setTop (mkF m 6 #[.val (.int vs), .val (.long vr), .second, .val (.int vf), .val (.int vt), .val (.ref b22), .unset, .unset, .unset, .unset, .unset] [])) _
            refine XS.aload X22.here hx rfl (hb hby at_6) rfl rfl ?_
            show Steps p.tables e below (T22.setTop (mkF m 8 #[.val (.int vs), .val (.long vr), .second, .val (.int vf), .val (.int vt), .val (.ref b22), .unset, .unset, .unset, .unset, .unset] [(.ref b22)])) _
            refine XS.iconst X22.here hx rfl (hb hby at_8) ?_
            show Steps p.tables e below (T22.setTop (mkF m 9 #[.val (.int vs), .val (.long vr), .second, .val (.int vf), .val (.int vt), .val (.ref b22), .unset, .unset, .unset, .unset, .unset] [(.int (0 : Int32)), (.ref b22)])) _
            refine XS.iloadN X22.here hx rfl (hb hby at_9) rfl ?_
            show Steps p.tables e below (T22.setTop (mkF m 10 #[.val (.int vs), .val (.long vr), .second, .val (.int vf), .val (.int vt), .val (.ref b22), .unset, .unset, .unset, .unset, .unset] [(.int vs), (.int (0 : Int32)), (.ref b22)])) _
            refine XS.iconst X22.here hx rfl (hb hby at_10) ?_
            show Steps p.tables e below (T22.setTop (mkF m 11 #[.val (.int vs), .val (.long vr), .second, .val (.int vf), .val (.int vt), .val (.ref b22), .unset, .unset, .unset, .unset, .unset] [(.int (0 : Int32)), (.int vs), (.int (0 : Int32)), (.ref b22)])) _
            refine XS.lloadN X22.here hx rfl (hb hby at_11) rfl ?_
            show Steps p.tables e below (T22.setTop (mkF m 12 #[.val (.int vs), .val (.long vr), .second, .val (.int vf), .val (.int vt), .val (.ref b22), .unset, .unset, .unset, .unset, .unset] [(.long vr), (.int (0 : Int32)), (.int vs), (.int (0 : Int32)), (.ref b22)])) _
            refine st23 _ ?_
            show Steps p.tables e below (T23.setTop (mkF m 15 #[.val (.int vs), .val (.long vr), .second, .val (.int vf), .val (.int vt), .val (.ref b22), .unset, .unset, .unset, .unset, .unset] [(.int r23), (.int (0 : Int32)), (.ref b22)])) _
            refine st24 _ ?_
            show Steps p.tables e below (T24.setTop (mkF m 16 #[.val (.int vs), .val (.long vr), .second, .val (.int vf), .val (.int vt), .val (.ref b22), .unset, .unset, .unset, .unset, .unset] [])) _
            refine XS.aload X24.here hx rfl (hb hby at_16) rfl rfl ?_
            show Steps p.tables e below (T24.setTop (mkF m 18 #[.val (.int vs), .val (.long vr), .second, .val (.int vf), .val (.int vt), .val (.ref b22), .unset, .unset, .unset, .unset, .unset] [(.ref b22)])) _
            refine XS.iconst X24.here hx rfl (hb hby at_18) ?_
            show Steps p.tables e below (T24.setTop (mkF m 19 #[.val (.int vs), .val (.long vr), .second, .val (.int vf), .val (.int vt), .val (.ref b22), .unset, .unset, .unset, .unset, .unset] [(.int (1 : Int32)), (.ref b22)])) _
            refine XS.iloadN X24.here hx rfl (hb hby at_19) rfl ?_
            show Steps p.tables e below (T24.setTop (mkF m 20 #[.val (.int vs), .val (.long vr), .second, .val (.int vf), .val (.int vt), .val (.ref b22), .unset, .unset, .unset, .unset, .unset] [(.int vs), (.int (1 : Int32)), (.ref b22)])) _
            refine XS.iconst X24.here hx rfl (hb hby at_20) ?_
            show Steps p.tables e below (T24.setTop (mkF m 21 #[.val (.int vs), .val (.long vr), .second, .val (.int vf), .val (.int vt), .val (.ref b22), .unset, .unset, .unset, .unset, .unset] [(.int (1 : Int32)), (.int vs), (.int (1 : Int32)), (.ref b22)])) _
            refine XS.lloadN X24.here hx rfl (hb hby at_21) rfl ?_
            show Steps p.tables e below (T24.setTop (mkF m 22 #[.val (.int vs), .val (.long vr), .second, .val (.int vf), .val (.int vt), .val (.ref b22), .unset, .unset, .unset, .unset, .unset] [(.long vr), (.int (1 : Int32)), (.int vs), (.int (1 : Int32)), (.ref b22)])) _
            refine st25 _ ?_
            show Steps p.tables e below (T25.setTop (mkF m 25 #[.val (.int vs), .val (.long vr), .second, .val (.int vf), .val (.int vt), .val (.ref b22), .unset, .unset, .unset, .unset, .unset] [(.int r25), (.int (1 : Int32)), (.ref b22)])) _
            refine st26 _ ?_
            show Steps p.tables e below (T26.setTop (mkF m 26 #[.val (.int vs), .val (.long vr), .second, .val (.int vf), .val (.int vt), .val (.ref b22), .unset, .unset, .unset, .unset, .unset] [])) _
            refine XS.aload X26.here hx rfl (hb hby at_26) rfl rfl ?_
            show Steps p.tables e below (T26.setTop (mkF m 28 #[.val (.int vs), .val (.long vr), .second, .val (.int vf), .val (.int vt), .val (.ref b22), .unset, .unset, .unset, .unset, .unset] [(.ref b22)])) _
            refine XS.iconst X26.here hx rfl (hb hby at_28) ?_
            show Steps p.tables e below (T26.setTop (mkF m 29 #[.val (.int vs), .val (.long vr), .second, .val (.int vf), .val (.int vt), .val (.ref b22), .unset, .unset, .unset, .unset, .unset] [(.int (2 : Int32)), (.ref b22)])) _
            refine XS.iloadN X26.here hx rfl (hb hby at_29) rfl ?_
            show Steps p.tables e below (T26.setTop (mkF m 30 #[.val (.int vs), .val (.long vr), .second, .val (.int vf), .val (.int vt), .val (.ref b22), .unset, .unset, .unset, .unset, .unset] [(.int vs), (.int (2 : Int32)), (.ref b22)])) _
            refine XS.iconst X26.here hx rfl (hb hby at_30) ?_
            show Steps p.tables e below (T26.setTop (mkF m 31 #[.val (.int vs), .val (.long vr), .second, .val (.int vf), .val (.int vt), .val (.ref b22), .unset, .unset, .unset, .unset, .unset] [(.int (2 : Int32)), (.int vs), (.int (2 : Int32)), (.ref b22)])) _
            refine XS.lloadN X26.here hx rfl (hb hby at_31) rfl ?_
            show Steps p.tables e below (T26.setTop (mkF m 32 #[.val (.int vs), .val (.long vr), .second, .val (.int vf), .val (.int vt), .val (.ref b22), .unset, .unset, .unset, .unset, .unset] [(.long vr), (.int (2 : Int32)), (.int vs), (.int (2 : Int32)), (.ref b22)])) _
            refine st27 _ ?_
            show Steps p.tables e below (T27.setTop (mkF m 35 #[.val (.int vs), .val (.long vr), .second, .val (.int vf), .val (.int vt), .val (.ref b22), .unset, .unset, .unset, .unset, .unset] [(.int r27), (.int (2 : Int32)), (.ref b22)])) _
            refine st28 _ ?_
            show Steps p.tables e below (T28.setTop (mkF m 36 #[.val (.int vs), .val (.long vr), .second, .val (.int vf), .val (.int vt), .val (.ref b22), .unset, .unset, .unset, .unset, .unset] [])) _
            refine XS.aload X28.here hx rfl (hb hby at_36) rfl rfl ?_
            show Steps p.tables e below (T28.setTop (mkF m 38 #[.val (.int vs), .val (.long vr), .second, .val (.int vf), .val (.int vt), .val (.ref b22), .unset, .unset, .unset, .unset, .unset] [(.ref b22)])) _
            refine XS.iconst X28.here hx rfl (hb hby at_38) ?_
            show Steps p.tables e below (T28.setTop (mkF m 39 #[.val (.int vs), .val (.long vr), .second, .val (.int vf), .val (.int vt), .val (.ref b22), .unset, .unset, .unset, .unset, .unset] [(.int (3 : Int32)), (.ref b22)])) _
            refine XS.iloadN X28.here hx rfl (hb hby at_39) rfl ?_
            show Steps p.tables e below (T28.setTop (mkF m 40 #[.val (.int vs), .val (.long vr), .second, .val (.int vf), .val (.int vt), .val (.ref b22), .unset, .unset, .unset, .unset, .unset] [(.int vs), (.int (3 : Int32)), (.ref b22)])) _
            refine XS.iconst X28.here hx rfl (hb hby at_40) ?_
            show Steps p.tables e below (T28.setTop (mkF m 41 #[.val (.int vs), .val (.long vr), .second, .val (.int vf), .val (.int vt), .val (.ref b22), .unset, .unset, .unset, .unset, .unset] [(.int (3 : Int32)), (.int vs), (.int (3 : Int32)), (.ref b22)])) _
            refine XS.lloadN X28.here hx rfl (hb hby at_41) rfl ?_
            show Steps p.tables e below (T28.setTop (mkF m 42 #[.val (.int vs), .val (.long vr), .second, .val (.int vf), .val (.int vt), .val (.ref b22), .unset, .unset, .unset, .unset, .unset] [(.long vr), (.int (3 : Int32)), (.int vs), (.int (3 : Int32)), (.ref b22)])) _
            refine st29 _ ?_
            show Steps p.tables e below (T29.setTop (mkF m 45 #[.val (.int vs), .val (.long vr), .second, .val (.int vf), .val (.int vt), .val (.ref b22), .unset, .unset, .unset, .unset, .unset] [(.int r29), (.int (3 : Int32)), (.ref b22)])) _
            refine st30 _ ?_
            show Steps p.tables e below (T30.setTop (mkF m 46 #[.val (.int vs), .val (.long vr), .second, .val (.int vf), .val (.int vt), .val (.ref b22), .unset, .unset, .unset, .unset, .unset] [])) _
            refine XS.aload X30.here hx rfl (hb hby at_46) rfl rfl ?_
            show Steps p.tables e below (T30.setTop (mkF m 48 #[.val (.int vs), .val (.long vr), .second, .val (.int vf), .val (.int vt), .val (.ref b22), .unset, .unset, .unset, .unset, .unset] [(.ref b22)])) _
            refine XS.iconst X30.here hx rfl (hb hby at_48) ?_
            show Steps p.tables e below (T30.setTop (mkF m 49 #[.val (.int vs), .val (.long vr), .second, .val (.int vf), .val (.int vt), .val (.ref b22), .unset, .unset, .unset, .unset, .unset] [(.int (4 : Int32)), (.ref b22)])) _
            refine XS.iloadN X30.here hx rfl (hb hby at_49) rfl ?_
            show Steps p.tables e below (T30.setTop (mkF m 50 #[.val (.int vs), .val (.long vr), .second, .val (.int vf), .val (.int vt), .val (.ref b22), .unset, .unset, .unset, .unset, .unset] [(.int vs), (.int (4 : Int32)), (.ref b22)])) _
            refine XS.iconst X30.here hx rfl (hb hby at_50) ?_
            show Steps p.tables e below (T30.setTop (mkF m 51 #[.val (.int vs), .val (.long vr), .second, .val (.int vf), .val (.int vt), .val (.ref b22), .unset, .unset, .unset, .unset, .unset] [(.int (4 : Int32)), (.int vs), (.int (4 : Int32)), (.ref b22)])) _
            refine XS.lloadN X30.here hx rfl (hb hby at_51) rfl ?_
            show Steps p.tables e below (T30.setTop (mkF m 52 #[.val (.int vs), .val (.long vr), .second, .val (.int vf), .val (.int vt), .val (.ref b22), .unset, .unset, .unset, .unset, .unset] [(.long vr), (.int (4 : Int32)), (.int vs), (.int (4 : Int32)), (.ref b22)])) _
            refine st31 _ ?_
            show Steps p.tables e below (T31.setTop (mkF m 55 #[.val (.int vs), .val (.long vr), .second, .val (.int vf), .val (.int vt), .val (.ref b22), .unset, .unset, .unset, .unset, .unset] [(.int r31), (.int (4 : Int32)), (.ref b22)])) _
            refine st32 _ ?_
            show Steps p.tables e below (T32.setTop (mkF m 56 #[.val (.int vs), .val (.long vr), .second, .val (.int vf), .val (.int vt), .val (.ref b22), .unset, .unset, .unset, .unset, .unset] [])) _
            refine XS.aload X32.here hx rfl (hb hby at_56) rfl rfl ?_
            show Steps p.tables e below (T32.setTop (mkF m 58 #[.val (.int vs), .val (.long vr), .second, .val (.int vf), .val (.int vt), .val (.ref b22), .unset, .unset, .unset, .unset, .unset] [(.ref b22)])) _
            refine XS.iconst X32.here hx rfl (hb hby at_58) ?_
            show Steps p.tables e below (T32.setTop (mkF m 59 #[.val (.int vs), .val (.long vr), .second, .val (.int vf), .val (.int vt), .val (.ref b22), .unset, .unset, .unset, .unset, .unset] [(.int (5 : Int32)), (.ref b22)])) _
            refine XS.iloadN X32.here hx rfl (hb hby at_59) rfl ?_
            show Steps p.tables e below (T32.setTop (mkF m 60 #[.val (.int vs), .val (.long vr), .second, .val (.int vf), .val (.int vt), .val (.ref b22), .unset, .unset, .unset, .unset, .unset] [(.int vs), (.int (5 : Int32)), (.ref b22)])) _
            refine XS.iconst X32.here hx rfl (hb hby at_60) ?_
            show Steps p.tables e below (T32.setTop (mkF m 61 #[.val (.int vs), .val (.long vr), .second, .val (.int vf), .val (.int vt), .val (.ref b22), .unset, .unset, .unset, .unset, .unset] [(.int (5 : Int32)), (.int vs), (.int (5 : Int32)), (.ref b22)])) _
            refine XS.lloadN X32.here hx rfl (hb hby at_61) rfl ?_
            show Steps p.tables e below (T32.setTop (mkF m 62 #[.val (.int vs), .val (.long vr), .second, .val (.int vf), .val (.int vt), .val (.ref b22), .unset, .unset, .unset, .unset, .unset] [(.long vr), (.int (5 : Int32)), (.int vs), (.int (5 : Int32)), (.ref b22)])) _
            refine st33 _ ?_
            show Steps p.tables e below (T33.setTop (mkF m 65 #[.val (.int vs), .val (.long vr), .second, .val (.int vf), .val (.int vt), .val (.ref b22), .unset, .unset, .unset, .unset, .unset] [(.int r33), (.int (5 : Int32)), (.ref b22)])) _
            refine st34 _ ?_
            show Steps p.tables e below (T34.setTop (mkF m 66 #[.val (.int vs), .val (.long vr), .second, .val (.int vf), .val (.int vt), .val (.ref b22), .unset, .unset, .unset, .unset, .unset] [])) _
            refine XS.iloadN X34.here hx rfl (hb hby at_66) rfl ?_
            show Steps p.tables e below (T34.setTop (mkF m 67 #[.val (.int vs), .val (.long vr), .second, .val (.int vf), .val (.int vt), .val (.ref b22), .unset, .unset, .unset, .unset, .unset] [(.int vf)])) _
            refine X34.ldcInt hx hown (mvT hZ (hw _ (List.mem_of_getElem? (i := 5) rfl))) (g := (mkF m 67 #[.val (.int vs), .val (.long vr), .second, .val (.int vf), .val (.int vt), .val (.ref b22), .unset, .unset, .unset, .unset, .unset] [(.int vf)])) rfl (hb hby at_67) _ ?_
            show Steps p.tables e below (T34.setTop (mkF m 69 #[.val (.int vs), .val (.long vr), .second, .val (.int vf), .val (.int vt), .val (.ref b22), .unset, .unset, .unset, .unset, .unset] [(.int (2147483647 : Int32)), (.int vf)])) _
            refine XS.iand X34.here hx rfl (hb hby at_69) rfl ?_
            show Steps p.tables e below (T34.setTop (mkF m 70 #[.val (.int vs), .val (.long vr), .second, .val (.int vf), .val (.int vt), .val (.ref b22), .unset, .unset, .unset, .unset, .unset] [(.int (vf &&& (2147483647 : Int32)))])) _
            refine XS.bipush X34.here hx rfl (hb hby at_70) ?_
            show Steps p.tables e below (T34.setTop (mkF m 72 #[.val (.int vs), .val (.long vr), .second, .val (.int vf), .val (.int vt), .val (.ref b22), .unset, .unset, .unset, .unset, .unset] [(.int (7 : Int32)), (.int (vf &&& (2147483647 : Int32)))])) _
            refine iremM X34 hx rfl (hb hby at_72) rfl (by decide) ?_
            show Steps p.tables e below (T34.setTop (mkF m 73 #[.val (.int vs), .val (.long vr), .second, .val (.int vf), .val (.int vt), .val (.ref b22), .unset, .unset, .unset, .unset, .unset] [(.int ((vf &&& (2147483647 : Int32)) % (7 : Int32)))])) _
            rw [← hyf]
            show Steps p.tables e below (T34.setTop (mkF m 73 #[.val (.int vs), .val (.long vr), .second, .val (.int vf), .val (.int vt), .val (.ref b22), .unset, .unset, .unset, .unset, .unset] [(.int yf)])) _
            refine XS.istore X34.here hx rfl (hb hby at_73) rfl (l' := #[.val (.int vs), .val (.long vr), .second, .val (.int vf), .val (.int vt), .val (.ref b22), .val (.int yf), .unset, .unset, .unset, .unset]) rfl ?_
            show Steps p.tables e below (T34.setTop (mkF m 75 #[.val (.int vs), .val (.long vr), .second, .val (.int vf), .val (.int vt), .val (.ref b22), .val (.int yf), .unset, .unset, .unset, .unset] [])) _
            refine XS.iload X34.here hx rfl (hb hby at_75) rfl ?_
            show Steps p.tables e below (T34.setTop (mkF m 77 #[.val (.int vs), .val (.long vr), .second, .val (.int vf), .val (.int vt), .val (.ref b22), .val (.int yf), .unset, .unset, .unset, .unset] [(.int vt)])) _
            refine X34.ldcInt hx hown (mvT hZ (hw _ (List.mem_of_getElem? (i := 5) rfl))) (g := (mkF m 77 #[.val (.int vs), .val (.long vr), .second, .val (.int vf), .val (.int vt), .val (.ref b22), .val (.int yf), .unset, .unset, .unset, .unset] [(.int vt)])) rfl (hb hby at_77) _ ?_
            show Steps p.tables e below (T34.setTop (mkF m 79 #[.val (.int vs), .val (.long vr), .second, .val (.int vf), .val (.int vt), .val (.ref b22), .val (.int yf), .unset, .unset, .unset, .unset] [(.int (2147483647 : Int32)), (.int vt)])) _
            refine XS.iand X34.here hx rfl (hb hby at_79) rfl ?_
            show Steps p.tables e below (T34.setTop (mkF m 80 #[.val (.int vs), .val (.long vr), .second, .val (.int vf), .val (.int vt), .val (.ref b22), .val (.int yf), .unset, .unset, .unset, .unset] [(.int (vt &&& (2147483647 : Int32)))])) _
            refine XS.bipush X34.here hx rfl (hb hby at_80) ?_
            show Steps p.tables e below (T34.setTop (mkF m 82 #[.val (.int vs), .val (.long vr), .second, .val (.int vf), .val (.int vt), .val (.ref b22), .val (.int yf), .unset, .unset, .unset, .unset] [(.int (7 : Int32)), (.int (vt &&& (2147483647 : Int32)))])) _
            refine iremM X34 hx rfl (hb hby at_82) rfl (by decide) ?_
            show Steps p.tables e below (T34.setTop (mkF m 83 #[.val (.int vs), .val (.long vr), .second, .val (.int vf), .val (.int vt), .val (.ref b22), .val (.int yf), .unset, .unset, .unset, .unset] [(.int ((vt &&& (2147483647 : Int32)) % (7 : Int32)))])) _
            rw [← hyt]
            show Steps p.tables e below (T34.setTop (mkF m 83 #[.val (.int vs), .val (.long vr), .second, .val (.int vf), .val (.int vt), .val (.ref b22), .val (.int yf), .unset, .unset, .unset, .unset] [(.int yt)])) _
            refine XS.istore X34.here hx rfl (hb hby at_83) rfl (l' := #[.val (.int vs), .val (.long vr), .second, .val (.int vf), .val (.int vt), .val (.ref b22), .val (.int yf), .val (.int yt), .unset, .unset, .unset]) rfl ?_
            show Steps p.tables e below (T34.setTop (mkF m 85 #[.val (.int vs), .val (.long vr), .second, .val (.int vf), .val (.int vt), .val (.ref b22), .val (.int yf), .val (.int yt), .unset, .unset, .unset] [])) _
            refine XS.aload X34.here hx rfl (hb hby at_85) rfl rfl ?_
            show Steps p.tables e below (T34.setTop (mkF m 87 #[.val (.int vs), .val (.long vr), .second, .val (.int vf), .val (.int vt), .val (.ref b22), .val (.int yf), .val (.int yt), .unset, .unset, .unset] [(.ref b22)])) _
            refine XS.iload X34.here hx rfl (hb hby at_87) rfl ?_
            show Steps p.tables e below (T34.setTop (mkF m 89 #[.val (.int vs), .val (.long vr), .second, .val (.int vf), .val (.int vt), .val (.ref b22), .val (.int yf), .val (.int yt), .unset, .unset, .unset] [(.int yf), (.ref b22)])) _
            refine XS.iload X34.here hx rfl (hb hby at_89) rfl ?_
            show Steps p.tables e below (T34.setTop (mkF m 91 #[.val (.int vs), .val (.long vr), .second, .val (.int vf), .val (.int vt), .val (.ref b22), .val (.int yf), .val (.int yt), .unset, .unset, .unset] [(.int yt), (.int yf), (.ref b22)])) _
            refine st35 _ ?_
            show Steps p.tables e below (T35.setTop (mkF m 94 #[.val (.int vs), .val (.long vr), .second, .val (.int vf), .val (.int vt), .val (.ref b22), .val (.int yf), .val (.int yt), .unset, .unset, .unset] [(.int r35)])) _
            refine XS.istore X35.here hx rfl (hb hby at_94) rfl (l' := #[.val (.int vs), .val (.long vr), .second, .val (.int vf), .val (.int vt), .val (.ref b22), .val (.int yf), .val (.int yt), .val (.int r35), .unset, .unset]) rfl ?_
            show Steps p.tables e below (T35.setTop (mkF m 96 #[.val (.int vs), .val (.long vr), .second, .val (.int vf), .val (.int vt), .val (.ref b22), .val (.int yf), .val (.int yt), .val (.int r35), .unset, .unset] [])) _
            refine XS.iload X35.here hx rfl (hb hby at_96) rfl ?_
            show Steps p.tables e below (T35.setTop (mkF m 98 #[.val (.int vs), .val (.long vr), .second, .val (.int vf), .val (.int vt), .val (.ref b22), .val (.int yf), .val (.int yt), .val (.int r35), .unset, .unset] [(.int yf)])) _
            refine XS.iload X35.here hx rfl (hb hby at_98) rfl ?_
            show Steps p.tables e below (T35.setTop (mkF m 100 #[.val (.int vs), .val (.long vr), .second, .val (.int vf), .val (.int vt), .val (.ref b22), .val (.int yf), .val (.int yt), .val (.int r35), .unset, .unset] [(.int yt), (.int yf)])) _
            refine XS.icmpYes X35.here hx rfl (pc0 := 100) (pc' := 116) rfl (hb hby at_100) rfl (tlt h100_36).1 (by decide) (by decide) ?_
            show Steps p.tables e below (T35.setTop (mkF m 116 #[.val (.int vs), .val (.long vr), .second, .val (.int vf), .val (.int vt), .val (.ref b22), .val (.int yf), .val (.int yt), .val (.int r35), .unset, .unset] [])) _
            refine XS.iload X35.here hx rfl (hb hby at_116) rfl ?_
            show Steps p.tables e below (T35.setTop (mkF m 118 #[.val (.int vs), .val (.long vr), .second, .val (.int vf), .val (.int vt), .val (.ref b22), .val (.int yf), .val (.int yt), .val (.int r35), .unset, .unset] [(.int r35)])) _
            refine XS.iload X35.here hx rfl (hb hby at_118) rfl ?_
            show Steps p.tables e below (T35.setTop (mkF m 120 #[.val (.int vs), .val (.long vr), .second, .val (.int vf), .val (.int vt), .val (.ref b22), .val (.int yf), .val (.int yt), .val (.int r35), .unset, .unset] [(.int yf), (.int r35)])) _
            refine XS.icmpNo X35.here hx rfl (hb hby at_120) rfl (flt (by rw [own_lt]; have := (hr35.2 ((own_lt _ _).mp h100_36)).1; omega : ¬ (r35 < yf))).1 ?_
            show Steps p.tables e below (T35.setTop (mkF m 123 #[.val (.int vs), .val (.long vr), .second, .val (.int vf), .val (.int vt), .val (.ref b22), .val (.int yf), .val (.int yt), .val (.int r35), .unset, .unset] [])) _
            refine XS.iload X35.here hx rfl (hb hby at_123) rfl ?_
            show Steps p.tables e below (T35.setTop (mkF m 125 #[.val (.int vs), .val (.long vr), .second, .val (.int vf), .val (.int vt), .val (.ref b22), .val (.int yf), .val (.int yt), .val (.int r35), .unset, .unset] [(.int r35)])) _
            refine XS.iload X35.here hx rfl (hb hby at_125) rfl ?_
            show Steps p.tables e below (T35.setTop (mkF m 127 #[.val (.int vs), .val (.long vr), .second, .val (.int vf), .val (.int vt), .val (.ref b22), .val (.int yf), .val (.int yt), .val (.int r35), .unset, .unset] [(.int yt), (.int r35)])) _
            refine XS.icmpYes X35.here hx rfl (pc0 := 127) (pc' := 132) rfl (hb hby at_127) rfl (flt (by rw [own_lt]; have := (hr35.2 ((own_lt _ _).mp h100_36)).2.1; omega : ¬ (yt < r35))).2.2.2 (by decide) (by decide) ?_
            show Steps p.tables e below (T35.setTop (mkF m 132 #[.val (.int vs), .val (.long vr), .second, .val (.int vf), .val (.int vt), .val (.ref b22), .val (.int yf), .val (.int yt), .val (.int r35), .unset, .unset] [])) _
            refine XS.aload X35.here hx rfl (hb hby at_132) rfl rfl ?_
            show Steps p.tables e below (T35.setTop (mkF m 134 #[.val (.int vs), .val (.long vr), .second, .val (.int vf), .val (.int vt), .val (.ref b22), .val (.int yf), .val (.int yt), .val (.int r35), .unset, .unset] [(.ref b22)])) _
            refine XS.iload X35.here hx rfl (hb hby at_134) rfl ?_
            show Steps p.tables e below (T35.setTop (mkF m 136 #[.val (.int vs), .val (.long vr), .second, .val (.int vf), .val (.int vt), .val (.ref b22), .val (.int yf), .val (.int yt), .val (.int r35), .unset, .unset] [(.int yf), (.ref b22)])) _
            refine XS.iload X35.here hx rfl (hb hby at_136) rfl ?_
            show Steps p.tables e below (T35.setTop (mkF m 138 #[.val (.int vs), .val (.long vr), .second, .val (.int vf), .val (.int vt), .val (.ref b22), .val (.int yf), .val (.int yt), .val (.int r35), .unset, .unset] [(.int r35), (.int yf), (.ref b22)])) _
            refine XS.iconst X35.here hx rfl (hb hby at_138) ?_
            show Steps p.tables e below (T35.setTop (mkF m 139 #[.val (.int vs), .val (.long vr), .second, .val (.int vf), .val (.int vt), .val (.ref b22), .val (.int yf), .val (.int yt), .val (.int r35), .unset, .unset] [(.int (0 : Int32)), (.int r35), (.int yf), (.ref b22)])) _
            refine st37 _ ?_
            show Steps p.tables e below (T37.setTop (mkF m 142 #[.val (.int vs), .val (.long vr), .second, .val (.int vf), .val (.int vt), .val (.ref b22), .val (.int yf), .val (.int yt), .val (.int r35), .unset, .unset] [(.int r37)])) _
            refine XS.ifNo X37.here hx rfl (hb hby at_142) rfl ((if0 _ _).trans (feq (by rw [hr37]; decide : ¬ (r37 = (0 : Int32)))).1) ?_
            show Steps p.tables e below (T37.setTop (mkF m 145 #[.val (.int vs), .val (.long vr), .second, .val (.int vf), .val (.int vt), .val (.ref b22), .val (.int yf), .val (.int yt), .val (.int r35), .unset, .unset] [])) _
            refine XS.aload X37.here hx rfl (hb hby at_145) rfl rfl ?_
            show Steps p.tables e below (T37.setTop (mkF m 147 #[.val (.int vs), .val (.long vr), .second, .val (.int vf), .val (.int vt), .val (.ref b22), .val (.int yf), .val (.int yt), .val (.int r35), .unset, .unset] [(.ref b22)])) _
            refine XS.iload X37.here hx rfl (hb hby at_147) rfl ?_
            show Steps p.tables e below (T37.setTop (mkF m 149 #[.val (.int vs), .val (.long vr), .second, .val (.int vf), .val (.int vt), .val (.ref b22), .val (.int yf), .val (.int yt), .val (.int r35), .unset, .unset] [(.int yf), (.ref b22)])) _
            refine XS.iload X37.here hx rfl (hb hby at_149) rfl ?_
            show Steps p.tables e below (T37.setTop (mkF m 151 #[.val (.int vs), .val (.long vr), .second, .val (.int vf), .val (.int vt), .val (.ref b22), .val (.int yf), .val (.int yt), .val (.int r35), .unset, .unset] [(.int r35), (.int yf), (.ref b22)])) _
            refine XS.iconst X37.here hx rfl (hb hby at_151) ?_
            show Steps p.tables e below (T37.setTop (mkF m 152 #[.val (.int vs), .val (.long vr), .second, .val (.int vf), .val (.int vt), .val (.ref b22), .val (.int yf), .val (.int yt), .val (.int r35), .unset, .unset] [(.int (1 : Int32)), (.int r35), (.int yf), (.ref b22)])) _
            refine st38 _ ?_
            show Steps p.tables e below (T38.setTop (mkF m 155 #[.val (.int vs), .val (.long vr), .second, .val (.int vf), .val (.int vt), .val (.ref b22), .val (.int yf), .val (.int yt), .val (.int r35), .unset, .unset] [(.int r38)])) _
            refine XS.ifNo X38.here hx rfl (hb hby at_155) rfl ((if0 _ _).trans (feq (by rw [hr38]; decide : ¬ (r38 = (0 : Int32)))).1) ?_
            show Steps p.tables e below (T38.setTop (mkF m 158 #[.val (.int vs), .val (.long vr), .second, .val (.int vf), .val (.int vt), .val (.ref b22), .val (.int yf), .val (.int yt), .val (.int r35), .unset, .unset] [])) _
            refine XS.aload X38.here hx rfl (hb hby at_158) rfl rfl ?_
            show Steps p.tables e below (T38.setTop (mkF m 160 #[.val (.int vs), .val (.long vr), .second, .val (.int vf), .val (.int vt), .val (.ref b22), .val (.int yf), .val (.int yt), .val (.int r35), .unset, .unset] [(.ref b22)])) _
            refine XS.iload X38.here hx rfl (hb hby at_160) rfl ?_
            show Steps p.tables e below (T38.setTop (mkF m 162 #[.val (.int vs), .val (.long vr), .second, .val (.int vf), .val (.int vt), .val (.ref b22), .val (.int yf), .val (.int yt), .val (.int r35), .unset, .unset] [(.int yf), (.ref b22)])) _
            refine XS.iload X38.here hx rfl (hb hby at_162) rfl ?_
            show Steps p.tables e below (T38.setTop (mkF m 164 #[.val (.int vs), .val (.long vr), .second, .val (.int vf), .val (.int vt), .val (.ref b22), .val (.int yf), .val (.int yt), .val (.int r35), .unset, .unset] [(.int r35), (.int yf), (.ref b22)])) _
            refine XS.iconst X38.here hx rfl (hb hby at_164) ?_
            show Steps p.tables e below (T38.setTop (mkF m 165 #[.val (.int vs), .val (.long vr), .second, .val (.int vf), .val (.int vt), .val (.ref b22), .val (.int yf), .val (.int yt), .val (.int r35), .unset, .unset] [(.int (2 : Int32)), (.int r35), (.int yf), (.ref b22)])) _
            refine st39 _ ?_
            show Steps p.tables e below (T39.setTop (mkF m 168 #[.val (.int vs), .val (.long vr), .second, .val (.int vf), .val (.int vt), .val (.ref b22), .val (.int yf), .val (.int yt), .val (.int r35), .unset, .unset] [(.int r39)])) _
            refine XS.ifNo X39.here hx rfl (hb hby at_168) rfl ((if0 _ _).trans (feq (by rw [hr39]; decide : ¬ (r39 = (0 : Int32)))).1) ?_
            show Steps p.tables e below (T39.setTop (mkF m 171 #[.val (.int vs), .val (.long vr), .second, .val (.int vf), .val (.int vt), .val (.ref b22), .val (.int yf), .val (.int yt), .val (.int r35), .unset, .unset] [])) _
            refine XS.aload X39.here hx rfl (hb hby at_171) rfl rfl ?_
            show Steps p.tables e below (T39.setTop (mkF m 173 #[.val (.int vs), .val (.long vr), .second, .val (.int vf), .val (.int vt), .val (.ref b22), .val (.int yf), .val (.int yt), .val (.int r35), .unset, .unset] [(.ref b22)])) _
            refine XS.iload X39.here hx rfl (hb hby at_173) rfl ?_
            show Steps p.tables e below (T39.setTop (mkF m 175 #[.val (.int vs), .val (.long vr), .second, .val (.int vf), .val (.int vt), .val (.ref b22), .val (.int yf), .val (.int yt), .val (.int r35), .unset, .unset] [(.int yf), (.ref b22)])) _
            refine XS.iload X39.here hx rfl (hb hby at_175) rfl ?_
            show Steps p.tables e below (T39.setTop (mkF m 177 #[.val (.int vs), .val (.long vr), .second, .val (.int vf), .val (.int vt), .val (.ref b22), .val (.int yf), .val (.int yt), .val (.int r35), .unset, .unset] [(.int r35), (.int yf), (.ref b22)])) _
            refine XS.iconst X39.here hx rfl (hb hby at_177) ?_
            show Steps p.tables e below (T39.setTop (mkF m 178 #[.val (.int vs), .val (.long vr), .second, .val (.int vf), .val (.int vt), .val (.ref b22), .val (.int yf), .val (.int yt), .val (.int r35), .unset, .unset] [(.int (3 : Int32)), (.int r35), (.int yf), (.ref b22)])) _
            refine st40 _ ?_
            show Steps p.tables e below (T40.setTop (mkF m 181 #[.val (.int vs), .val (.long vr), .second, .val (.int vf), .val (.int vt), .val (.ref b22), .val (.int yf), .val (.int yt), .val (.int r35), .unset, .unset] [(.int r40)])) _
            refine XS.ifNo X40.here hx rfl (hb hby at_181) rfl ((if0 _ _).trans (feq (by rw [hr40]; decide : ¬ (r40 = (0 : Int32)))).1) ?_
            show Steps p.tables e below (T40.setTop (mkF m 184 #[.val (.int vs), .val (.long vr), .second, .val (.int vf), .val (.int vt), .val (.ref b22), .val (.int yf), .val (.int yt), .val (.int r35), .unset, .unset] [])) _
            refine XS.aload X40.here hx rfl (hb hby at_184) rfl rfl ?_
            show Steps p.tables e below (T40.setTop (mkF m 186 #[.val (.int vs), .val (.long vr), .second, .val (.int vf), .val (.int vt), .val (.ref b22), .val (.int yf), .val (.int yt), .val (.int r35), .unset, .unset] [(.ref b22)])) _
            refine XS.iload X40.here hx rfl (hb hby at_186) rfl ?_
            show Steps p.tables e below (T40.setTop (mkF m 188 #[.val (.int vs), .val (.long vr), .second, .val (.int vf), .val (.int vt), .val (.ref b22), .val (.int yf), .val (.int yt), .val (.int r35), .unset, .unset] [(.int yf), (.ref b22)])) _
            refine XS.iload X40.here hx rfl (hb hby at_188) rfl ?_
            show Steps p.tables e below (T40.setTop (mkF m 190 #[.val (.int vs), .val (.long vr), .second, .val (.int vf), .val (.int vt), .val (.ref b22), .val (.int yf), .val (.int yt), .val (.int r35), .unset, .unset] [(.int r35), (.int yf), (.ref b22)])) _
            refine XS.iconst X40.here hx rfl (hb hby at_190) ?_
            show Steps p.tables e below (T40.setTop (mkF m 191 #[.val (.int vs), .val (.long vr), .second, .val (.int vf), .val (.int vt), .val (.ref b22), .val (.int yf), .val (.int yt), .val (.int r35), .unset, .unset] [(.int (4 : Int32)), (.int r35), (.int yf), (.ref b22)])) _
            refine st41 _ ?_
            show Steps p.tables e below (T41.setTop (mkF m 194 #[.val (.int vs), .val (.long vr), .second, .val (.int vf), .val (.int vt), .val (.ref b22), .val (.int yf), .val (.int yt), .val (.int r35), .unset, .unset] [(.int r41)])) _
            refine XS.ifNo X41.here hx rfl (hb hby at_194) rfl ((if0 _ _).trans (feq (by rw [hr41]; decide : ¬ (r41 = (0 : Int32)))).1) ?_
            show Steps p.tables e below (T41.setTop (mkF m 197 #[.val (.int vs), .val (.long vr), .second, .val (.int vf), .val (.int vt), .val (.ref b22), .val (.int yf), .val (.int yt), .val (.int r35), .unset, .unset] [])) _
            refine XS.aload X41.here hx rfl (hb hby at_197) rfl rfl ?_
            show Steps p.tables e below (T41.setTop (mkF m 199 #[.val (.int vs), .val (.long vr), .second, .val (.int vf), .val (.int vt), .val (.ref b22), .val (.int yf), .val (.int yt), .val (.int r35), .unset, .unset] [(.ref b22)])) _
            refine XS.iload X41.here hx rfl (hb hby at_199) rfl ?_
            show Steps p.tables e below (T41.setTop (mkF m 201 #[.val (.int vs), .val (.long vr), .second, .val (.int vf), .val (.int vt), .val (.ref b22), .val (.int yf), .val (.int yt), .val (.int r35), .unset, .unset] [(.int yf), (.ref b22)])) _
            refine XS.iload X41.here hx rfl (hb hby at_201) rfl ?_
            show Steps p.tables e below (T41.setTop (mkF m 203 #[.val (.int vs), .val (.long vr), .second, .val (.int vf), .val (.int vt), .val (.ref b22), .val (.int yf), .val (.int yt), .val (.int r35), .unset, .unset] [(.int r35), (.int yf), (.ref b22)])) _
            refine XS.iconst X41.here hx rfl (hb hby at_203) ?_
            show Steps p.tables e below (T41.setTop (mkF m 204 #[.val (.int vs), .val (.long vr), .second, .val (.int vf), .val (.int vt), .val (.ref b22), .val (.int yf), .val (.int yt), .val (.int r35), .unset, .unset] [(.int (5 : Int32)), (.int r35), (.int yf), (.ref b22)])) _
            refine st42 _ ?_
            show Steps p.tables e below (T42.setTop (mkF m 207 #[.val (.int vs), .val (.long vr), .second, .val (.int vf), .val (.int vt), .val (.ref b22), .val (.int yf), .val (.int yt), .val (.int r35), .unset, .unset] [(.int r42)])) _
            refine XS.ifNo X42.here hx rfl (hb hby at_207) rfl ((if0 _ _).trans (feq (by rw [hr42]; decide : ¬ (r42 = (0 : Int32)))).1) ?_
            show Steps p.tables e below (T42.setTop (mkF m 210 #[.val (.int vs), .val (.long vr), .second, .val (.int vf), .val (.int vt), .val (.ref b22), .val (.int yf), .val (.int yt), .val (.int r35), .unset, .unset] [])) _
            refine XS.iconst X42.here hx rfl (hb hby at_210) ?_
            show Steps p.tables e below (T42.setTop (mkF m 211 #[.val (.int vs), .val (.long vr), .second, .val (.int vf), .val (.int vt), .val (.ref b22), .val (.int yf), .val (.int yt), .val (.int r35), .unset, .unset] [(.int (1 : Int32))])) _
            refine XS.goto X42.here hx rfl (pc0 := 211) (pc' := 215) rfl (hb hby at_211) (by decide) (by decide) ?_
            show Steps p.tables e below (T42.setTop (mkF m 215 #[.val (.int vs), .val (.long vr), .second, .val (.int vf), .val (.int vt), .val (.ref b22), .val (.int yf), .val (.int yt), .val (.int r35), .unset, .unset] [(.int (1 : Int32))])) _
            refine XS.istore X42.here hx rfl (hb hby at_215) rfl (l' := #[.val (.int vs), .val (.long vr), .second, .val (.int vf), .val (.int vt), .val (.ref b22), .val (.int yf), .val (.int yt), .val (.int r35), .val (.int (1 : Int32)), .unset]) rfl ?_
            show Steps p.tables e below (T42.setTop (mkF m 217 #[.val (.int vs), .val (.long vr), .second, .val (.int vf), .val (.int vt), .val (.ref b22), .val (.int yf), .val (.int yt), .val (.int r35), .val (.int (1 : Int32)), .unset] [])) _
            refine XS.iload X42.here hx rfl (hb hby at_217) rfl ?_
            show Steps p.tables e below (T42.setTop (mkF m 219 #[.val (.int vs), .val (.long vr), .second, .val (.int vf), .val (.int vt), .val (.ref b22), .val (.int yf), .val (.int yt), .val (.int r35), .val (.int (1 : Int32)), .unset] [(.int r35)])) _
            refine XS.iload X42.here hx rfl (hb hby at_219) rfl ?_
            show Steps p.tables e below (T42.setTop (mkF m 221 #[.val (.int vs), .val (.long vr), .second, .val (.int vf), .val (.int vt), .val (.ref b22), .val (.int yf), .val (.int yt), .val (.int r35), .val (.int (1 : Int32)), .unset] [(.int yt), (.int r35)])) _
            refine XS.icmpNo X42.here hx rfl (hb hby at_221) rfl (feq h221_43).1 ?_
            show Steps p.tables e below (T42.setTop (mkF m 224 #[.val (.int vs), .val (.long vr), .second, .val (.int vf), .val (.int vt), .val (.ref b22), .val (.int yf), .val (.int yt), .val (.int r35), .val (.int (1 : Int32)), .unset] [])) _
            refine XS.aload X42.here hx rfl (hb hby at_224) rfl rfl ?_
            show Steps p.tables e below (T42.setTop (mkF m 226 #[.val (.int vs), .val (.long vr), .second, .val (.int vf), .val (.int vt), .val (.ref b22), .val (.int yf), .val (.int yt), .val (.int r35), .val (.int (1 : Int32)), .unset] [(.ref b22)])) _
            refine XS.iload X42.here hx rfl (hb hby at_226) rfl ?_
            show Steps p.tables e below (T42.setTop (mkF m 228 #[.val (.int vs), .val (.long vr), .second, .val (.int vf), .val (.int vt), .val (.ref b22), .val (.int yf), .val (.int yt), .val (.int r35), .val (.int (1 : Int32)), .unset] [(.int r35), (.ref b22)])) _
            obtain ⟨cl44, Ar44, q44, S44, N44a, H44, G44⟩ := id Av_b22_34
            have hin44 : ¬ (r35 < 0 ∨ cl44.slots.size ≤ (r35).toNatClampNeg) := inb_of S44 (own_idx _ (by have q1 := (hr35.2 ((own_lt _ _).mp h100_36)).1; have q2 := (hr35.2 ((own_lt _ _).mp h100_36)).2.1; have q3 : r35.toInt ≠ yt.toInt := fun q => h221_43 (Int32.toInt_inj.mp q); omega) (by have q1 := (hr35.2 ((own_lt _ _).mp h100_36)).1; have q2 := (hr35.2 ((own_lt _ _).mp h100_36)).2.1; have q3 : r35.toInt ≠ yt.toInt := fun q => h221_43 (Int32.toInt_inj.mp q); omega))
            have hat44 : cl44.slots[(r35).toNatClampNeg]? = some (.int (own_B [(nar .byte r23), (nar .byte r25), (nar .byte r27), (nar .byte r29), (nar .byte r31), (nar .byte r33)] r35)) := H44.at hin44 (own_getD [(nar .byte r23), (nar .byte r25), (nar .byte r27), (nar .byte r29), (nar .byte r31), (nar .byte r33)] _)
            refine X42.baloadBytes hx (j := r35) (v := (.int (own_B [(nar .byte r23), (nar .byte r25), (nar .byte r27), (nar .byte r29), (nar .byte r31), (nar .byte r33)] r35))) (by rw [e42]; exact Ar44.1) (State.isArrayOf_alike hZ.alike Ar44.2.1) Ar44.2.2 hin44 hat44 (g := (mkF m 228 #[.val (.int vs), .val (.long vr), .second, .val (.int vf), .val (.int vt), .val (.ref b22), .val (.int yf), .val (.int yt), .val (.int r35), .val (.int (1 : Int32)), .unset] [(.int r35), (.ref b22)])) rfl rfl (hb hby at_228) _ ?_
            show Steps p.tables e below (T42.setTop (mkF m 229 #[.val (.int vs), .val (.long vr), .second, .val (.int vf), .val (.int vt), .val (.ref b22), .val (.int yf), .val (.int yt), .val (.int r35), .val (.int (1 : Int32)), .unset] [(.int (own_B [(nar .byte r23), (nar .byte r25), (nar .byte r27), (nar .byte r29), (nar .byte r31), (nar .byte r33)] r35))])) _
            refine XS.bipush X42.here hx rfl (hb hby at_229) ?_
            show Steps p.tables e below (T42.setTop (mkF m 231 #[.val (.int vs), .val (.long vr), .second, .val (.int vf), .val (.int vt), .val (.ref b22), .val (.int yf), .val (.int yt), .val (.int r35), .val (.int (1 : Int32)), .unset] [(.int (10 : Int32)), (.int (own_B [(nar .byte r23), (nar .byte r25), (nar .byte r27), (nar .byte r29), (nar .byte r31), (nar .byte r33)] r35))])) _
            refine XS.icmpNo X42.here hx rfl (hb hby at_231) rfl (feq (((hr35.2 ((own_lt _ _).mp h100_36)).2.2.2.resolve_left h221_43).1 : ¬ ((own_B [(nar .byte r23), (nar .byte r25), (nar .byte r27), (nar .byte r29), (nar .byte r31), (nar .byte r33)] r35) = (10 : Int32)))).1 ?_
            show Steps p.tables e below (T42.setTop (mkF m 234 #[.val (.int vs), .val (.long vr), .second, .val (.int vf), .val (.int vt), .val (.ref b22), .val (.int yf), .val (.int yt), .val (.int r35), .val (.int (1 : Int32)), .unset] [])) _
            refine XS.aload X42.here hx rfl (hb hby at_234) rfl rfl ?_
            show Steps p.tables e below (T42.setTop (mkF m 236 #[.val (.int vs), .val (.long vr), .second, .val (.int vf), .val (.int vt), .val (.ref b22), .val (.int yf), .val (.int yt), .val (.int r35), .val (.int (1 : Int32)), .unset] [(.ref b22)])) _
            refine XS.iload X42.here hx rfl (hb hby at_236) rfl ?_
            show Steps p.tables e below (T42.setTop (mkF m 238 #[.val (.int vs), .val (.long vr), .second, .val (.int vf), .val (.int vt), .val (.ref b22), .val (.int yf), .val (.int yt), .val (.int r35), .val (.int (1 : Int32)), .unset] [(.int r35), (.ref b22)])) _
            obtain ⟨cl45, Ar45, q45, S45, N45a, H45, G45⟩ := id Av_b22_34
            have hin45 : ¬ (r35 < 0 ∨ cl45.slots.size ≤ (r35).toNatClampNeg) := inb_of S45 (own_idx _ (by have q1 := (hr35.2 ((own_lt _ _).mp h100_36)).1; have q2 := (hr35.2 ((own_lt _ _).mp h100_36)).2.1; have q3 : r35.toInt ≠ yt.toInt := fun q => h221_43 (Int32.toInt_inj.mp q); omega) (by have q1 := (hr35.2 ((own_lt _ _).mp h100_36)).1; have q2 := (hr35.2 ((own_lt _ _).mp h100_36)).2.1; have q3 : r35.toInt ≠ yt.toInt := fun q => h221_43 (Int32.toInt_inj.mp q); omega))
            have hat45 : cl45.slots[(r35).toNatClampNeg]? = some (.int (own_B [(nar .byte r23), (nar .byte r25), (nar .byte r27), (nar .byte r29), (nar .byte r31), (nar .byte r33)] r35)) := H45.at hin45 (own_getD [(nar .byte r23), (nar .byte r25), (nar .byte r27), (nar .byte r29), (nar .byte r31), (nar .byte r33)] _)
            refine X42.baloadBytes hx (j := r35) (v := (.int (own_B [(nar .byte r23), (nar .byte r25), (nar .byte r27), (nar .byte r29), (nar .byte r31), (nar .byte r33)] r35))) (by rw [e42]; exact Ar45.1) (State.isArrayOf_alike hZ.alike Ar45.2.1) Ar45.2.2 hin45 hat45 (g := (mkF m 238 #[.val (.int vs), .val (.long vr), .second, .val (.int vf), .val (.int vt), .val (.ref b22), .val (.int yf), .val (.int yt), .val (.int r35), .val (.int (1 : Int32)), .unset] [(.int r35), (.ref b22)])) rfl rfl (hb hby at_238) _ ?_
            show Steps p.tables e below (T42.setTop (mkF m 239 #[.val (.int vs), .val (.long vr), .second, .val (.int vf), .val (.int vt), .val (.ref b22), .val (.int yf), .val (.int yt), .val (.int r35), .val (.int (1 : Int32)), .unset] [(.int (own_B [(nar .byte r23), (nar .byte r25), (nar .byte r27), (nar .byte r29), (nar .byte r31), (nar .byte r33)] r35))])) _
            refine XS.bipush X42.here hx rfl (hb hby at_239) ?_
            show Steps p.tables e below (T42.setTop (mkF m 241 #[.val (.int vs), .val (.long vr), .second, .val (.int vf), .val (.int vt), .val (.ref b22), .val (.int yf), .val (.int yt), .val (.int r35), .val (.int (1 : Int32)), .unset] [(.int (13 : Int32)), (.int (own_B [(nar .byte r23), (nar .byte r25), (nar .byte r27), (nar .byte r29), (nar .byte r31), (nar .byte r33)] r35))])) _
            refine XS.icmpNo X42.here hx rfl (hb hby at_241) rfl (teq h241_46).2 ?_
            show Steps p.tables e below (T42.setTop (mkF m 244 #[.val (.int vs), .val (.long vr), .second, .val (.int vf), .val (.int vt), .val (.ref b22), .val (.int yf), .val (.int yt), .val (.int r35), .val (.int (1 : Int32)), .unset] [])) _
            refine XS.iload X42.here hx rfl (hb hby at_244) rfl ?_
            show Steps p.tables e below (T42.setTop (mkF m 246 #[.val (.int vs), .val (.long vr), .second, .val (.int vf), .val (.int vt), .val (.ref b22), .val (.int yf), .val (.int yt), .val (.int r35), .val (.int (1 : Int32)), .unset] [(.int r35)])) _
            refine XS.iconst X42.here hx rfl (hb hby at_246) ?_
            show Steps p.tables e below (T42.setTop (mkF m 247 #[.val (.int vs), .val (.long vr), .second, .val (.int vf), .val (.int vt), .val (.ref b22), .val (.int yf), .val (.int yt), .val (.int r35), .val (.int (1 : Int32)), .unset] [(.int (1 : Int32)), (.int r35)])) _
            refine XS.iadd X42.here hx rfl (hb hby at_247) rfl ?_
            show Steps p.tables e below (T42.setTop (mkF m 248 #[.val (.int vs), .val (.long vr), .second, .val (.int vf), .val (.int vt), .val (.ref b22), .val (.int yf), .val (.int yt), .val (.int r35), .val (.int (1 : Int32)), .unset] [(.int (r35 + (1 : Int32)))])) _
            refine XS.iload X42.here hx rfl (hb hby at_248) rfl ?_
            show Steps p.tables e below (T42.setTop (mkF m 250 #[.val (.int vs), .val (.long vr), .second, .val (.int vf), .val (.int vt), .val (.ref b22), .val (.int yf), .val (.int yt), .val (.int r35), .val (.int (1 : Int32)), .unset] [(.int yt), (.int (r35 + (1 : Int32)))])) _
            refine XS.icmpYes X42.here hx rfl (pc0 := 250) (pc' := 265) rfl (hb hby at_250) rfl (flt h250_47).2.1 (by decide) (by decide) ?_
            show Steps p.tables e below (T42.setTop (mkF m 265 #[.val (.int vs), .val (.long vr), .second, .val (.int vf), .val (.int vt), .val (.ref b22), .val (.int yf), .val (.int yt), .val (.int r35), .val (.int (1 : Int32)), .unset] [])) _
            refine XS.iconst X42.here hx rfl (hb hby at_265) ?_
            show Steps p.tables e below (T42.setTop (mkF m 266 #[.val (.int vs), .val (.long vr), .second, .val (.int vf), .val (.int vt), .val (.ref b22), .val (.int yf), .val (.int yt), .val (.int r35), .val (.int (1 : Int32)), .unset] [(.int (1 : Int32))])) _
            refine XS.goto X42.here hx rfl (pc0 := 266) (pc' := 270) rfl (hb hby at_266) (by decide) (by decide) ?_
            show Steps p.tables e below (T42.setTop (mkF m 270 #[.val (.int vs), .val (.long vr), .second, .val (.int vf), .val (.int vt), .val (.ref b22), .val (.int yf), .val (.int yt), .val (.int r35), .val (.int (1 : Int32)), .unset] [(.int (1 : Int32))])) _
            refine XS.istore X42.here hx rfl (hb hby at_270) rfl (l' := #[.val (.int vs), .val (.long vr), .second, .val (.int vf), .val (.int vt), .val (.ref b22), .val (.int yf), .val (.int yt), .val (.int r35), .val (.int (1 : Int32)), .val (.int (1 : Int32))]) rfl ?_
            show Steps p.tables e below (T42.setTop (mkF m 272 #[.val (.int vs), .val (.long vr), .second, .val (.int vf), .val (.int vt), .val (.ref b22), .val (.int yf), .val (.int yt), .val (.int r35), .val (.int (1 : Int32)), .val (.int (1 : Int32))] [])) _
            refine XS.iload X42.here hx rfl (hb hby at_272) rfl ?_
            show Steps p.tables e below (T42.setTop (mkF m 274 #[.val (.int vs), .val (.long vr), .second, .val (.int vf), .val (.int vt), .val (.ref b22), .val (.int yf), .val (.int yt), .val (.int r35), .val (.int (1 : Int32)), .val (.int (1 : Int32))] [(.int (1 : Int32))])) _
            refine XS.ifNo X42.here hx rfl (hb hby at_274) rfl ((if0 _ _).trans (feq (by decide : ¬ ((1 : Int32) = (0 : Int32)))).1) ?_
            show Steps p.tables e below (T42.setTop (mkF m 277 #[.val (.int vs), .val (.long vr), .second, .val (.int vf), .val (.int vt), .val (.ref b22), .val (.int yf), .val (.int yt), .val (.int r35), .val (.int (1 : Int32)), .val (.int (1 : Int32))] [])) _
            refine XS.iload X42.here hx rfl (hb hby at_277) rfl ?_
            show Steps p.tables e below (T42.setTop (mkF m 279 #[.val (.int vs), .val (.long vr), .second, .val (.int vf), .val (.int vt), .val (.ref b22), .val (.int yf), .val (.int yt), .val (.int r35), .val (.int (1 : Int32)), .val (.int (1 : Int32))] [(.int (1 : Int32))])) _
            refine XS.ifNo X42.here hx rfl (hb hby at_279) rfl ((if0 _ _).trans (feq (by decide : ¬ ((1 : Int32) = (0 : Int32)))).1) ?_
            show Steps p.tables e below (T42.setTop (mkF m 282 #[.val (.int vs), .val (.long vr), .second, .val (.int vf), .val (.int vt), .val (.ref b22), .val (.int yf), .val (.int yt), .val (.int r35), .val (.int (1 : Int32)), .val (.int (1 : Int32))] [])) _
            refine XS.iconst X42.here hx rfl (hb hby at_282) ?_
            show Steps p.tables e below (T42.setTop (mkF m 283 #[.val (.int vs), .val (.long vr), .second, .val (.int vf), .val (.int vt), .val (.ref b22), .val (.int yf), .val (.int yt), .val (.int r35), .val (.int (1 : Int32)), .val (.int (1 : Int32))] [(.int (1 : Int32))])) _
            refine XS.goto X42.here hx rfl (pc0 := 283) (pc' := 287) rfl (hb hby at_283) (by decide) (by decide) ?_
            show Steps p.tables e below (T42.setTop (mkF m 287 #[.val (.int vs), .val (.long vr), .second, .val (.int vf), .val (.int vt), .val (.ref b22), .val (.int yf), .val (.int yt), .val (.int r35), .val (.int (1 : Int32)), .val (.int (1 : Int32))] [(.int (1 : Int32))])) _
            exact retN X42 hx (t := .boolean) Bd.returns (by simp) (hb hby at_287) hr
          · show Q_law Z vs vr vf vt h0 n0 _ T42.heap _
            rw [e42]
            exact ⟨rfl, N42⟩
      · obtain ⟨fs, hr, hrun, hended, hW, hsame⟩ := X42.leave (v := some (.int (1 : Int32))) (fun h => by rw [Bd.returns] at h; cases h)
        refine ⟨_, _, pre0 _ ?_, hrun, hended, _, _, rfl, ?_, ⟨_, rfl⟩, hW, hsame.mono (by decide) (by decide)⟩
        · show Steps p.tables e below (s₁.setTop (mkF m 0 #[.val (.int vs), .val (.long vr), .second, .val (.int vf), .val (.int vt), .unset, .unset, .unset, .unset, .unset, .unset] [])) _
          refine XS.bipush X0.here hx rfl (hb hby at_0) ?_
          show Steps p.tables e below (s₁.setTop (mkF m 2 #[.val (.int vs), .val (.long vr), .second, .val (.int vf), .val (.int vt), .unset, .unset, .unset, .unset, .unset, .unset] [(.int (6 : Int32))])) _
          refine st22 _ ?_
          show Steps p.tables e below (T22.setTop (mkF m 4 #[.val (.int vs), .val (.long vr), .second, .val (.int vf), .val (.int vt), .unset, .unset, .unset, .unset, .unset, .unset] [(.ref b22)])) _
          refine XS.astore X22.here hx rfl (hb hby at_4) rfl rfl (l' := #[.val (.int vs), .val (.long vr), .second, .val (.int vf), .val (.int vt), .val (.ref b22), .unset, .unset, .unset, .unset, .unset]) rfl ?_
          show Steps p.tables e below (T22.setTop (mkF m 6 #[.val (.int vs), .val (.long vr), .second, .val (.int vf), .val (.int vt), .val (.ref b22), .unset, .unset, .unset, .unset, .unset] [])) _
          refine XS.aload X22.here hx rfl (hb hby at_6) rfl rfl ?_
          show Steps p.tables e below (T22.setTop (mkF m 8 #[.val (.int vs), .val (.long vr), .second, .val (.int vf), .val (.int vt), .val (.ref b22), .unset, .unset, .unset, .unset, .unset] [(.ref b22)])) _
          refine XS.iconst X22.here hx rfl (hb hby at_8) ?_
          show Steps p.tables e below (T22.setTop (mkF m 9 #[.val (.int vs), .val (.long vr), .second, .val (.int vf), .val (.int vt), .val (.ref b22), .unset, .unset, .unset, .unset, .unset] [(.int (0 : Int32)), (.ref b22)])) _
          refine XS.iloadN X22.here hx rfl (hb hby at_9) rfl ?_
          show Steps p.tables e below (T22.setTop (mkF m 10 #[.val (.int vs), .val (.long vr), .second, .val (.int vf), .val (.int vt), .val (.ref b22), .unset, .unset, .unset, .unset, .unset] [(.int vs), (.int (0 : Int32)), (.ref b22)])) _
          refine XS.iconst X22.here hx rfl (hb hby at_10) ?_
          show Steps p.tables e below (T22.setTop (mkF m 11 #[.val (.int vs), .val (.long vr), .second, .val (.int vf), .val (.int vt), .val (.ref b22), .unset, .unset, .unset, .unset, .unset] [(.int (0 : Int32)), (.int vs), (.int (0 : Int32)), (.ref b22)])) _
          refine XS.lloadN X22.here hx rfl (hb hby at_11) rfl ?_
          show Steps p.tables e below (T22.setTop (mkF m 12 #[.val (.int vs), .val (.long vr), .second, .val (.int vf), .val (.int vt), .val (.ref b22), .unset, .unset, .unset, .unset, .unset] [(.long vr), (.int (0 : Int32)), (.int vs), (.int (0 : Int32)), (.ref b22)])) _
          refine st23 _ ?_
          show Steps p.tables e below (T23.setTop (mkF m 15 #[.val (.int vs), .val (.long vr), .second, .val (.int vf), .val (.int vt), .val (.ref b22), .unset, .unset, .unset, .unset, .unset] [(.int r23), (.int (0 : Int32)), (.ref b22)])) _
          refine st24 _ ?_
          show Steps p.tables e below (T24.setTop (mkF m 16 #[.val (.int vs), .val (.long vr), .second, .val (.int vf), .val (.int vt), .val (.ref b22), .unset, .unset, .unset, .unset, .unset] [])) _
          refine XS.aload X24.here hx rfl (hb hby at_16) rfl rfl ?_
          show Steps p.tables e below (T24.setTop (mkF m 18 #[.val (.int vs), .val (.long vr), .second, .val (.int vf), .val (.int vt), .val (.ref b22), .unset, .unset, .unset, .unset, .unset] [(.ref b22)])) _
          refine XS.iconst X24.here hx rfl (hb hby at_18) ?_
          show Steps p.tables e below (T24.setTop (mkF m 19 #[.val (.int vs), .val (.long vr), .second, .val (.int vf), .val (.int vt), .val (.ref b22), .unset, .unset, .unset, .unset, .unset] [(.int (1 : Int32)), (.ref b22)])) _
          refine XS.iloadN X24.here hx rfl (hb hby at_19) rfl ?_
          show Steps p.tables e below (T24.setTop (mkF m 20 #[.val (.int vs), .val (.long vr), .second, .val (.int vf), .val (.int vt), .val (.ref b22), .unset, .unset, .unset, .unset, .unset] [(.int vs), (.int (1 : Int32)), (.ref b22)])) _
          refine XS.iconst X24.here hx rfl (hb hby at_20) ?_
          show Steps p.tables e below (T24.setTop (mkF m 21 #[.val (.int vs), .val (.long vr), .second, .val (.int vf), .val (.int vt), .val (.ref b22), .unset, .unset, .unset, .unset, .unset] [(.int (1 : Int32)), (.int vs), (.int (1 : Int32)), (.ref b22)])) _
          refine XS.lloadN X24.here hx rfl (hb hby at_21) rfl ?_
          show Steps p.tables e below (T24.setTop (mkF m 22 #[.val (.int vs), .val (.long vr), .second, .val (.int vf), .val (.int vt), .val (.ref b22), .unset, .unset, .unset, .unset, .unset] [(.long vr), (.int (1 : Int32)), (.int vs), (.int (1 : Int32)), (.ref b22)])) _
          refine st25 _ ?_
          show Steps p.tables e below (T25.setTop (mkF m 25 #[.val (.int vs), .val (.long vr), .second, .val (.int vf), .val (.int vt), .val (.ref b22), .unset, .unset, .unset, .unset, .unset] [(.int r25), (.int (1 : Int32)), (.ref b22)])) _
          refine st26 _ ?_
          show Steps p.tables e below (T26.setTop (mkF m 26 #[.val (.int vs), .val (.long vr), .second, .val (.int vf), .val (.int vt), .val (.ref b22), .unset, .unset, .unset, .unset, .unset] [])) _
          refine XS.aload X26.here hx rfl (hb hby at_26) rfl rfl ?_
          show Steps p.tables e below (T26.setTop (mkF m 28 #[.val (.int vs), .val (.long vr), .second, .val (.int vf), .val (.int vt), .val (.ref b22), .unset, .unset, .unset, .unset, .unset] [(.ref b22)])) _
          refine XS.iconst X26.here hx rfl (hb hby at_28) ?_
          show Steps p.tables e below (T26.setTop (mkF m 29 #[.val (.int vs), .val (.long vr), .second, .val (.int vf), .val (.int vt), .val (.ref b22), .unset, .unset, .unset, .unset, .unset] [(.int (2 : Int32)), (.ref b22)])) _
          refine XS.iloadN X26.here hx rfl (hb hby at_29) rfl ?_
          show Steps p.tables e below (T26.setTop (mkF m 30 #[.val (.int vs), .val (.long vr), .second, .val (.int vf), .val (.int vt), .val (.ref b22), .unset, .unset, .unset, .unset, .unset] [(.int vs), (.int (2 : Int32)), (.ref b22)])) _
          refine XS.iconst X26.here hx rfl (hb hby at_30) ?_
          show Steps p.tables e below (T26.setTop (mkF m 31 #[.val (.int vs), .val (.long vr), .second, .val (.int vf), .val (.int vt), .val (.ref b22), .unset, .unset, .unset, .unset, .unset] [(.int (2 : Int32)), (.int vs), (.int (2 : Int32)), (.ref b22)])) _
          refine XS.lloadN X26.here hx rfl (hb hby at_31) rfl ?_
          show Steps p.tables e below (T26.setTop (mkF m 32 #[.val (.int vs), .val (.long vr), .second, .val (.int vf), .val (.int vt), .val (.ref b22), .unset, .unset, .unset, .unset, .unset] [(.long vr), (.int (2 : Int32)), (.int vs), (.int (2 : Int32)), (.ref b22)])) _
          refine st27 _ ?_
          show Steps p.tables e below (T27.setTop (mkF m 35 #[.val (.int vs), .val (.long vr), .second, .val (.int vf), .val (.int vt), .val (.ref b22), .unset, .unset, .unset, .unset, .unset] [(.int r27), (.int (2 : Int32)), (.ref b22)])) _
          refine st28 _ ?_
          show Steps p.tables e below (T28.setTop (mkF m 36 #[.val (.int vs), .val (.long vr), .second, .val (.int vf), .val (.int vt), .val (.ref b22), .unset, .unset, .unset, .unset, .unset] [])) _
          refine XS.aload X28.here hx rfl (hb hby at_36) rfl rfl ?_
          show Steps p.tables e below (T28.setTop (mkF m 38 #[.val (.int vs), .val (.long vr), .second, .val (.int vf), .val (.int vt), .val (.ref b22), .unset, .unset, .unset, .unset, .unset] [(.ref b22)])) _
          refine XS.iconst X28.here hx rfl (hb hby at_38) ?_
          show Steps p.tables e below (T28.setTop (mkF m 39 #[.val (.int vs), .val (.long vr), .second, .val (.int vf), .val (.int vt), .val (.ref b22), .unset, .unset, .unset, .unset, .unset] [(.int (3 : Int32)), (.ref b22)])) _
          refine XS.iloadN X28.here hx rfl (hb hby at_39) rfl ?_
          show Steps p.tables e below (T28.setTop (mkF m 40 #[.val (.int vs), .val (.long vr), .second, .val (.int vf), .val (.int vt), .val (.ref b22), .unset, .unset, .unset, .unset, .unset] [(.int vs), (.int (3 : Int32)), (.ref b22)])) _
          refine XS.iconst X28.here hx rfl (hb hby at_40) ?_
          show Steps p.tables e below (T28.setTop (mkF m 41 #[.val (.int vs), .val (.long vr), .second, .val (.int vf), .val (.int vt), .val (.ref b22), .unset, .unset, .unset, .unset, .unset] [(.int (3 : Int32)), (.int vs), (.int (3 : Int32)), (.ref b22)])) _
          refine XS.lloadN X28.here hx rfl (hb hby at_41) rfl ?_
          show Steps p.tables e below (T28.setTop (mkF m 42 #[.val (.int vs), .val (.long vr), .second, .val (.int vf), .val (.int vt), .val (.ref b22), .unset, .unset, .unset, .unset, .unset] [(.long vr), (.int (3 : Int32)), (.int vs), (.int (3 : Int32)), (.ref b22)])) _
          refine st29 _ ?_
          show Steps p.tables e below (T29.setTop (mkF m 45 #[.val (.int vs), .val (.long vr), .second, .val (.int vf), .val (.int vt), .val (.ref b22), .unset, .unset, .unset, .unset, .unset] [(.int r29), (.int (3 : Int32)), (.ref b22)])) _
          refine st30 _ ?_
          show Steps p.tables e below (T30.setTop (mkF m 46 #[.val (.int vs), .val (.long vr), .second, .val (.int vf), .val (.int vt), .val (.ref b22), .unset, .unset, .unset, .unset, .unset] [])) _
          refine XS.aload X30.here hx rfl (hb hby at_46) rfl rfl ?_
          show Steps p.tables e below (T30.setTop (mkF m 48 #[.val (.int vs), .val (.long vr), .second, .val (.int vf), .val (.int vt), .val (.ref b22), .unset, .unset, .unset, .unset, .unset] [(.ref b22)])) _
          refine XS.iconst X30.here hx rfl (hb hby at_48) ?_
          show Steps p.tables e below (T30.setTop (mkF m 49 #[.val (.int vs), .val (.long vr), .second, .val (.int vf), .val (.int vt), .val (.ref b22), .unset, .unset, .unset, .unset, .unset] [(.int (4 : Int32)), (.ref b22)])) _
          refine XS.iloadN X30.here hx rfl (hb hby at_49) rfl ?_
          show Steps p.tables e below (T30.setTop (mkF m 50 #[.val (.int vs), .val (.long vr), .second, .val (.int vf), .val (.int vt), .val (.ref b22), .unset, .unset, .unset, .unset, .unset] [(.int vs), (.int (4 : Int32)), (.ref b22)])) _
          refine XS.iconst X30.here hx rfl (hb hby at_50) ?_
          show Steps p.tables e below (T30.setTop (mkF m 51 #[.val (.int vs), .val (.long vr), .second, .val (.int vf), .val (.int vt), .val (.ref b22), .unset, .unset, .unset, .unset, .unset] [(.int (4 : Int32)), (.int vs), (.int (4 : Int32)), (.ref b22)])) _
          refine XS.lloadN X30.here hx rfl (hb hby at_51) rfl ?_
          show Steps p.tables e below (T30.setTop (mkF m 52 #[.val (.int vs), .val (.long vr), .second, .val (.int vf), .val (.int vt), .val (.ref b22), .unset, .unset, .unset, .unset, .unset] [(.long vr), (.int (4 : Int32)), (.int vs), (.int (4 : Int32)), (.ref b22)])) _
          refine st31 _ ?_
          show Steps p.tables e below (T31.setTop (mkF m 55 #[.val (.int vs), .val (.long vr), .second, .val (.int vf), .val (.int vt), .val (.ref b22), .unset, .unset, .unset, .unset, .unset] [(.int r31), (.int (4 : Int32)), (.ref b22)])) _
          refine st32 _ ?_
          show Steps p.tables e below (T32.setTop (mkF m 56 #[.val (.int vs), .val (.long vr), .second, .val (.int vf), .val (.int vt), .val (.ref b22), .unset, .unset, .unset, .unset, .unset] [])) _
          refine XS.aload X32.here hx rfl (hb hby at_56) rfl rfl ?_
          show Steps p.tables e below (T32.setTop (mkF m 58 #[.val (.int vs), .val (.long vr), .second, .val (.int vf), .val (.int vt), .val (.ref b22), .unset, .unset, .unset, .unset, .unset] [(.ref b22)])) _
          refine XS.iconst X32.here hx rfl (hb hby at_58) ?_
          show Steps p.tables e below (T32.setTop (mkF m 59 #[.val (.int vs), .val (.long vr), .second, .val (.int vf), .val (.int vt), .val (.ref b22), .unset, .unset, .unset, .unset, .unset] [(.int (5 : Int32)), (.ref b22)])) _
          refine XS.iloadN X32.here hx rfl (hb hby at_59) rfl ?_
          show Steps p.tables e below (T32.setTop (mkF m 60 #[.val (.int vs), .val (.long vr), .second, .val (.int vf), .val (.int vt), .val (.ref b22), .unset, .unset, .unset, .unset, .unset] [(.int vs), (.int (5 : Int32)), (.ref b22)])) _
          refine XS.iconst X32.here hx rfl (hb hby at_60) ?_
          show Steps p.tables e below (T32.setTop (mkF m 61 #[.val (.int vs), .val (.long vr), .second, .val (.int vf), .val (.int vt), .val (.ref b22), .unset, .unset, .unset, .unset, .unset] [(.int (5 : Int32)), (.int vs), (.int (5 : Int32)), (.ref b22)])) _
          refine XS.lloadN X32.here hx rfl (hb hby at_61) rfl ?_
          show Steps p.tables e below (T32.setTop (mkF m 62 #[.val (.int vs), .val (.long vr), .second, .val (.int vf), .val (.int vt), .val (.ref b22), .unset, .unset, .unset, .unset, .unset] [(.long vr), (.int (5 : Int32)), (.int vs), (.int (5 : Int32)), (.ref b22)])) _
          refine st33 _ ?_
          show Steps p.tables e below (T33.setTop (mkF m 65 #[.val (.int vs), .val (.long vr), .second, .val (.int vf), .val (.int vt), .val (.ref b22), .unset, .unset, .unset, .unset, .unset] [(.int r33), (.int (5 : Int32)), (.ref b22)])) _
          refine st34 _ ?_
          show Steps p.tables e below (T34.setTop (mkF m 66 #[.val (.int vs), .val (.long vr), .second, .val (.int vf), .val (.int vt), .val (.ref b22), .unset, .unset, .unset, .unset, .unset] [])) _
          refine XS.iloadN X34.here hx rfl (hb hby at_66) rfl ?_
          show Steps p.tables e below (T34.setTop (mkF m 67 #[.val (.int vs), .val (.long vr), .second, .val (.int vf), .val (.int vt), .val (.ref b22), .unset, .unset, .unset, .unset, .unset] [(.int vf)])) _
          refine X34.ldcInt hx hown (mvT hZ (hw _ (List.mem_of_getElem? (i := 5) rfl))) (g := (mkF m 67 #[.val (.int vs), .val (.long vr), .second, .val (.int vf), .val (.int vt), .val (.ref b22), .unset, .unset, .unset, .unset, .unset] [(.int vf)])) rfl (hb hby at_67) _ ?_
          show Steps p.tables e below (T34.setTop (mkF m 69 #[.val (.int vs), .val (.long vr), .second, .val (.int vf), .val (.int vt), .val (.ref b22), .unset, .unset, .unset, .unset, .unset] [(.int (2147483647 : Int32)), (.int vf)])) _
          refine XS.iand X34.here hx rfl (hb hby at_69) rfl ?_
          show Steps p.tables e below (T34.setTop (mkF m 70 #[.val (.int vs), .val (.long vr), .second, .val (.int vf), .val (.int vt), .val (.ref b22), .unset, .unset, .unset, .unset, .unset] [(.int (vf &&& (2147483647 : Int32)))])) _
          refine XS.bipush X34.here hx rfl (hb hby at_70) ?_
          show Steps p.tables e below (T34.setTop (mkF m 72 #[.val (.int vs), .val (.long vr), .second, .val (.int vf), .val (.int vt), .val (.ref b22), .unset, .unset, .unset, .unset, .unset] [(.int (7 : Int32)), (.int (vf &&& (2147483647 : Int32)))])) _
          refine iremM X34 hx rfl (hb hby at_72) rfl (by decide) ?_
          show Steps p.tables e below (T34.setTop (mkF m 73 #[.val (.int vs), .val (.long vr), .second, .val (.int vf), .val (.int vt), .val (.ref b22), .unset, .unset, .unset, .unset, .unset] [(.int ((vf &&& (2147483647 : Int32)) % (7 : Int32)))])) _
          rw [← hyf]
          show Steps p.tables e below (T34.setTop (mkF m 73 #[.val (.int vs), .val (.long vr), .second, .val (.int vf), .val (.int vt), .val (.ref b22), .unset, .unset, .unset, .unset, .unset] [(.int yf)])) _
          refine XS.istore X34.here hx rfl (hb hby at_73) rfl (l' := #[.val (.int vs), .val (.long vr), .second, .val (.int vf), .val (.int vt), .val (.ref b22), .val (.int yf), .unset, .unset, .unset, .unset]) rfl ?_
          show Steps p.tables e below (T34.setTop (mkF m 75 #[.val (.int vs), .val (.long vr), .second, .val (.int vf), .val (.int vt), .val (.ref b22), .val (.int yf), .unset, .unset, .unset, .unset] [])) _
          refine XS.iload X34.here hx rfl (hb hby at_75) rfl ?_
          show Steps p.tables e below (T34.setTop (mkF m 77 #[.val (.int vs), .val (.long vr), .second, .val (.int vf), .val (.int vt), .val (.ref b22), .val (.int yf), .unset, .unset, .unset, .unset] [(.int vt)])) _
          refine X34.ldcInt hx hown (mvT hZ (hw _ (List.mem_of_getElem? (i := 5) rfl))) (g := (mkF m 77 #[.val (.int vs), .val (.long vr), .second, .val (.int vf), .val (.int vt), .val (.ref b22), .val (.int yf), .unset, .unset, .unset, .unset] [(.int vt)])) rfl (hb hby at_77) _ ?_
          show Steps p.tables e below (T34.setTop (mkF m 79 #[.val (.int vs), .val (.long vr), .second, .val (.int vf), .val (.int vt), .val (.ref b22), .val (.int yf), .unset, .unset, .unset, .unset] [(.int (2147483647 : Int32)), (.int vt)])) _
          refine XS.iand X34.here hx rfl (hb hby at_79) rfl ?_
          show Steps p.tables e below (T34.setTop (mkF m 80 #[.val (.int vs), .val (.long vr), .second, .val (.int vf), .val (.int vt), .val (.ref b22), .val (.int yf), .unset, .unset, .unset, .unset] [(.int (vt &&& (2147483647 : Int32)))])) _
          refine XS.bipush X34.here hx rfl (hb hby at_80) ?_
          show Steps p.tables e below (T34.setTop (mkF m 82 #[.val (.int vs), .val (.long vr), .second, .val (.int vf), .val (.int vt), .val (.ref b22), .val (.int yf), .unset, .unset, .unset, .unset] [(.int (7 : Int32)), (.int (vt &&& (2147483647 : Int32)))])) _
          refine iremM X34 hx rfl (hb hby at_82) rfl (by decide) ?_
          show Steps p.tables e below (T34.setTop (mkF m 83 #[.val (.int vs), .val (.long vr), .second, .val (.int vf), .val (.int vt), .val (.ref b22), .val (.int yf), .unset, .unset, .unset, .unset] [(.int ((vt &&& (2147483647 : Int32)) % (7 : Int32)))])) _
          rw [← hyt]
          show Steps p.tables e below (T34.setTop (mkF m 83 #[.val (.int vs), .val (.long vr), .second, .val (.int vf), .val (.int vt), .val (.ref b22), .val (.int yf), .unset, .unset, .unset, .unset] [(.int yt)])) _
          refine XS.istore X34.here hx rfl (hb hby at_83) rfl (l' := #[.val (.int vs), .val (.long vr), .second, .val (.int vf), .val (.int vt), .val (.ref b22), .val (.int yf), .val (.int yt), .unset, .unset, .unset]) rfl ?_
          show Steps p.tables e below (T34.setTop (mkF m 85 #[.val (.int vs), .val (.long vr), .second, .val (.int vf), .val (.int vt), .val (.ref b22), .val (.int yf), .val (.int yt), .unset, .unset, .unset] [])) _
          refine XS.aload X34.here hx rfl (hb hby at_85) rfl rfl ?_
          show Steps p.tables e below (T34.setTop (mkF m 87 #[.val (.int vs), .val (.long vr), .second, .val (.int vf), .val (.int vt), .val (.ref b22), .val (.int yf), .val (.int yt), .unset, .unset, .unset] [(.ref b22)])) _
          refine XS.iload X34.here hx rfl (hb hby at_87) rfl ?_
          show Steps p.tables e below (T34.setTop (mkF m 89 #[.val (.int vs), .val (.long vr), .second, .val (.int vf), .val (.int vt), .val (.ref b22), .val (.int yf), .val (.int yt), .unset, .unset, .unset] [(.int yf), (.ref b22)])) _
          refine XS.iload X34.here hx rfl (hb hby at_89) rfl ?_
          show Steps p.tables e below (T34.setTop (mkF m 91 #[.val (.int vs), .val (.long vr), .second, .val (.int vf), .val (.int vt), .val (.ref b22), .val (.int yf), .val (.int yt), .unset, .unset, .unset] [(.int yt), (.int yf), (.ref b22)])) _
          refine st35 _ ?_
          show Steps p.tables e below (T35.setTop (mkF m 94 #[.val (.int vs), .val (.long vr), .second, .val (.int vf), .val (.int vt), .val (.ref b22), .val (.int yf), .val (.int yt), .unset, .unset, .unset] [(.int r35)])) _
          refine XS.istore X35.here hx rfl (hb hby at_94) rfl (l' := #[.val (.int vs), .val (.long vr), .second, .val (.int vf), .val (.int vt), .val (.ref b22), .val (.int yf), .val (.int yt), .val (.int r35), .unset, .unset]) rfl ?_
          show Steps p.tables e below (T35.setTop (mkF m 96 #[.val (.int vs), .val (.long vr), .second, .val (.int vf), .val (.int vt), .val (.ref b22), .val (.int yf), .val (.int yt), .val (.int r35), .unset, .unset] [])) _
          refine XS.iload X35.here hx rfl (hb hby at_96) rfl ?_
          show Steps p.tables e below (T35.setTop (mkF m 98 #[.val (.int vs), .val (.long vr), .second, .val (.int vf), .val (.int vt), .val (.ref b22), .val (.int yf), .val (.int yt), .val (.int r35), .unset, .unset] [(.int yf)])) _
          refine XS.iload X35.here hx rfl (hb hby at_98) rfl ?_
          show Steps p.tables e below (T35.setTop (mkF m 100 #[.val (.int vs), .val (.long vr), .second, .val (.int vf), .val (.int vt), .val (.ref b22), .val (.int yf), .val (.int yt), .val (.int r35), .unset, .unset] [(.int yt), (.int yf)])) _
          refine XS.icmpYes X35.here hx rfl (pc0 := 100) (pc' := 116) rfl (hb hby at_100) rfl (tlt h100_36).1 (by decide) (by decide) ?_
          show Steps p.tables e below (T35.setTop (mkF m 116 #[.val (.int vs), .val (.long vr), .second, .val (.int vf), .val (.int vt), .val (.ref b22), .val (.int yf), .val (.int yt), .val (.int r35), .unset, .unset] [])) _
          refine XS.iload X35.here hx rfl (hb hby at_116) rfl ?_
          show Steps p.tables e below (T35.setTop (mkF m 118 #[.val (.int vs), .val (.long vr), .second, .val (.int vf), .val (.int vt), .val (.ref b22), .val (.int yf), .val (.int yt), .val (.int r35), .unset, .unset] [(.int r35)])) _
          refine XS.iload X35.here hx rfl (hb hby at_118) rfl ?_
          show Steps p.tables e below (T35.setTop (mkF m 120 #[.val (.int vs), .val (.long vr), .second, .val (.int vf), .val (.int vt), .val (.ref b22), .val (.int yf), .val (.int yt), .val (.int r35), .unset, .unset] [(.int yf), (.int r35)])) _
          refine XS.icmpNo X35.here hx rfl (hb hby at_120) rfl (flt (by rw [own_lt]; have := (hr35.2 ((own_lt _ _).mp h100_36)).1; omega : ¬ (r35 < yf))).1 ?_
          show Steps p.tables e below (T35.setTop (mkF m 123 #[.val (.int vs), .val (.long vr), .second, .val (.int vf), .val (.int vt), .val (.ref b22), .val (.int yf), .val (.int yt), .val (.int r35), .unset, .unset] [])) _
          refine XS.iload X35.here hx rfl (hb hby at_123) rfl ?_
          show Steps p.tables e below (T35.setTop (mkF m 125 #[.val (.int vs), .val (.long vr), .second, .val (.int vf), .val (.int vt), .val (.ref b22), .val (.int yf), .val (.int yt), .val (.int r35), .unset, .unset] [(.int r35)])) _
          refine XS.iload X35.here hx rfl (hb hby at_125) rfl ?_
          show Steps p.tables e below (T35.setTop (mkF m 127 #[.val (.int vs), .val (.long vr), .second, .val (.int vf), .val (.int vt), .val (.ref b22), .val (.int yf), .val (.int yt), .val (.int r35), .unset, .unset] [(.int yt), (.int r35)])) _
          refine XS.icmpYes X35.here hx rfl (pc0 := 127) (pc' := 132) rfl (hb hby at_127) rfl (flt (by rw [own_lt]; have := (hr35.2 ((own_lt _ _).mp h100_36)).2.1; omega : ¬ (yt < r35))).2.2.2 (by decide) (by decide) ?_
          show Steps p.tables e below (T35.setTop (mkF m 132 #[.val (.int vs), .val (.long vr), .second, .val (.int vf), .val (.int vt), .val (.ref b22), .val (.int yf), .val (.int yt), .val (.int r35), .unset, .unset] [])) _
          refine XS.aload X35.here hx rfl (hb hby at_132) rfl rfl ?_
          show Steps p.tables e below (T35.setTop (mkF m 134 #[.val (.int vs), .val (.long vr), .second, .val (.int vf), .val (.int vt), .val (.ref b22), .val (.int yf), .val (.int yt), .val (.int r35), .unset, .unset] [(.ref b22)])) _
          refine XS.iload X35.here hx rfl (hb hby at_134) rfl ?_
          show Steps p.tables e below (T35.setTop (mkF m 136 #[.val (.int vs), .val (.long vr), .second, .val (.int vf), .val (.int vt), .val (.ref b22), .val (.int yf), .val (.int yt), .val (.int r35), .unset, .unset] [(.int yf), (.ref b22)])) _
          refine XS.iload X35.here hx rfl (hb hby at_136) rfl ?_
          show Steps p.tables e below (T35.setTop (mkF m 138 #[.val (.int vs), .val (.long vr), .second, .val (.int vf), .val (.int vt), .val (.ref b22), .val (.int yf), .val (.int yt), .val (.int r35), .unset, .unset] [(.int r35), (.int yf), (.ref b22)])) _
          refine XS.iconst X35.here hx rfl (hb hby at_138) ?_
          show Steps p.tables e below (T35.setTop (mkF m 139 #[.val (.int vs), .val (.long vr), .second, .val (.int vf), .val (.int vt), .val (.ref b22), .val (.int yf), .val (.int yt), .val (.int r35), .unset, .unset] [(.int (0 : Int32)), (.int r35), (.int yf), (.ref b22)])) _
          refine st37 _ ?_
          show Steps p.tables e below (T37.setTop (mkF m 142 #[.val (.int vs), .val (.long vr), .second, .val (.int vf), .val (.int vt), .val (.ref b22), .val (.int yf), .val (.int yt), .val (.int r35), .unset, .unset] [(.int r37)])) _
          refine XS.ifNo X37.here hx rfl (hb hby at_142) rfl ((if0 _ _).trans (feq (by rw [hr37]; decide : ¬ (r37 = (0 : Int32)))).1) ?_
          show Steps p.tables e below (T37.setTop (mkF m 145 #[.val (.int vs), .val (.long vr), .second, .val (.int vf), .val (.int vt), .val (.ref b22), .val (.int yf), .val (.int yt), .val (.int r35), .unset, .unset] [])) _
          refine XS.aload X37.here hx rfl (hb hby at_145) rfl rfl ?_
          show Steps p.tables e below (T37.setTop (mkF m 147 #[.val (.int vs), .val (.long vr), .second, .val (.int vf), .val (.int vt), .val (.ref b22), .val (.int yf), .val (.int yt), .val (.int r35), .unset, .unset] [(.ref b22)])) _
          refine XS.iload X37.here hx rfl (hb hby at_147) rfl ?_
          show Steps p.tables e below (T37.setTop (mkF m 149 #[.val (.int vs), .val (.long vr), .second, .val (.int vf), .val (.int vt), .val (.ref b22), .val (.int yf), .val (.int yt), .val (.int r35), .unset, .unset] [(.int yf), (.ref b22)])) _
          refine XS.iload X37.here hx rfl (hb hby at_149) rfl ?_
          show Steps p.tables e below (T37.setTop (mkF m 151 #[.val (.int vs), .val (.long vr), .second, .val (.int vf), .val (.int vt), .val (.ref b22), .val (.int yf), .val (.int yt), .val (.int r35), .unset, .unset] [(.int r35), (.int yf), (.ref b22)])) _
          refine XS.iconst X37.here hx rfl (hb hby at_151) ?_
          show Steps p.tables e below (T37.setTop (mkF m 152 #[.val (.int vs), .val (.long vr), .second, .val (.int vf), .val (.int vt), .val (.ref b22), .val (.int yf), .val (.int yt), .val (.int r35), .unset, .unset] [(.int (1 : Int32)), (.int r35), (.int yf), (.ref b22)])) _
          refine st38 _ ?_
          show Steps p.tables e below (T38.setTop (mkF m 155 #[.val (.int vs), .val (.long vr), .second, .val (.int vf), .val (.int vt), .val (.ref b22), .val (.int yf), .val (.int yt), .val (.int r35), .unset, .unset] [(.int r38)])) _
          refine XS.ifNo X38.here hx rfl (hb hby at_155) rfl ((if0 _ _).trans (feq (by rw [hr38]; decide : ¬ (r38 = (0 : Int32)))).1) ?_
          show Steps p.tables e below (T38.setTop (mkF m 158 #[.val (.int vs), .val (.long vr), .second, .val (.int vf), .val (.int vt), .val (.ref b22), .val (.int yf), .val (.int yt), .val (.int r35), .unset, .unset] [])) _
          refine XS.aload X38.here hx rfl (hb hby at_158) rfl rfl ?_
          show Steps p.tables e below (T38.setTop (mkF m 160 #[.val (.int vs), .val (.long vr), .second, .val (.int vf), .val (.int vt), .val (.ref b22), .val (.int yf), .val (.int yt), .val (.int r35), .unset, .unset] [(.ref b22)])) _
          refine XS.iload X38.here hx rfl (hb hby at_160) rfl ?_
          show Steps p.tables e below (T38.setTop (mkF m 162 #[.val (.int vs), .val (.long vr), .second, .val (.int vf), .val (.int vt), .val (.ref b22), .val (.int yf), .val (.int yt), .val (.int r35), .unset, .unset] [(.int yf), (.ref b22)])) _
          refine XS.iload X38.here hx rfl (hb hby at_162) rfl ?_
          show Steps p.tables e below (T38.setTop (mkF m 164 #[.val (.int vs), .val (.long vr), .second, .val (.int vf), .val (.int vt), .val (.ref b22), .val (.int yf), .val (.int yt), .val (.int r35), .unset, .unset] [(.int r35), (.int yf), (.ref b22)])) _
          refine XS.iconst X38.here hx rfl (hb hby at_164) ?_
          show Steps p.tables e below (T38.setTop (mkF m 165 #[.val (.int vs), .val (.long vr), .second, .val (.int vf), .val (.int vt), .val (.ref b22), .val (.int yf), .val (.int yt), .val (.int r35), .unset, .unset] [(.int (2 : Int32)), (.int r35), (.int yf), (.ref b22)])) _
          refine st39 _ ?_
          show Steps p.tables e below (T39.setTop (mkF m 168 #[.val (.int vs), .val (.long vr), .second, .val (.int vf), .val (.int vt), .val (.ref b22), .val (.int yf), .val (.int yt), .val (.int r35), .unset, .unset] [(.int r39)])) _
          refine XS.ifNo X39.here hx rfl (hb hby at_168) rfl ((if0 _ _).trans (feq (by rw [hr39]; decide : ¬ (r39 = (0 : Int32)))).1) ?_
          show Steps p.tables e below (T39.setTop (mkF m 171 #[.val (.int vs), .val (.long vr), .second, .val (.int vf), .val (.int vt), .val (.ref b22), .val (.int yf), .val (.int yt), .val (.int r35), .unset, .unset] [])) _
          refine XS.aload X39.here hx rfl (hb hby at_171) rfl rfl ?_
          show Steps p.tables e below (T39.setTop (mkF m 173 #[.val (.int vs), .val (.long vr), .second, .val (.int vf), .val (.int vt), .val (.ref b22), .val (.int yf), .val (.int yt), .val (.int r35), .unset, .unset] [(.ref b22)])) _
          refine XS.iload X39.here hx rfl (hb hby at_173) rfl ?_
          show Steps p.tables e below (T39.setTop (mkF m 175 #[.val (.int vs), .val (.long vr), .second, .val (.int vf), .val (.int vt), .val (.ref b22), .val (.int yf), .val (.int yt), .val (.int r35), .unset, .unset] [(.int yf), (.ref b22)])) _
          refine XS.iload X39.here hx rfl (hb hby at_175) rfl ?_
          show Steps p.tables e below (T39.setTop (mkF m 177 #[.val (.int vs), .val (.long vr), .second, .val (.int vf), .val (.int vt), .val (.ref b22), .val (.int yf), .val (.int yt), .val (.int r35), .unset, .unset] [(.int r35), (.int yf), (.ref b22)])) _
          refine XS.iconst X39.here hx rfl (hb hby at_177) ?_
          show Steps p.tables e below (T39.setTop (mkF m 178 #[.val (.int vs), .val (.long vr), .second, .val (.int vf), .val (.int vt), .val (.ref b22), .val (.int yf), .val (.int yt), .val (.int r35), .unset, .unset] [(.int (3 : Int32)), (.int r35), (.int yf), (.ref b22)])) _
          refine st40 _ ?_
          show Steps p.tables e below (T40.setTop (mkF m 181 #[.val (.int vs), .val (.long vr), .second, .val (.int vf), .val (.int vt), .val (.ref b22), .val (.int yf), .val (.int yt), .val (.int r35), .unset, .unset] [(.int r40)])) _
          refine XS.ifNo X40.here hx rfl (hb hby at_181) rfl ((if0 _ _).trans (feq (by rw [hr40]; decide : ¬ (r40 = (0 : Int32)))).1) ?_
          show Steps p.tables e below (T40.setTop (mkF m 184 #[.val (.int vs), .val (.long vr), .second, .val (.int vf), .val (.int vt), .val (.ref b22), .val (.int yf), .val (.int yt), .val (.int r35), .unset, .unset] [])) _
          refine XS.aload X40.here hx rfl (hb hby at_184) rfl rfl ?_
          show Steps p.tables e below (T40.setTop (mkF m 186 #[.val (.int vs), .val (.long vr), .second, .val (.int vf), .val (.int vt), .val (.ref b22), .val (.int yf), .val (.int yt), .val (.int r35), .unset, .unset] [(.ref b22)])) _
          refine XS.iload X40.here hx rfl (hb hby at_186) rfl ?_
          show Steps p.tables e below (T40.setTop (mkF m 188 #[.val (.int vs), .val (.long vr), .second, .val (.int vf), .val (.int vt), .val (.ref b22), .val (.int yf), .val (.int yt), .val (.int r35), .unset, .unset] [(.int yf), (.ref b22)])) _
          refine XS.iload X40.here hx rfl (hb hby at_188) rfl ?_
          show Steps p.tables e below (T40.setTop (mkF m 190 #[.val (.int vs), .val (.long vr), .second, .val (.int vf), .val (.int vt), .val (.ref b22), .val (.int yf), .val (.int yt), .val (.int r35), .unset, .unset] [(.int r35), (.int yf), (.ref b22)])) _
          refine XS.iconst X40.here hx rfl (hb hby at_190) ?_
          show Steps p.tables e below (T40.setTop (mkF m 191 #[.val (.int vs), .val (.long vr), .second, .val (.int vf), .val (.int vt), .val (.ref b22), .val (.int yf), .val (.int yt), .val (.int r35), .unset, .unset] [(.int (4 : Int32)), (.int r35), (.int yf), (.ref b22)])) _
          refine st41 _ ?_
          show Steps p.tables e below (T41.setTop (mkF m 194 #[.val (.int vs), .val (.long vr), .second, .val (.int vf), .val (.int vt), .val (.ref b22), .val (.int yf), .val (.int yt), .val (.int r35), .unset, .unset] [(.int r41)])) _
          refine XS.ifNo X41.here hx rfl (hb hby at_194) rfl ((if0 _ _).trans (feq (by rw [hr41]; decide : ¬ (r41 = (0 : Int32)))).1) ?_
          show Steps p.tables e below (T41.setTop (mkF m 197 #[.val (.int vs), .val (.long vr), .second, .val (.int vf), .val (.int vt), .val (.ref b22), .val (.int yf), .val (.int yt), .val (.int r35), .unset, .unset] [])) _
          refine XS.aload X41.here hx rfl (hb hby at_197) rfl rfl ?_
          show Steps p.tables e below (T41.setTop (mkF m 199 #[.val (.int vs), .val (.long vr), .second, .val (.int vf), .val (.int vt), .val (.ref b22), .val (.int yf), .val (.int yt), .val (.int r35), .unset, .unset] [(.ref b22)])) _
          refine XS.iload X41.here hx rfl (hb hby at_199) rfl ?_
          show Steps p.tables e below (T41.setTop (mkF m 201 #[.val (.int vs), .val (.long vr), .second, .val (.int vf), .val (.int vt), .val (.ref b22), .val (.int yf), .val (.int yt), .val (.int r35), .unset, .unset] [(.int yf), (.ref b22)])) _
          refine XS.iload X41.here hx rfl (hb hby at_201) rfl ?_
          show Steps p.tables e below (T41.setTop (mkF m 203 #[.val (.int vs), .val (.long vr), .second, .val (.int vf), .val (.int vt), .val (.ref b22), .val (.int yf), .val (.int yt), .val (.int r35), .unset, .unset] [(.int r35), (.int yf), (.ref b22)])) _
          refine XS.iconst X41.here hx rfl (hb hby at_203) ?_
          show Steps p.tables e below (T41.setTop (mkF m 204 #[.val (.int vs), .val (.long vr), .second, .val (.int vf), .val (.int vt), .val (.ref b22), .val (.int yf), .val (.int yt), .val (.int r35), .unset, .unset] [(.int (5 : Int32)), (.int r35), (.int yf), (.ref b22)])) _
          refine st42 _ ?_
          show Steps p.tables e below (T42.setTop (mkF m 207 #[.val (.int vs), .val (.long vr), .second, .val (.int vf), .val (.int vt), .val (.ref b22), .val (.int yf), .val (.int yt), .val (.int r35), .unset, .unset] [(.int r42)])) _
          refine XS.ifNo X42.here hx rfl (hb hby at_207) rfl ((if0 _ _).trans (feq (by rw [hr42]; decide : ¬ (r42 = (0 : Int32)))).1) ?_
          show Steps p.tables e below (T42.setTop (mkF m 210 #[.val (.int vs), .val (.long vr), .second, .val (.int vf), .val (.int vt), .val (.ref b22), .val (.int yf), .val (.int yt), .val (.int r35), .unset, .unset] [])) _
          refine XS.iconst X42.here hx rfl (hb hby at_210) ?_
          show Steps p.tables e below (T42.setTop (mkF m 211 #[.val (.int vs), .val (.long vr), .second, .val (.int vf), .val (.int vt), .val (.ref b22), .val (.int yf), .val (.int yt), .val (.int r35), .unset, .unset] [(.int (1 : Int32))])) _
          refine XS.goto X42.here hx rfl (pc0 := 211) (pc' := 215) rfl (hb hby at_211) (by decide) (by decide) ?_
          show Steps p.tables e below (T42.setTop (mkF m 215 #[.val (.int vs), .val (.long vr), .second, .val (.int vf), .val (.int vt), .val (.ref b22), .val (.int yf), .val (.int yt), .val (.int r35), .unset, .unset] [(.int (1 : Int32))])) _
          refine XS.istore X42.here hx rfl (hb hby at_215) rfl (l' := #[.val (.int vs), .val (.long vr), .second, .val (.int vf), .val (.int vt), .val (.ref b22), .val (.int yf), .val (.int yt), .val (.int r35), .val (.int (1 : Int32)), .unset]) rfl ?_
          show Steps p.tables e below (T42.setTop (mkF m 217 #[.val (.int vs), .val (.long vr), .second, .val (.int vf), .val (.int vt), .val (.ref b22), .val (.int yf), .val (.int yt), .val (.int r35), .val (.int (1 : Int32)), .unset] [])) _
          refine XS.iload X42.here hx rfl (hb hby at_217) rfl ?_
          show Steps p.tables e below (T42.setTop (mkF m 219 #[.val (.int vs), .val (.long vr), .second, .val (.int vf), .val (.int vt), .val (.ref b22), .val (.int yf), .val (.int yt), .val (.int r35), .val (.int (1 : Int32)), .unset] [(.int r35)])) _
          refine XS.iload X42.here hx rfl (hb hby at_219) rfl ?_
          show Steps p.tables e below (T42.setTop (mkF m 221 #[.val (.int vs), .val (.long vr), .second, .val (.int vf), .val (.int vt), .val (.ref b22), .val (.int yf), .val (.int yt), .val (.int r35), .val (.int (1 : Int32)), .unset] [(.int yt), (.int r35)])) _
          refine XS.icmpNo X42.here hx rfl (hb hby at_221) rfl (feq h221_43).1 ?_
          show Steps p.tables e below (T42.setTop (mkF m 224 #[.val (.int vs), .val (.long vr), .second, .val (.int vf), .val (.int vt), .val (.ref b22), .val (.int yf), .val (.int yt), .val (.int r35), .val (.int (1 : Int32)), .unset] [])) _
          refine XS.aload X42.here hx rfl (hb hby at_224) rfl rfl ?_
          show Steps p.tables e below (T42.setTop (mkF m 226 #[.val (.int vs), .val (.long vr), .second, .val (.int vf), .val (.int vt), .val (.ref b22), .val (.int yf), .val (.int yt), .val (.int r35), .val (.int (1 : Int32)), .unset] [(.ref b22)])) _
          refine XS.iload X42.here hx rfl (hb hby at_226) rfl ?_
          show Steps p.tables e below (T42.setTop (mkF m 228 #[.val (.int vs), .val (.long vr), .second, .val (.int vf), .val (.int vt), .val (.ref b22), .val (.int yf), .val (.int yt), .val (.int r35), .val (.int (1 : Int32)), .unset] [(.int r35), (.ref b22)])) _
          obtain ⟨cl44, Ar44, q44, S44, N44a, H44, G44⟩ := id Av_b22_34
          have hin44 : ¬ (r35 < 0 ∨ cl44.slots.size ≤ (r35).toNatClampNeg) := inb_of S44 (own_idx _ (by have q1 := (hr35.2 ((own_lt _ _).mp h100_36)).1; have q2 := (hr35.2 ((own_lt _ _).mp h100_36)).2.1; have q3 : r35.toInt ≠ yt.toInt := fun q => h221_43 (Int32.toInt_inj.mp q); omega) (by have q1 := (hr35.2 ((own_lt _ _).mp h100_36)).1; have q2 := (hr35.2 ((own_lt _ _).mp h100_36)).2.1; have q3 : r35.toInt ≠ yt.toInt := fun q => h221_43 (Int32.toInt_inj.mp q); omega))
          have hat44 : cl44.slots[(r35).toNatClampNeg]? = some (.int (own_B [(nar .byte r23), (nar .byte r25), (nar .byte r27), (nar .byte r29), (nar .byte r31), (nar .byte r33)] r35)) := H44.at hin44 (own_getD [(nar .byte r23), (nar .byte r25), (nar .byte r27), (nar .byte r29), (nar .byte r31), (nar .byte r33)] _)
          refine X42.baloadBytes hx (j := r35) (v := (.int (own_B [(nar .byte r23), (nar .byte r25), (nar .byte r27), (nar .byte r29), (nar .byte r31), (nar .byte r33)] r35))) (by rw [e42]; exact Ar44.1) (State.isArrayOf_alike hZ.alike Ar44.2.1) Ar44.2.2 hin44 hat44 (g := (mkF m 228 #[.val (.int vs), .val (.long vr), .second, .val (.int vf), .val (.int vt), .val (.ref b22), .val (.int yf), .val (.int yt), .val (.int r35), .val (.int (1 : Int32)), .unset] [(.int r35), (.ref b22)])) rfl rfl (hb hby at_228) _ ?_
          show Steps p.tables e below (T42.setTop (mkF m 229 #[.val (.int vs), .val (.long vr), .second, .val (.int vf), .val (.int vt), .val (.ref b22), .val (.int yf), .val (.int yt), .val (.int r35), .val (.int (1 : Int32)), .unset] [(.int (own_B [(nar .byte r23), (nar .byte r25), (nar .byte r27), (nar .byte r29), (nar .byte r31), (nar .byte r33)] r35))])) _
          refine XS.bipush X42.here hx rfl (hb hby at_229) ?_
          show Steps p.tables e below (T42.setTop (mkF m 231 #[.val (.int vs), .val (.long vr), .second, .val (.int vf), .val (.int vt), .val (.ref b22), .val (.int yf), .val (.int yt), .val (.int r35), .val (.int (1 : Int32)), .unset] [(.int (10 : Int32)), (.int (own_B [(nar .byte r23), (nar .byte r25), (nar .byte r27), (nar .byte r29), (nar .byte r31), (nar .byte r33)] r35))])) _
          refine XS.icmpNo X42.here hx rfl (hb hby at_231) rfl (feq (((hr35.2 ((own_lt _ _).mp h100_36)).2.2.2.resolve_left h221_43).1 : ¬ ((own_B [(nar .byte r23), (nar .byte r25), (nar .byte r27), (nar .byte r29), (nar .byte r31), (nar .byte r33)] r35) = (10 : Int32)))).1 ?_
          show Steps p.tables e below (T42.setTop (mkF m 234 #[.val (.int vs), .val (.long vr), .second, .val (.int vf), .val (.int vt), .val (.ref b22), .val (.int yf), .val (.int yt), .val (.int r35), .val (.int (1 : Int32)), .unset] [])) _
          refine XS.aload X42.here hx rfl (hb hby at_234) rfl rfl ?_
          show Steps p.tables e below (T42.setTop (mkF m 236 #[.val (.int vs), .val (.long vr), .second, .val (.int vf), .val (.int vt), .val (.ref b22), .val (.int yf), .val (.int yt), .val (.int r35), .val (.int (1 : Int32)), .unset] [(.ref b22)])) _
          refine XS.iload X42.here hx rfl (hb hby at_236) rfl ?_
          show Steps p.tables e below (T42.setTop (mkF m 238 #[.val (.int vs), .val (.long vr), .second, .val (.int vf), .val (.int vt), .val (.ref b22), .val (.int yf), .val (.int yt), .val (.int r35), .val (.int (1 : Int32)), .unset] [(.int r35), (.ref b22)])) _
          obtain ⟨cl45, Ar45, q45, S45, N45a, H45, G45⟩ := id Av_b22_34
          have hin45 : ¬ (r35 < 0 ∨ cl45.slots.size ≤ (r35).toNatClampNeg) := inb_of S45 (own_idx _ (by have q1 := (hr35.2 ((own_lt _ _).mp h100_36)).1; have q2 := (hr35.2 ((own_lt _ _).mp h100_36)).2.1; have q3 : r35.toInt ≠ yt.toInt := fun q => h221_43 (Int32.toInt_inj.mp q); omega) (by have q1 := (hr35.2 ((own_lt _ _).mp h100_36)).1; have q2 := (hr35.2 ((own_lt _ _).mp h100_36)).2.1; have q3 : r35.toInt ≠ yt.toInt := fun q => h221_43 (Int32.toInt_inj.mp q); omega))
          have hat45 : cl45.slots[(r35).toNatClampNeg]? = some (.int (own_B [(nar .byte r23), (nar .byte r25), (nar .byte r27), (nar .byte r29), (nar .byte r31), (nar .byte r33)] r35)) := H45.at hin45 (own_getD [(nar .byte r23), (nar .byte r25), (nar .byte r27), (nar .byte r29), (nar .byte r31), (nar .byte r33)] _)
          refine X42.baloadBytes hx (j := r35) (v := (.int (own_B [(nar .byte r23), (nar .byte r25), (nar .byte r27), (nar .byte r29), (nar .byte r31), (nar .byte r33)] r35))) (by rw [e42]; exact Ar45.1) (State.isArrayOf_alike hZ.alike Ar45.2.1) Ar45.2.2 hin45 hat45 (g := (mkF m 238 #[.val (.int vs), .val (.long vr), .second, .val (.int vf), .val (.int vt), .val (.ref b22), .val (.int yf), .val (.int yt), .val (.int r35), .val (.int (1 : Int32)), .unset] [(.int r35), (.ref b22)])) rfl rfl (hb hby at_238) _ ?_
          show Steps p.tables e below (T42.setTop (mkF m 239 #[.val (.int vs), .val (.long vr), .second, .val (.int vf), .val (.int vt), .val (.ref b22), .val (.int yf), .val (.int yt), .val (.int r35), .val (.int (1 : Int32)), .unset] [(.int (own_B [(nar .byte r23), (nar .byte r25), (nar .byte r27), (nar .byte r29), (nar .byte r31), (nar .byte r33)] r35))])) _
          refine XS.bipush X42.here hx rfl (hb hby at_239) ?_
          show Steps p.tables e below (T42.setTop (mkF m 241 #[.val (.int vs), .val (.long vr), .second, .val (.int vf), .val (.int vt), .val (.ref b22), .val (.int yf), .val (.int yt), .val (.int r35), .val (.int (1 : Int32)), .unset] [(.int (13 : Int32)), (.int (own_B [(nar .byte r23), (nar .byte r25), (nar .byte r27), (nar .byte r29), (nar .byte r31), (nar .byte r33)] r35))])) _
          refine XS.icmpYes X42.here hx rfl (pc0 := 241) (pc' := 265) rfl (hb hby at_241) rfl (feq h241_46).2 (by decide) (by decide) ?_
          show Steps p.tables e below (T42.setTop (mkF m 265 #[.val (.int vs), .val (.long vr), .second, .val (.int vf), .val (.int vt), .val (.ref b22), .val (.int yf), .val (.int yt), .val (.int r35), .val (.int (1 : Int32)), .unset] [])) _
          refine XS.iconst X42.here hx rfl (hb hby at_265) ?_
          show Steps p.tables e below (T42.setTop (mkF m 266 #[.val (.int vs), .val (.long vr), .second, .val (.int vf), .val (.int vt), .val (.ref b22), .val (.int yf), .val (.int yt), .val (.int r35), .val (.int (1 : Int32)), .unset] [(.int (1 : Int32))])) _
          refine XS.goto X42.here hx rfl (pc0 := 266) (pc' := 270) rfl (hb hby at_266) (by decide) (by decide) ?_
          show Steps p.tables e below (T42.setTop (mkF m 270 #[.val (.int vs), .val (.long vr), .second, .val (.int vf), .val (.int vt), .val (.ref b22), .val (.int yf), .val (.int yt), .val (.int r35), .val (.int (1 : Int32)), .unset] [(.int (1 : Int32))])) _
          refine XS.istore X42.here hx rfl (hb hby at_270) rfl (l' := #[.val (.int vs), .val (.long vr), .second, .val (.int vf), .val (.int vt), .val (.ref b22), .val (.int yf), .val (.int yt), .val (.int r35), .val (.int (1 : Int32)), .val (.int (1 : Int32))]) rfl ?_
          show Steps p.tables e below (T42.setTop (mkF m 272 #[.val (.int vs), .val (.long vr), .second, .val (.int vf), .val (.int vt), .val (.ref b22), .val (.int yf), .val (.int yt), .val (.int r35), .val (.int (1 : Int32)), .val (.int (1 : Int32))] [])) _
          refine XS.iload X42.here hx rfl (hb hby at_272) rfl ?_
          show Steps p.tables e below (T42.setTop (mkF m 274 #[.val (.int vs), .val (.long vr), .second, .val (.int vf), .val (.int vt), .val (.ref b22), .val (.int yf), .val (.int yt), .val (.int r35), .val (.int (1 : Int32)), .val (.int (1 : Int32))] [(.int (1 : Int32))])) _
          refine XS.ifNo X42.here hx rfl (hb hby at_274) rfl ((if0 _ _).trans (feq (by decide : ¬ ((1 : Int32) = (0 : Int32)))).1) ?_
          show Steps p.tables e below (T42.setTop (mkF m 277 #[.val (.int vs), .val (.long vr), .second, .val (.int vf), .val (.int vt), .val (.ref b22), .val (.int yf), .val (.int yt), .val (.int r35), .val (.int (1 : Int32)), .val (.int (1 : Int32))] [])) _
          refine XS.iload X42.here hx rfl (hb hby at_277) rfl ?_
          show Steps p.tables e below (T42.setTop (mkF m 279 #[.val (.int vs), .val (.long vr), .second, .val (.int vf), .val (.int vt), .val (.ref b22), .val (.int yf), .val (.int yt), .val (.int r35), .val (.int (1 : Int32)), .val (.int (1 : Int32))] [(.int (1 : Int32))])) _
          refine XS.ifNo X42.here hx rfl (hb hby at_279) rfl ((if0 _ _).trans (feq (by decide : ¬ ((1 : Int32) = (0 : Int32)))).1) ?_
          show Steps p.tables e below (T42.setTop (mkF m 282 #[.val (.int vs), .val (.long vr), .second, .val (.int vf), .val (.int vt), .val (.ref b22), .val (.int yf), .val (.int yt), .val (.int r35), .val (.int (1 : Int32)), .val (.int (1 : Int32))] [])) _
          refine XS.iconst X42.here hx rfl (hb hby at_282) ?_
          show Steps p.tables e below (T42.setTop (mkF m 283 #[.val (.int vs), .val (.long vr), .second, .val (.int vf), .val (.int vt), .val (.ref b22), .val (.int yf), .val (.int yt), .val (.int r35), .val (.int (1 : Int32)), .val (.int (1 : Int32))] [(.int (1 : Int32))])) _
          refine XS.goto X42.here hx rfl (pc0 := 283) (pc' := 287) rfl (hb hby at_283) (by decide) (by decide) ?_
          show Steps p.tables e below (T42.setTop (mkF m 287 #[.val (.int vs), .val (.long vr), .second, .val (.int vf), .val (.int vt), .val (.ref b22), .val (.int yf), .val (.int yt), .val (.int r35), .val (.int (1 : Int32)), .val (.int (1 : Int32))] [(.int (1 : Int32))])) _
          exact retN X42 hx (t := .boolean) Bd.returns (by simp) (hb hby at_287) hr
        · show Q_law Z vs vr vf vt h0 n0 _ T42.heap _
          rw [e42]
          exact ⟨rfl, N42⟩
  · obtain ⟨fs, hr, hrun, hended, hW, hsame⟩ := X35.leave (v := some (.int (1 : Int32))) (fun h => by rw [Bd.returns] at h; cases h)
    refine ⟨_, _, pre0 _ ?_, hrun, hended, _, _, rfl, ?_, ⟨_, rfl⟩, hW, hsame.mono (by decide) (by decide)⟩
    · show Steps p.tables e below (s₁.setTop (mkF m 0 #[.val (.int vs), .val (.long vr), .second, .val (.int vf), .val (.int vt), .unset, .unset, .unset, .unset, .unset, .unset] [])) _
      refine XS.bipush X0.here hx rfl (hb hby at_0) ?_
      show Steps p.tables e below (s₁.setTop (mkF m 2 #[.val (.int vs), .val (.long vr), .second, .val (.int vf), .val (.int vt), .unset, .unset, .unset, .unset, .unset, .unset] [(.int (6 : Int32))])) _
      refine st22 _ ?_
      show Steps p.tables e below (T22.setTop (mkF m 4 #[.val (.int vs), .val (.long vr), .second, .val (.int vf), .val (.int vt), .unset, .unset, .unset, .unset, .unset, .unset] [(.ref b22)])) _
      refine XS.astore X22.here hx rfl (hb hby at_4) rfl rfl (l' := #[.val (.int vs), .val (.long vr), .second, .val (.int vf), .val (.int vt), .val (.ref b22), .unset, .unset, .unset, .unset, .unset]) rfl ?_
      show Steps p.tables e below (T22.setTop (mkF m 6 #[.val (.int vs), .val (.long vr), .second, .val (.int vf), .val (.int vt), .val (.ref b22), .unset, .unset, .unset, .unset, .unset] [])) _
      refine XS.aload X22.here hx rfl (hb hby at_6) rfl rfl ?_
      show Steps p.tables e below (T22.setTop (mkF m 8 #[.val (.int vs), .val (.long vr), .second, .val (.int vf), .val (.int vt), .val (.ref b22), .unset, .unset, .unset, .unset, .unset] [(.ref b22)])) _
      refine XS.iconst X22.here hx rfl (hb hby at_8) ?_
      show Steps p.tables e below (T22.setTop (mkF m 9 #[.val (.int vs), .val (.long vr), .second, .val (.int vf), .val (.int vt), .val (.ref b22), .unset, .unset, .unset, .unset, .unset] [(.int (0 : Int32)), (.ref b22)])) _
      refine XS.iloadN X22.here hx rfl (hb hby at_9) rfl ?_
      show Steps p.tables e below (T22.setTop (mkF m 10 #[.val (.int vs), .val (.long vr), .second, .val (.int vf), .val (.int vt), .val (.ref b22), .unset, .unset, .unset, .unset, .unset] [(.int vs), (.int (0 : Int32)), (.ref b22)])) _
      refine XS.iconst X22.here hx rfl (hb hby at_10) ?_
      show Steps p.tables e below (T22.setTop (mkF m 11 #[.val (.int vs), .val (.long vr), .second, .val (.int vf), .val (.int vt), .val (.ref b22), .unset, .unset, .unset, .unset, .unset] [(.int (0 : Int32)), (.int vs), (.int (0 : Int32)), (.ref b22)])) _
      refine XS.lloadN X22.here hx rfl (hb hby at_11) rfl ?_
      show Steps p.tables e below (T22.setTop (mkF m 12 #[.val (.int vs), .val (.long vr), .second, .val (.int vf), .val (.int vt), .val (.ref b22), .unset, .unset, .unset, .unset, .unset] [(.long vr), (.int (0 : Int32)), (.int vs), (.int (0 : Int32)), (.ref b22)])) _
      refine st23 _ ?_
      show Steps p.tables e below (T23.setTop (mkF m 15 #[.val (.int vs), .val (.long vr), .second, .val (.int vf), .val (.int vt), .val (.ref b22), .unset, .unset, .unset, .unset, .unset] [(.int r23), (.int (0 : Int32)), (.ref b22)])) _
      refine st24 _ ?_
      show Steps p.tables e below (T24.setTop (mkF m 16 #[.val (.int vs), .val (.long vr), .second, .val (.int vf), .val (.int vt), .val (.ref b22), .unset, .unset, .unset, .unset, .unset] [])) _
      refine XS.aload X24.here hx rfl (hb hby at_16) rfl rfl ?_
      show Steps p.tables e below (T24.setTop (mkF m 18 #[.val (.int vs), .val (.long vr), .second, .val (.int vf), .val (.int vt), .val (.ref b22), .unset, .unset, .unset, .unset, .unset] [(.ref b22)])) _
      refine XS.iconst X24.here hx rfl (hb hby at_18) ?_
      show Steps p.tables e below (T24.setTop (mkF m 19 #[.val (.int vs), .val (.long vr), .second, .val (.int vf), .val (.int vt), .val (.ref b22), .unset, .unset, .unset, .unset, .unset] [(.int (1 : Int32)), (.ref b22)])) _
      refine XS.iloadN X24.here hx rfl (hb hby at_19) rfl ?_
      show Steps p.tables e below (T24.setTop (mkF m 20 #[.val (.int vs), .val (.long vr), .second, .val (.int vf), .val (.int vt), .val (.ref b22), .unset, .unset, .unset, .unset, .unset] [(.int vs), (.int (1 : Int32)), (.ref b22)])) _
      refine XS.iconst X24.here hx rfl (hb hby at_20) ?_
      show Steps p.tables e below (T24.setTop (mkF m 21 #[.val (.int vs), .val (.long vr), .second, .val (.int vf), .val (.int vt), .val (.ref b22), .unset, .unset, .unset, .unset, .unset] [(.int (1 : Int32)), (.int vs), (.int (1 : Int32)), (.ref b22)])) _
      refine XS.lloadN X24.here hx rfl (hb hby at_21) rfl ?_
      show Steps p.tables e below (T24.setTop (mkF m 22 #[.val (.int vs), .val (.long vr), .second, .val (.int vf), .val (.int vt), .val (.ref b22), .unset, .unset, .unset, .unset, .unset] [(.long vr), (.int (1 : Int32)), (.int vs), (.int (1 : Int32)), (.ref b22)])) _
      refine st25 _ ?_
      show Steps p.tables e below (T25.setTop (mkF m 25 #[.val (.int vs), .val (.long vr), .second, .val (.int vf), .val (.int vt), .val (.ref b22), .unset, .unset, .unset, .unset, .unset] [(.int r25), (.int (1 : Int32)), (.ref b22)])) _
      refine st26 _ ?_
      show Steps p.tables e below (T26.setTop (mkF m 26 #[.val (.int vs), .val (.long vr), .second, .val (.int vf), .val (.int vt), .val (.ref b22), .unset, .unset, .unset, .unset, .unset] [])) _
      refine XS.aload X26.here hx rfl (hb hby at_26) rfl rfl ?_
      show Steps p.tables e below (T26.setTop (mkF m 28 #[.val (.int vs), .val (.long vr), .second, .val (.int vf), .val (.int vt), .val (.ref b22), .unset, .unset, .unset, .unset, .unset] [(.ref b22)])) _
      refine XS.iconst X26.here hx rfl (hb hby at_28) ?_
      show Steps p.tables e below (T26.setTop (mkF m 29 #[.val (.int vs), .val (.long vr), .second, .val (.int vf), .val (.int vt), .val (.ref b22), .unset, .unset, .unset, .unset, .unset] [(.int (2 : Int32)), (.ref b22)])) _
      refine XS.iloadN X26.here hx rfl (hb hby at_29) rfl ?_
      show Steps p.tables e below (T26.setTop (mkF m 30 #[.val (.int vs), .val (.long vr), .second, .val (.int vf), .val (.int vt), .val (.ref b22), .unset, .unset, .unset, .unset, .unset] [(.int vs), (.int (2 : Int32)), (.ref b22)])) _
      refine XS.iconst X26.here hx rfl (hb hby at_30) ?_
      show Steps p.tables e below (T26.setTop (mkF m 31 #[.val (.int vs), .val (.long vr), .second, .val (.int vf), .val (.int vt), .val (.ref b22), .unset, .unset, .unset, .unset, .unset] [(.int (2 : Int32)), (.int vs), (.int (2 : Int32)), (.ref b22)])) _
      refine XS.lloadN X26.here hx rfl (hb hby at_31) rfl ?_
      show Steps p.tables e below (T26.setTop (mkF m 32 #[.val (.int vs), .val (.long vr), .second, .val (.int vf), .val (.int vt), .val (.ref b22), .unset, .unset, .unset, .unset, .unset] [(.long vr), (.int (2 : Int32)), (.int vs), (.int (2 : Int32)), (.ref b22)])) _
      refine st27 _ ?_
      show Steps p.tables e below (T27.setTop (mkF m 35 #[.val (.int vs), .val (.long vr), .second, .val (.int vf), .val (.int vt), .val (.ref b22), .unset, .unset, .unset, .unset, .unset] [(.int r27), (.int (2 : Int32)), (.ref b22)])) _
      refine st28 _ ?_
      show Steps p.tables e below (T28.setTop (mkF m 36 #[.val (.int vs), .val (.long vr), .second, .val (.int vf), .val (.int vt), .val (.ref b22), .unset, .unset, .unset, .unset, .unset] [])) _
      refine XS.aload X28.here hx rfl (hb hby at_36) rfl rfl ?_
      show Steps p.tables e below (T28.setTop (mkF m 38 #[.val (.int vs), .val (.long vr), .second, .val (.int vf), .val (.int vt), .val (.ref b22), .unset, .unset, .unset, .unset, .unset] [(.ref b22)])) _
      refine XS.iconst X28.here hx rfl (hb hby at_38) ?_
      show Steps p.tables e below (T28.setTop (mkF m 39 #[.val (.int vs), .val (.long vr), .second, .val (.int vf), .val (.int vt), .val (.ref b22), .unset, .unset, .unset, .unset, .unset] [(.int (3 : Int32)), (.ref b22)])) _
      refine XS.iloadN X28.here hx rfl (hb hby at_39) rfl ?_
      show Steps p.tables e below (T28.setTop (mkF m 40 #[.val (.int vs), .val (.long vr), .second, .val (.int vf), .val (.int vt), .val (.ref b22), .unset, .unset, .unset, .unset, .unset] [(.int vs), (.int (3 : Int32)), (.ref b22)])) _
      refine XS.iconst X28.here hx rfl (hb hby at_40) ?_
      show Steps p.tables e below (T28.setTop (mkF m 41 #[.val (.int vs), .val (.long vr), .second, .val (.int vf), .val (.int vt), .val (.ref b22), .unset, .unset, .unset, .unset, .unset] [(.int (3 : Int32)), (.int vs), (.int (3 : Int32)), (.ref b22)])) _
      refine XS.lloadN X28.here hx rfl (hb hby at_41) rfl ?_
      show Steps p.tables e below (T28.setTop (mkF m 42 #[.val (.int vs), .val (.long vr), .second, .val (.int vf), .val (.int vt), .val (.ref b22), .unset, .unset, .unset, .unset, .unset] [(.long vr), (.int (3 : Int32)), (.int vs), (.int (3 : Int32)), (.ref b22)])) _
      refine st29 _ ?_
      show Steps p.tables e below (T29.setTop (mkF m 45 #[.val (.int vs), .val (.long vr), .second, .val (.int vf), .val (.int vt), .val (.ref b22), .unset, .unset, .unset, .unset, .unset] [(.int r29), (.int (3 : Int32)), (.ref b22)])) _
      refine st30 _ ?_
      show Steps p.tables e below (T30.setTop (mkF m 46 #[.val (.int vs), .val (.long vr), .second, .val (.int vf), .val (.int vt), .val (.ref b22), .unset, .unset, .unset, .unset, .unset] [])) _
      refine XS.aload X30.here hx rfl (hb hby at_46) rfl rfl ?_
      show Steps p.tables e below (T30.setTop (mkF m 48 #[.val (.int vs), .val (.long vr), .second, .val (.int vf), .val (.int vt), .val (.ref b22), .unset, .unset, .unset, .unset, .unset] [(.ref b22)])) _
      refine XS.iconst X30.here hx rfl (hb hby at_48) ?_
      show Steps p.tables e below (T30.setTop (mkF m 49 #[.val (.int vs), .val (.long vr), .second, .val (.int vf), .val (.int vt), .val (.ref b22), .unset, .unset, .unset, .unset, .unset] [(.int (4 : Int32)), (.ref b22)])) _
      refine XS.iloadN X30.here hx rfl (hb hby at_49) rfl ?_
      show Steps p.tables e below (T30.setTop (mkF m 50 #[.val (.int vs), .val (.long vr), .second, .val (.int vf), .val (.int vt), .val (.ref b22), .unset, .unset, .unset, .unset, .unset] [(.int vs), (.int (4 : Int32)), (.ref b22)])) _
      refine XS.iconst X30.here hx rfl (hb hby at_50) ?_
      show Steps p.tables e below (T30.setTop (mkF m 51 #[.val (.int vs), .val (.long vr), .second, .val (.int vf), .val (.int vt), .val (.ref b22), .unset, .unset, .unset, .unset, .unset] [(.int (4 : Int32)), (.int vs), (.int (4 : Int32)), (.ref b22)])) _
      refine XS.lloadN X30.here hx rfl (hb hby at_51) rfl ?_
      show Steps p.tables e below (T30.setTop (mkF m 52 #[.val (.int vs), .val (.long vr), .second, .val (.int vf), .val (.int vt), .val (.ref b22), .unset, .unset, .unset, .unset, .unset] [(.long vr), (.int (4 : Int32)), (.int vs), (.int (4 : Int32)), (.ref b22)])) _
      refine st31 _ ?_
      show Steps p.tables e below (T31.setTop (mkF m 55 #[.val (.int vs), .val (.long vr), .second, .val (.int vf), .val (.int vt), .val (.ref b22), .unset, .unset, .unset, .unset, .unset] [(.int r31), (.int (4 : Int32)), (.ref b22)])) _
      refine st32 _ ?_
      show Steps p.tables e below (T32.setTop (mkF m 56 #[.val (.int vs), .val (.long vr), .second, .val (.int vf), .val (.int vt), .val (.ref b22), .unset, .unset, .unset, .unset, .unset] [])) _
      refine XS.aload X32.here hx rfl (hb hby at_56) rfl rfl ?_
      show Steps p.tables e below (T32.setTop (mkF m 58 #[.val (.int vs), .val (.long vr), .second, .val (.int vf), .val (.int vt), .val (.ref b22), .unset, .unset, .unset, .unset, .unset] [(.ref b22)])) _
      refine XS.iconst X32.here hx rfl (hb hby at_58) ?_
      show Steps p.tables e below (T32.setTop (mkF m 59 #[.val (.int vs), .val (.long vr), .second, .val (.int vf), .val (.int vt), .val (.ref b22), .unset, .unset, .unset, .unset, .unset] [(.int (5 : Int32)), (.ref b22)])) _
      refine XS.iloadN X32.here hx rfl (hb hby at_59) rfl ?_
      show Steps p.tables e below (T32.setTop (mkF m 60 #[.val (.int vs), .val (.long vr), .second, .val (.int vf), .val (.int vt), .val (.ref b22), .unset, .unset, .unset, .unset, .unset] [(.int vs), (.int (5 : Int32)), (.ref b22)])) _
      refine XS.iconst X32.here hx rfl (hb hby at_60) ?_
      show Steps p.tables e below (T32.setTop (mkF m 61 #[.val (.int vs), .val (.long vr), .second, .val (.int vf), .val (.int vt), .val (.ref b22), .unset, .unset, .unset, .unset, .unset] [(.int (5 : Int32)), (.int vs), (.int (5 : Int32)), (.ref b22)])) _
      refine XS.lloadN X32.here hx rfl (hb hby at_61) rfl ?_
      show Steps p.tables e below (T32.setTop (mkF m 62 #[.val (.int vs), .val (.long vr), .second, .val (.int vf), .val (.int vt), .val (.ref b22), .unset, .unset, .unset, .unset, .unset] [(.long vr), (.int (5 : Int32)), (.int vs), (.int (5 : Int32)), (.ref b22)])) _
      refine st33 _ ?_
      show Steps p.tables e below (T33.setTop (mkF m 65 #[.val (.int vs), .val (.long vr), .second, .val (.int vf), .val (.int vt), .val (.ref b22), .unset, .unset, .unset, .unset, .unset] [(.int r33), (.int (5 : Int32)), (.ref b22)])) _
      refine st34 _ ?_
      show Steps p.tables e below (T34.setTop (mkF m 66 #[.val (.int vs), .val (.long vr), .second, .val (.int vf), .val (.int vt), .val (.ref b22), .unset, .unset, .unset, .unset, .unset] [])) _
      refine XS.iloadN X34.here hx rfl (hb hby at_66) rfl ?_
      show Steps p.tables e below (T34.setTop (mkF m 67 #[.val (.int vs), .val (.long vr), .second, .val (.int vf), .val (.int vt), .val (.ref b22), .unset, .unset, .unset, .unset, .unset] [(.int vf)])) _
      refine X34.ldcInt hx hown (mvT hZ (hw _ (List.mem_of_getElem? (i := 5) rfl))) (g := (mkF m 67 #[.val (.int vs), .val (.long vr), .second, .val (.int vf), .val (.int vt), .val (.ref b22), .unset, .unset, .unset, .unset, .unset] [(.int vf)])) rfl (hb hby at_67) _ ?_
      show Steps p.tables e below (T34.setTop (mkF m 69 #[.val (.int vs), .val (.long vr), .second, .val (.int vf), .val (.int vt), .val (.ref b22), .unset, .unset, .unset, .unset, .unset] [(.int (2147483647 : Int32)), (.int vf)])) _
      refine XS.iand X34.here hx rfl (hb hby at_69) rfl ?_
      show Steps p.tables e below (T34.setTop (mkF m 70 #[.val (.int vs), .val (.long vr), .second, .val (.int vf), .val (.int vt), .val (.ref b22), .unset, .unset, .unset, .unset, .unset] [(.int (vf &&& (2147483647 : Int32)))])) _
      refine XS.bipush X34.here hx rfl (hb hby at_70) ?_
      show Steps p.tables e below (T34.setTop (mkF m 72 #[.val (.int vs), .val (.long vr), .second, .val (.int vf), .val (.int vt), .val (.ref b22), .unset, .unset, .unset, .unset, .unset] [(.int (7 : Int32)), (.int (vf &&& (2147483647 : Int32)))])) _
      refine iremM X34 hx rfl (hb hby at_72) rfl (by decide) ?_
      show Steps p.tables e below (T34.setTop (mkF m 73 #[.val (.int vs), .val (.long vr), .second, .val (.int vf), .val (.int vt), .val (.ref b22), .unset, .unset, .unset, .unset, .unset] [(.int ((vf &&& (2147483647 : Int32)) % (7 : Int32)))])) _
      rw [← hyf]
      show Steps p.tables e below (T34.setTop (mkF m 73 #[.val (.int vs), .val (.long vr), .second, .val (.int vf), .val (.int vt), .val (.ref b22), .unset, .unset, .unset, .unset, .unset] [(.int yf)])) _
      refine XS.istore X34.here hx rfl (hb hby at_73) rfl (l' := #[.val (.int vs), .val (.long vr), .second, .val (.int vf), .val (.int vt), .val (.ref b22), .val (.int yf), .unset, .unset, .unset, .unset]) rfl ?_
      show Steps p.tables e below (T34.setTop (mkF m 75 #[.val (.int vs), .val (.long vr), .second, .val (.int vf), .val (.int vt), .val (.ref b22), .val (.int yf), .unset, .unset, .unset, .unset] [])) _
      refine XS.iload X34.here hx rfl (hb hby at_75) rfl ?_
      show Steps p.tables e below (T34.setTop (mkF m 77 #[.val (.int vs), .val (.long vr), .second, .val (.int vf), .val (.int vt), .val (.ref b22), .val (.int yf), .unset, .unset, .unset, .unset] [(.int vt)])) _
      refine X34.ldcInt hx hown (mvT hZ (hw _ (List.mem_of_getElem? (i := 5) rfl))) (g := (mkF m 77 #[.val (.int vs), .val (.long vr), .second, .val (.int vf), .val (.int vt), .val (.ref b22), .val (.int yf), .unset, .unset, .unset, .unset] [(.int vt)])) rfl (hb hby at_77) _ ?_
      show Steps p.tables e below (T34.setTop (mkF m 79 #[.val (.int vs), .val (.long vr), .second, .val (.int vf), .val (.int vt), .val (.ref b22), .val (.int yf), .unset, .unset, .unset, .unset] [(.int (2147483647 : Int32)), (.int vt)])) _
      refine XS.iand X34.here hx rfl (hb hby at_79) rfl ?_
      show Steps p.tables e below (T34.setTop (mkF m 80 #[.val (.int vs), .val (.long vr), .second, .val (.int vf), .val (.int vt), .val (.ref b22), .val (.int yf), .unset, .unset, .unset, .unset] [(.int (vt &&& (2147483647 : Int32)))])) _
      refine XS.bipush X34.here hx rfl (hb hby at_80) ?_
      show Steps p.tables e below (T34.setTop (mkF m 82 #[.val (.int vs), .val (.long vr), .second, .val (.int vf), .val (.int vt), .val (.ref b22), .val (.int yf), .unset, .unset, .unset, .unset] [(.int (7 : Int32)), (.int (vt &&& (2147483647 : Int32)))])) _
      refine iremM X34 hx rfl (hb hby at_82) rfl (by decide) ?_
      show Steps p.tables e below (T34.setTop (mkF m 83 #[.val (.int vs), .val (.long vr), .second, .val (.int vf), .val (.int vt), .val (.ref b22), .val (.int yf), .unset, .unset, .unset, .unset] [(.int ((vt &&& (2147483647 : Int32)) % (7 : Int32)))])) _
      rw [← hyt]
      show Steps p.tables e below (T34.setTop (mkF m 83 #[.val (.int vs), .val (.long vr), .second, .val (.int vf), .val (.int vt), .val (.ref b22), .val (.int yf), .unset, .unset, .unset, .unset] [(.int yt)])) _
      refine XS.istore X34.here hx rfl (hb hby at_83) rfl (l' := #[.val (.int vs), .val (.long vr), .second, .val (.int vf), .val (.int vt), .val (.ref b22), .val (.int yf), .val (.int yt), .unset, .unset, .unset]) rfl ?_
      show Steps p.tables e below (T34.setTop (mkF m 85 #[.val (.int vs), .val (.long vr), .second, .val (.int vf), .val (.int vt), .val (.ref b22), .val (.int yf), .val (.int yt), .unset, .unset, .unset] [])) _
      refine XS.aload X34.here hx rfl (hb hby at_85) rfl rfl ?_
      show Steps p.tables e below (T34.setTop (mkF m 87 #[.val (.int vs), .val (.long vr), .second, .val (.int vf), .val (.int vt), .val (.ref b22), .val (.int yf), .val (.int yt), .unset, .unset, .unset] [(.ref b22)])) _
      refine XS.iload X34.here hx rfl (hb hby at_87) rfl ?_
      show Steps p.tables e below (T34.setTop (mkF m 89 #[.val (.int vs), .val (.long vr), .second, .val (.int vf), .val (.int vt), .val (.ref b22), .val (.int yf), .val (.int yt), .unset, .unset, .unset] [(.int yf), (.ref b22)])) _
      refine XS.iload X34.here hx rfl (hb hby at_89) rfl ?_
      show Steps p.tables e below (T34.setTop (mkF m 91 #[.val (.int vs), .val (.long vr), .second, .val (.int vf), .val (.int vt), .val (.ref b22), .val (.int yf), .val (.int yt), .unset, .unset, .unset] [(.int yt), (.int yf), (.ref b22)])) _
      refine st35 _ ?_
      show Steps p.tables e below (T35.setTop (mkF m 94 #[.val (.int vs), .val (.long vr), .second, .val (.int vf), .val (.int vt), .val (.ref b22), .val (.int yf), .val (.int yt), .unset, .unset, .unset] [(.int r35)])) _
      refine XS.istore X35.here hx rfl (hb hby at_94) rfl (l' := #[.val (.int vs), .val (.long vr), .second, .val (.int vf), .val (.int vt), .val (.ref b22), .val (.int yf), .val (.int yt), .val (.int r35), .unset, .unset]) rfl ?_
      show Steps p.tables e below (T35.setTop (mkF m 96 #[.val (.int vs), .val (.long vr), .second, .val (.int vf), .val (.int vt), .val (.ref b22), .val (.int yf), .val (.int yt), .val (.int r35), .unset, .unset] [])) _
      refine XS.iload X35.here hx rfl (hb hby at_96) rfl ?_
      show Steps p.tables e below (T35.setTop (mkF m 98 #[.val (.int vs), .val (.long vr), .second, .val (.int vf), .val (.int vt), .val (.ref b22), .val (.int yf), .val (.int yt), .val (.int r35), .unset, .unset] [(.int yf)])) _
      refine XS.iload X35.here hx rfl (hb hby at_98) rfl ?_
      show Steps p.tables e below (T35.setTop (mkF m 100 #[.val (.int vs), .val (.long vr), .second, .val (.int vf), .val (.int vt), .val (.ref b22), .val (.int yf), .val (.int yt), .val (.int r35), .unset, .unset] [(.int yt), (.int yf)])) _
      refine XS.icmpNo X35.here hx rfl (hb hby at_100) rfl (flt h100_36).1 ?_
      show Steps p.tables e below (T35.setTop (mkF m 103 #[.val (.int vs), .val (.long vr), .second, .val (.int vf), .val (.int vt), .val (.ref b22), .val (.int yf), .val (.int yt), .val (.int r35), .unset, .unset] [])) _
      refine XS.iload X35.here hx rfl (hb hby at_103) rfl ?_
      show Steps p.tables e below (T35.setTop (mkF m 105 #[.val (.int vs), .val (.long vr), .second, .val (.int vf), .val (.int vt), .val (.ref b22), .val (.int yf), .val (.int yt), .val (.int r35), .unset, .unset] [(.int r35)])) _
      refine XS.iload X35.here hx rfl (hb hby at_105) rfl ?_
      show Steps p.tables e below (T35.setTop (mkF m 107 #[.val (.int vs), .val (.long vr), .second, .val (.int vf), .val (.int vt), .val (.ref b22), .val (.int yf), .val (.int yt), .val (.int r35), .unset, .unset] [(.int yf), (.int r35)])) _
      refine XS.icmpNo X35.here hx rfl (hb hby at_107) rfl (teq (hr35.1 (fun q => h100_36 ((own_lt _ _).mpr q)) : r35 = yf)).2 ?_
      show Steps p.tables e below (T35.setTop (mkF m 110 #[.val (.int vs), .val (.long vr), .second, .val (.int vf), .val (.int vt), .val (.ref b22), .val (.int yf), .val (.int yt), .val (.int r35), .unset, .unset] [])) _
      refine XS.iconst X35.here hx rfl (hb hby at_110) ?_
      show Steps p.tables e below (T35.setTop (mkF m 111 #[.val (.int vs), .val (.long vr), .second, .val (.int vf), .val (.int vt), .val (.ref b22), .val (.int yf), .val (.int yt), .val (.int r35), .unset, .unset] [(.int (1 : Int32))])) _
      refine XS.goto X35.here hx rfl (pc0 := 111) (pc' := 115) rfl (hb hby at_111) (by decide) (by decide) ?_
      show Steps p.tables e below (T35.setTop (mkF m 115 #[.val (.int vs), .val (.long vr), .second, .val (.int vf), .val (.int vt), .val (.ref b22), .val (.int yf), .val (.int yt), .val (.int r35), .unset, .unset] [(.int (1 : Int32))])) _
      exact retN X35 hx (t := .boolean) Bd.returns (by simp) (hb hby at_115) hr
    · show Q_law Z vs vr vf vt h0 n0 _ T35.heap _
      rw [e35]
      exact ⟨rfl, N35⟩
set_option maxRecDepth 65536 in
set_option maxHeartbeats 40000000 in
theorem comes_1 {Post : Tables → Env → Array Value → State → Outcome → State → Prop} (hpost : ∀ tb e args s v u, (limb_1_1.after args s (.returned v) u = true ∧ limb_1_2.after args s (.returned v) u = true ∧ True) → FrameEnd s (.returned v) u (Jvm.fieldLocs frame_1_writes args s ++ Jvm.arrayLocs frame_1_arrays args s ++ Jvm.staticLocs frame_1_statics s) 16 128 → Post tb e args s (.returned v) u) :
    ArmFor flags0 classFile x code maxLocals ret World_1 tables_1 room_1 Calls_1 rest_1 Pre_1 Post := by
  intro l hfl _ _ p e ha hc hk s m args below hf hA hF happ hP
  obtain ⟨hcalls, hrest, hpre⟩ := hP
  obtain ⟨-, -, -, hnamed, -, -, -, hat⟩ := (Spec.applies_iff hf).mp happ
  obtain ⟨hg, hn⟩ := and_e (Cond.before_iff.mp (show (Jvm.Cond.and given_1 narrow_1).before args s = true from hpre))
  obtain ⟨hg0, hr0⟩ := and_e hg
  obtain ⟨ha0, hr1⟩ := and_e hr0
  obtain ⟨ha1, hr2⟩ := and_e hr1
  obtain ⟨ha2, hr3⟩ := and_e hr2
  obtain ⟨w0, w1, w2, w3, rfl⟩ : ∃ w0 w1 w2 w3 : Value, args = #[w0, w1, w2, w3] := by
    have hs : args.size = 4 := by simpa [Cond.value, given_1] using hg0
    obtain ⟨L⟩ := args
    match L, hs with
    | [w0, w1, w2, w3], _ => exact ⟨w0, w1, w2, w3, rfl⟩
  have hw := fun d (hd : d ∈ tables_1) => atoms_spec (ws := Jvm.Cond.code x code maxLocals ret :: tables_1) hat d (List.mem_cons_of_mem _ hd)
  obtain ⟨i0, ei0⟩ := is_v ha0
  obtain rfl : w0 = (.int i0) := Option.some.inj ei0
  obtain ⟨i1, ei1⟩ := isL_v ha1
  obtain rfl : w1 = (.long i1) := Option.some.inj ei1
  obtain ⟨i2, ei2⟩ := is_v ha2
  obtain rfl : w2 = (.int i2) := Option.some.inj ei2
  obtain ⟨i3, ei3⟩ := is_v hr3
  obtain rfl : w3 = (.int i3) := Option.some.inj ei3
  obtain ⟨n, o, h1, h2, h3, _, L, rfl, ⟨rfl, N⟩, hq⟩ := rm_law l s _ hw tables_1 i0 i1 i2 i3 s.heap s.heap.size (Nat.le_refl _)  p e ha hc hk s m _ below hf ((Spec.applies_iff_loose hf).mp happ).1 ⟨rfl, State.Warmed39.refl s, rfl⟩ trivial
  refine ⟨n, _, h1, h2, h3, hpost _ _ _ _ _ _ ⟨Cond.after_iff.mpr rfl, Cond.after_iff.mpr (eq_i res_at (Term.int_eval (1)) rfl), trivial⟩ ⟨hq.1, hq.2.1, (hq.2.2.sift fun y hy => Or.inr (N y hy)).mono (by decide) (by decide)⟩⟩
theorem main_1_1 : Claimed_1_1 := comes_1 fun _ _ _ _ _ _ h hF => ⟨h.1, hF⟩
theorem main_1_2 : Claimed_1_2 := comes_1 fun _ _ _ _ _ _ h hF => ⟨h.2.1, hF⟩
end Jvm.Pilot.@@N@@
namespace Jvm.Pilot.@@N@@
open Jvm Jvm.ClassFile Sem Op Lib Jvm.Free Jvm.Stand Jvm.Pilot.@@N@@.Jvm.D
/-! MADE BY PROGRAM (witnessworld.py) out of the Statement's table words and the real class files: 10 classes; the members and pool entries that the words name. The judged class is class 1, her method 3. -/
namespace start1
open Jvm.ClassFile
def u (s : String) : CpInfo := .utf8 (stringToUtf16 s)
/-- a pool by its gaps: so many unusable entries, then the entry; so many at the end -/
def gap : Nat → List CpInfo → List CpInfo
  | 0, r => r
  | n + 1, r => .unusable :: gap n r
def poolList (es : List (Nat × CpInfo)) (last : Nat) : List CpInfo := es.foldr (fun e r => gap e.1 (e.2 :: r)) (gap last [])
def pool (es : List (Nat × CpInfo)) (last : Nat) : Array CpInfo := ⟨poolList es last⟩
def fileOf (pool : Array CpInfo) (this : Nat) (attrs : Array Attribute := #[]) (ms : Array MethodInfo := #[]) (fl : Nat := 33) (sup : Nat := 0) (ifs : Array Nat := #[]) (fds : Array FieldInfo := #[]) : ClassFile where
  minorVersion := 0
  majorVersion := 65
  constantPool := pool
  accessFlags := fl
  thisClass := this
  superClass := sup
  interfaces := ifs
  fields := fds
  methods := ms
  attributes := attrs
def plain (name : String) (sup : Option ClassId) : Class where
  name := name
  kind := .ordinary
  loader := none
  accessFlags := 33
  super := sup
  interfaces := #[]
  cf := none
  fields := #[]
  methods := #[]
  instanceTypes := #[]
  staticTypes := #[]
  resolved := #[]
  callSites := []
  init := .initialized
  statics := none
  mirror := none

def pool0 : Array CpInfo := pool [(5, u "<init>"), (0, u "()V"), (1, .class_ 10), (1, u "java/lang/Object")] 113

def k0m0 : Method := { name := "<init>", desc := "()V", sig := { parameters := [], returnType := none }, accessFlags := 1, code := none }
/-- java/lang/Object -/
def k0 : Class := { plain "java/lang/Object" none with
  accessFlags := 33
  interfaces := #[]
  cf := some (fileOf pool0 8 #[] #[{ accessFlags := 1, nameIndex := 5, descriptorIndex := 6, attributes := #[] }] 33 0 #[] #[])
  fields := #[]
  methods := #[k0m0]
  instanceTypes := #[]
  staticTypes := #[]
  resolved := Array.replicate 124 none
  statics := none }

def pool1 : Array CpInfo := pool [(2, .class_ 4), (1, u "java/lang/Object"), (0, u "<init>"), (0, u "()V"), (0, .methodref 8 9), (0, .class_ 10), (0, .nameAndType 11 12), (0, u "com/example/rest_whiteboard/restwhiteboard/http/RequestHeadSkipEmptyLinesPinLaw"), (0, u "pick"), (0, u "(IIJ)B"), (0, .integer 2147483647), (0, .methodref 15 16), (0, .class_ 17), (0, .nameAndType 18 19), (0, u "com/example/rest_whiteboard/restwhiteboard/http/RequestHead"), (0, u "skipEmptyLines"), (0, u "([BII)I"), (0, .methodref 8 21), (0, .nameAndType 22 23), (0, u "inPrefix"), (0, u "([BIII)Z"), (3, u "law"), (0, u "(IJII)Z")] 4

def k1m0 : Method := { name := "<init>", desc := "()V", sig := { parameters := [], returnType := none }, accessFlags := 1, code := none }
def k1c1 : Code := { maxStack := 4, maxLocals := 5, code := method_2_code, exceptionTable := #[], attributes := #[] }
def k1m1 : Method := { name := "pick", desc := "(IIJ)B", sig := { parameters := [.int, .int, .long], returnType := some .byte }, accessFlags := 10, code := some k1c1 }
def k1c2 : Code := { maxStack := 3, maxLocals := 4, code := method_3_code, exceptionTable := #[], attributes := #[] }
def k1m2 : Method := { name := "inPrefix", desc := "([BIII)Z", sig := { parameters := [(.array .byte), .int, .int, .int], returnType := some .boolean }, accessFlags := 10, code := some k1c2 }
def k1c3 : Code := { maxStack := 6, maxLocals := 11, code := code, exceptionTable := #[], attributes := #[] }
def k1m3 : Method := { name := "law", desc := "(IJII)Z", sig := { parameters := [.int, .long, .int, .int], returnType := some .boolean }, accessFlags := 9, code := some k1c3 }
/-- com/example/rest_whiteboard/restwhiteboard/http/RequestHeadSkipEmptyLinesPinLaw -/
def k1 : Class := { plain "com/example/rest_whiteboard/restwhiteboard/http/RequestHeadSkipEmptyLinesPinLaw" (some 0) with
  accessFlags := 49
  interfaces := #[]
  cf := some (fileOf pool1 8 #[] #[{ accessFlags := 1, nameIndex := 5, descriptorIndex := 6, attributes := #[] }, { accessFlags := 10, nameIndex := 11, descriptorIndex := 12, attributes := #[] }, { accessFlags := 10, nameIndex := 22, descriptorIndex := 23, attributes := #[] }, { accessFlags := 9, nameIndex := 27, descriptorIndex := 28, attributes := #[] }] 49 2 #[] #[])
  fields := #[]
  methods := #[k1m0, k1m1, k1m2, k1m3]
  instanceTypes := #[]
  staticTypes := #[]
  resolved := Array.replicate 33 none
  statics := none }

def pool2 : Array CpInfo := pool [(2, .class_ 4), (1, u "java/lang/Object"), (0, u "<init>"), (0, u "()V"), (0, .class_ 8), (0, u "java/lang/Record")] 13

def k2m0 : Method := { name := "<init>", desc := "()V", sig := { parameters := [], returnType := none }, accessFlags := 4, code := none }
/-- java/lang/Record -/
def k2 : Class := { plain "java/lang/Record" (some 0) with
  accessFlags := 1057
  interfaces := #[]
  cf := some (fileOf pool2 7 #[] #[{ accessFlags := 4, nameIndex := 5, descriptorIndex := 6, attributes := #[] }] 1057 2 #[] #[])
  fields := #[]
  methods := #[k2m0]
  instanceTypes := #[]
  staticTypes := #[]
  resolved := Array.replicate 22 none
  statics := none }

def pool3 : Array CpInfo := pool [(2, .class_ 4), (1, u "java/lang/Record"), (3, .class_ 10), (1, u "com/example/rest_whiteboard/restwhiteboard/http/RequestHead"), (0, u "method"), (0, u "Ljava/lang/String;"), (2, u "authority"), (2, u "path"), (2, u "query"), (2, u "minorVersion"), (0, u "I"), (2, u "fields"), (0, u "Ljava/util/Map;"), (2, u "bodyLength"), (0, u "J"), (2, u "arrived"), (390, u "CHUNKED"), (1, u "CR"), (0, u "B"), (1, u "LF"), (1, u "TRANSFER_ENCODING"), (0, u "CONTENT_LENGTH"), (0, u "HOST"), (0, u "TOKEN_SYMBOLS"), (0, u "MAX_LENGTH_DIGITS"), (9, u "skipEmptyLines"), (0, u "([BII)I")] 124

def k3c0 : Code := { maxStack := 3, maxLocals := 4, code := prog_20_method_5_code, exceptionTable := #[], attributes := #[] }
def k3m0 : Method := { name := "skipEmptyLines", desc := "([BII)I", sig := { parameters := [(.array .byte), .int, .int], returnType := some .int }, accessFlags := 8, code := some k3c0 }
/-- com/example/rest_whiteboard/restwhiteboard/http/RequestHead -/
def k3 : Class := { plain "com/example/rest_whiteboard/restwhiteboard/http/RequestHead" (some 2) with
  accessFlags := 48
  interfaces := #[]
  cf := some (fileOf pool3 8 #[] #[{ accessFlags := 8, nameIndex := 448, descriptorIndex := 449, attributes := #[] }] 48 2 #[] #[{ accessFlags := 18, nameIndex := 11, descriptorIndex := 12, attributes := #[] }, { accessFlags := 18, nameIndex := 15, descriptorIndex := 12, attributes := #[] }, { accessFlags := 18, nameIndex := 18, descriptorIndex := 12, attributes := #[] }, { accessFlags := 18, nameIndex := 21, descriptorIndex := 12, attributes := #[] }, { accessFlags := 18, nameIndex := 24, descriptorIndex := 25, attributes := #[] }, { accessFlags := 18, nameIndex := 28, descriptorIndex := 29, attributes := #[] }, { accessFlags := 18, nameIndex := 32, descriptorIndex := 33, attributes := #[] }, { accessFlags := 18, nameIndex := 36, descriptorIndex := 33, attributes := #[] }, { accessFlags := 24, nameIndex := 427, descriptorIndex := 33, attributes := #[] }, { accessFlags := 26, nameIndex := 429, descriptorIndex := 430, attributes := #[] }, { accessFlags := 26, nameIndex := 432, descriptorIndex := 430, attributes := #[] }, { accessFlags := 26, nameIndex := 434, descriptorIndex := 12, attributes := #[] }, { accessFlags := 26, nameIndex := 435, descriptorIndex := 12, attributes := #[] }, { accessFlags := 26, nameIndex := 436, descriptorIndex := 12, attributes := #[] }, { accessFlags := 26, nameIndex := 437, descriptorIndex := 12, attributes := #[] }, { accessFlags := 26, nameIndex := 438, descriptorIndex := 25, attributes := #[] }])
  fields := #[{ name := "method", type := (.object "java/lang/String"), accessFlags := 18, slot := 0, constantValue := 0 }, { name := "authority", type := (.object "java/lang/String"), accessFlags := 18, slot := 1, constantValue := 0 }, { name := "path", type := (.object "java/lang/String"), accessFlags := 18, slot := 2, constantValue := 0 }, { name := "query", type := (.object "java/lang/String"), accessFlags := 18, slot := 3, constantValue := 0 }, { name := "minorVersion", type := .int, accessFlags := 18, slot := 4, constantValue := 0 }, { name := "fields", type := (.object "java/util/Map"), accessFlags := 18, slot := 5, constantValue := 0 }, { name := "bodyLength", type := .long, accessFlags := 18, slot := 6, constantValue := 0 }, { name := "arrived", type := .long, accessFlags := 18, slot := 7, constantValue := 0 }, { name := "CHUNKED", type := .long, accessFlags := 24, slot := 0, constantValue := 0 }, { name := "CR", type := .byte, accessFlags := 26, slot := 1, constantValue := 0 }, { name := "LF", type := .byte, accessFlags := 26, slot := 2, constantValue := 0 }, { name := "TRANSFER_ENCODING", type := (.object "java/lang/String"), accessFlags := 26, slot := 3, constantValue := 0 }, { name := "CONTENT_LENGTH", type := (.object "java/lang/String"), accessFlags := 26, slot := 4, constantValue := 0 }, { name := "HOST", type := (.object "java/lang/String"), accessFlags := 26, slot := 5, constantValue := 0 }, { name := "TOKEN_SYMBOLS", type := (.object "java/lang/String"), accessFlags := 26, slot := 6, constantValue := 0 }, { name := "MAX_LENGTH_DIGITS", type := .int, accessFlags := 26, slot := 7, constantValue := 0 }]
  methods := #[k3m0]
  instanceTypes := #[(.object "java/lang/String"), (.object "java/lang/String"), (.object "java/lang/String"), (.object "java/lang/String"), .int, (.object "java/util/Map"), .long, .long]
  staticTypes := #[.long, .byte, .byte, (.object "java/lang/String"), (.object "java/lang/String"), (.object "java/lang/String"), (.object "java/lang/String"), .int]
  resolved := Array.replicate 574 none
  statics := none }

def pool4 : Array CpInfo := pool [(1, u "java/lang/Cloneable"), (0, .class_ 1), (0, u "java/lang/Object"), (0, .class_ 3)] 3

/-- java/lang/Cloneable -/
def k4 : Class := { plain "java/lang/Cloneable" (some 0) with
  accessFlags := 1537
  interfaces := #[]
  cf := some (fileOf pool4 2 #[] #[] 1537 4 #[] #[])
  fields := #[]
  methods := #[]
  instanceTypes := #[]
  staticTypes := #[]
  resolved := Array.replicate 8 none
  statics := none }

def pool5 : Array CpInfo := pool [(1, u "java/io/Serializable"), (0, .class_ 1), (0, u "java/lang/Object"), (0, .class_ 3)] 3

/-- java/io/Serializable -/
def k5 : Class := { plain "java/io/Serializable" (some 0) with
  accessFlags := 1537
  interfaces := #[]
  cf := some (fileOf pool5 2 #[] #[] 1537 4 #[] #[])
  fields := #[]
  methods := #[]
  instanceTypes := #[]
  staticTypes := #[]
  resolved := Array.replicate 8 none
  statics := none }

/-- the primitive byte -/
def k6 : Class := { plain "byte" none with kind := .primitive 'B', accessFlags := 0x411 }
/-- [B -/
def k7 : Class := { plain "[B" (some 0) with kind := .array 6 .byte, interfaces := #[4, 5], accessFlags := 1041 }

/-- the primitive int -/
def k8 : Class := { plain "int" none with kind := .primitive 'I', accessFlags := 0x411 }
/-- [I -/
def k9 : Class := { plain "[I" (some 0) with kind := .array 8 .int, interfaces := #[4, 5], accessFlags := 1041 }

def heap : Heap := #[]
def classes : Array Class := #[k0, k1, k2, k3, k4, k5, k6, k7, k8, k9]
def interned : List (Array UInt16 × Addr) := []
def slotsUsed : Nat := 0
def theMethod : MethodId := ⟨1, 3⟩
def args0 : Array Value := #[.int 5, .long 3, .int 5, .int 3]
def aboutOver (below : List Frame) : State where
  vm := { classes := classes, interned := interned.toArray }
  heap := heap
  slotsUsed := slotsUsed
  threads := #[{ frames := .invoking theMethod args0 :: below }]
def below0 : List Frame := [.native { method := ⟨0, 0⟩, args := #[] }]
def about1 : State := aboutOver below0
def p0 : Program := .bare "" "" ""
def e0 : Env := launch0.env 0 0 0
theorem w_frames : about1.frames = Frame.invoking theMethod args0 :: below0 := rfl
set_option maxRecDepth 65536 in
theorem w_args : argsFit about1.vm theMethod args0 = true := by decide +kernel
set_option maxRecDepth 65536 in
theorem w_heap : heapFits about1 = true := by decide +kernel
set_option maxRecDepth 65536 in
theorem w_runnable : about1.curStatus? = some .runnable := by decide +kernel
set_option maxRecDepth 65536 in
theorem w_alone : about1.alone = true := by decide +kernel
set_option maxRecDepth 65536 in
theorem w_named : about1.methodNamed? x = some theMethod := by decide +kernel
set_option maxRecDepth 65536 in
theorem w_hears : about1.hears theMethod below0 = true := by decide +kernel
set_option maxRecDepth 65536 in
theorem w_ripe : about1.ripe theMethod args0 below0 = true := by decide +kernel
theorem w_running : about1.status = .running := rfl
set_option maxRecDepth 65536 in
theorem w_room : about1.hasRoom e0.platform room_1 = true :=
  launch0.hasRoom_least _ room_1 (by decide +kernel) (by decide +kernel) (by decide +kernel) (by decide +kernel) (by decide +kernel) (by decide +kernel)
theorem allAtoms_all (ts : List Jvm.Cond) (a : Array Jvm.Value) (st : Jvm.State) : (allAtoms ts).before a st = ts.all (fun c => c.before a st) := by
  induction ts with
  | nil => rfl
  | cons c t ih =>
    show (Jvm.Cond.and c (allAtoms t)).before a st = _
    rw [Jvm.Cond.before_and, ih, List.all_cons]
def words1 : List Jvm.Cond := Jvm.Cond.code x code maxLocals ret :: tables_1
/-- a 'code' word, met by the world's own term for the bytes: nothing is compared byte by byte -/
theorem code_word {y : MethodName} {bytes : ByteArray} {mx : Nat} {rt : Option FieldType} {a : Array Value} {s : State} {m : MethodId} {meth : Method} {c : Code} (h1 : s.methodNamed? y = some m) (h2 : s.vm.method? m = some meth) (h3 : meth.code = some c) (h4 : c.code = bytes)
    (h5 : (c.maxLocals == mx && c.exceptionTable.isEmpty && decide (c.maxStack ≤ mostOperands) && decide (meth.sig.returnType = rt) && !meth.locks && decide (parseMethodDescriptor y.desc = some meth.sig)) = true) : (Jvm.Cond.code y bytes mx rt).before a s = true := by
  simp only [Bool.and_eq_true, beq_iff_eq, Bool.not_eq_true', decide_eq_true_eq] at h5
  obtain ⟨⟨⟨⟨⟨g1, g2⟩, g3⟩, g4⟩, g5⟩, g6⟩ := h5
  simp [Cond.before, Cond.holds, Cond.value, h1, h2, h3, h4, g1, g2, g3, g4, g5, g6]
def isCode : Jvm.Cond → Bool
  | .code _ _ _ _ => true
  | _ => false
theorem all_split {L : List Jvm.Cond} {P : Jvm.Cond → Bool} (h1 : L.all (fun c => isCode c || P c) = true) (h2 : ∀ c ∈ L.filter isCode, P c = true) : L.all P = true := by
  refine List.all_eq_true.mpr fun c hc => ?_
  have h := List.all_eq_true.mp h1 c hc
  rcases Bool.eq_false_or_eq_true (isCode c) with hi | hi
  · exact h2 c (List.mem_filter.mpr ⟨hc, hi⟩)
  · simpa [hi] using h
set_option maxRecDepth 65536 in
theorem w_c0 : (Jvm.Cond.code x code maxLocals ret).before args0 about1 = true := code_word (m := ⟨1, 3⟩) (meth := k1m3) (c := k1c3) (by decide +kernel) rfl rfl rfl (by decide +kernel)
set_option maxRecDepth 65536 in
theorem w_c1 : (Jvm.Cond.code ({ cls := "com/example/rest_whiteboard/restwhiteboard/http/RequestHeadSkipEmptyLinesPinLaw", name := "pick", desc := "(IIJ)B" } : Jvm.MethodName) method_2_code (5 : Nat) (Option.some Jvm.ClassFile.FieldType.byte)).before args0 about1 = true := code_word (m := ⟨1, 1⟩) (meth := k1m1) (c := k1c1) (by decide +kernel) rfl rfl rfl (by decide +kernel)
set_option maxRecDepth 65536 in
theorem w_c2 : (Jvm.Cond.code ({ cls := "com/example/rest_whiteboard/restwhiteboard/http/RequestHead", name := "skipEmptyLines", desc := "([BII)I" } : Jvm.MethodName) prog_20_method_5_code (4 : Nat) (Option.some Jvm.ClassFile.FieldType.int)).before args0 about1 = true := code_word (m := ⟨3, 0⟩) (meth := k3m0) (c := k3c0) (by decide +kernel) rfl rfl rfl (by decide +kernel)
set_option maxRecDepth 65536 in
theorem w_c3 : (Jvm.Cond.code ({ cls := "com/example/rest_whiteboard/restwhiteboard/http/RequestHeadSkipEmptyLinesPinLaw", name := "inPrefix", desc := "([BIII)Z" } : Jvm.MethodName) method_3_code (4 : Nat) (Option.some Jvm.ClassFile.FieldType.boolean)).before args0 about1 = true := code_word (m := ⟨1, 2⟩) (meth := k1m2) (c := k1c2) (by decide +kernel) rfl rfl rfl (by decide +kernel)
def codes1 : List Jvm.Cond := [Jvm.Cond.code x code maxLocals ret, Jvm.Cond.code ({ cls := "com/example/rest_whiteboard/restwhiteboard/http/RequestHeadSkipEmptyLinesPinLaw", name := "pick", desc := "(IIJ)B" } : Jvm.MethodName) method_2_code (5 : Nat) (Option.some Jvm.ClassFile.FieldType.byte), Jvm.Cond.code ({ cls := "com/example/rest_whiteboard/restwhiteboard/http/RequestHead", name := "skipEmptyLines", desc := "([BII)I" } : Jvm.MethodName) prog_20_method_5_code (4 : Nat) (Option.some Jvm.ClassFile.FieldType.int), Jvm.Cond.code ({ cls := "com/example/rest_whiteboard/restwhiteboard/http/RequestHeadSkipEmptyLinesPinLaw", name := "inPrefix", desc := "([BIII)Z" } : Jvm.MethodName) method_3_code (4 : Nat) (Option.some Jvm.ClassFile.FieldType.boolean)]
set_option maxRecDepth 65536 in
theorem codes_eq : words1.filter isCode = codes1 := rfl
theorem w_codes : ∀ c ∈ words1.filter isCode, c.before args0 about1 = true := by
  rw [codes_eq]
  intro c hc
  simp only [codes1, List.mem_cons, List.not_mem_nil, or_false] at hc
  rcases hc with rfl | rfl | rfl | rfl
  · exact w_c0
  · exact w_c1
  · exact w_c2
  · exact w_c3
set_option maxRecDepth 65536 in
theorem w_t1 : words1.all (fun c => isCode c || c.before args0 about1) = true := by decide +kernel
theorem w_tables : (allAtoms (Jvm.Cond.code x code maxLocals ret :: tables_1)).before args0 about1 = true := by
  rw [allAtoms_all]
  show words1.all (fun c => c.before args0 about1) = true
  refine all_split ?_ w_codes
  rw [w_t1]
set_option maxRecDepth 65536 in
theorem w_case : (Jvm.Cond.and given_1 narrow_1).before args0 about1 = true := by decide +kernel
theorem w_applies : (headSpec (Jvm.Cond.code x code maxLocals ret :: tables_1) room_1).applies x e0.platform about1 = true :=
  (Spec.applies_iff w_frames).mpr ⟨w_running, w_runnable, w_alone, w_named, w_hears, w_ripe, w_room, w_tables⟩
theorem atStart : AtStart classFile x code maxLocals ret World_1 tables_1 room_1 Calls_1 rest_1 Pre_1 launch0 p0 e0 about1 theMethod args0 below0 :=
  ⟨lists_1, trivial, launch0.admits_env _ _ _, launch0.least_env, fairChoices_fair.cas, fairChoices_fair.clock, w_frames, w_args, w_heap, w_applies, trivial, trivial, w_case⟩
end start1
theorem witness_1 : WitnessClaimed_1 := ⟨start1.p0, start1.e0, start1.about1, start1.theMethod, start1.args0, start1.below0, start1.atStart⟩
end Jvm.Pilot.@@N@@
