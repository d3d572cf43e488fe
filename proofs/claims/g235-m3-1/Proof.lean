import JvmDerived
import JvmDerived.Pilot.@@N@@Statement
import JvmDerived.Pilot.@@N@@Code
set_option linter.unusedVariables false
set_option linter.unusedSimpArgs false
namespace Jvm.RoadKit
open Sem ClassFile Op Lib Jvm.Stand Jvm.Free Jvm.LawKit
section New
variable {p : Program} {l : Launch} {e : Env} {R : Room} {s : State} {m : MethodId} {args : Array Value} {below : List Frame} {meth : Method} {c : Code} {T : State} {locs : List Loc} {cells slots : Nat}
theorem retI (X : Stand p l e R s m args below meth c T locs cells slots) (hx : p.tables.exec = Jvm.exec) {pc : Nat} {Ls : Array Slot} {z : Int32} {rest : List Value} (hret : meth.sig.returnType = some .int) (hd : decode c.code pc = .ok (.ireturn, 1)) {fs : List Frame}
    (hl : ∀ (f : JFrame) (acts : List Action), f.method = m → f.locked = none → f.entered = [] → (doReturn e (T.setTop f) acts (some (.int z))).1 = T.setFrames fs) : Steps p.tables e below (T.setTop (mkF m pc Ls (.int z :: rest))) (T.setFrames fs) := by
  have hm' : T.vm.method? m = some meth := X.method'
  have hn : narrow .int (.int z) = .int z := rfl
  show Steps p.tables e below (T.setTop { method := m, pc := pc, locals := Ls, stack := _ :: rest, locked := none }) _
  jvm_step X.here [X.here.top, hx, hd, hm', hret, hn]
  first | (intro acts; rw [hl _ acts rfl rfl rfl]) | rw [hl _ _ rfl rfl rfl]
  exact Steps.refl _
end New
end Jvm.RoadKit
namespace Jvm.Pilot.@@N@@
open Jvm Jvm.ClassFile Sem Op Lib Jvm.Free Jvm.Stand Jvm.LawKit Jvm.RoadKit Bundle Jvm.Pilot.@@N@@.Jvm.D
/-! the texts: what the sheet's own words say of each constant -/
def own_tx (i : Nat) : String := match tables_1[i]? with
  | some (Jvm.Cond.stringLink _ _ t) => t
  | _ => ""
def own_by (i : Nat) : List Int32 := (own_tx i).toList.map fun c => Jvm.Lit.byteI c.toNat.toUInt16
def own_D : List Int32 := own_by 0
def own_ta : List Int32 := own_by 120
def own_te : List Int32 := own_by 121
def own_tl : List Int32 := own_by 151
def own_tg : List Int32 := own_by 152
def own_ts : List Int32 := own_by 171
def own_tn : List Int32 := own_by 172
theorem own_D_t : (∀ c ∈ (own_tx 0).toList, c.toNat < 256) ∧ (own_tx 0).toList.map (fun c => Value.int (Jvm.Lit.byteI c.toNat.toUInt16)) = own_D.map Value.int := ⟨by decide +kernel, by simp only [own_D, own_by, List.map_map]; rfl⟩
theorem own_ta_t : (∀ c ∈ (own_tx 120).toList, c.toNat < 256) ∧ (own_tx 120).toList.map (fun c => Value.int (Jvm.Lit.byteI c.toNat.toUInt16)) = own_ta.map Value.int := ⟨by decide +kernel, by simp only [own_ta, own_by, List.map_map]; rfl⟩
theorem own_te_t : (∀ c ∈ (own_tx 121).toList, c.toNat < 256) ∧ (own_tx 121).toList.map (fun c => Value.int (Jvm.Lit.byteI c.toNat.toUInt16)) = own_te.map Value.int := ⟨by decide +kernel, by simp only [own_te, own_by, List.map_map]; rfl⟩
theorem own_tl_t : (∀ c ∈ (own_tx 151).toList, c.toNat < 256) ∧ (own_tx 151).toList.map (fun c => Value.int (Jvm.Lit.byteI c.toNat.toUInt16)) = own_tl.map Value.int := ⟨by decide +kernel, by simp only [own_tl, own_by, List.map_map]; rfl⟩
theorem own_tg_t : (∀ c ∈ (own_tx 152).toList, c.toNat < 256) ∧ (own_tx 152).toList.map (fun c => Value.int (Jvm.Lit.byteI c.toNat.toUInt16)) = own_tg.map Value.int := ⟨by decide +kernel, by simp only [own_tg, own_by, List.map_map]; rfl⟩
theorem own_ts_t : (∀ c ∈ (own_tx 171).toList, c.toNat < 256) ∧ (own_tx 171).toList.map (fun c => Value.int (Jvm.Lit.byteI c.toNat.toUInt16)) = own_ts.map Value.int := ⟨by decide +kernel, by simp only [own_ts, own_by, List.map_map]; rfl⟩
theorem own_tn_t : (∀ c ∈ (own_tx 172).toList, c.toNat < 256) ∧ (own_tx 172).toList.map (fun c => Value.int (Jvm.Lit.byteI c.toNat.toUInt16)) = own_tn.map Value.int := ⟨by decide +kernel, by simp only [own_tn, own_by, List.map_map]; rfl⟩
/-! the statics, one bundle -/
def own_G (Z : State) (n0 : Nat) (h : Heap) : Prop := Old Z n0 h ∧ (∃ cs : Int32, ¬ cs = 0 ∧ Sta Z Z.heap "java/lang/String" "COMPACT_STRINGS" "Z" (.int cs)) ∧ (∃ wv : Value, wv.isRef = true ∧ Sta Z Z.heap "jdk/internal/util/Preconditions" "SIOOBE_FORMATTER" "Ljava/util/function/BiFunction;" wv)
theorem own_G.ext {Z : State} {n0 : Nat} {h h' : Heap} (G : own_G Z n0 h) (E : Ext h h') : own_G Z n0 h' := ⟨G.1.ext E, G.2⟩
theorem own_G.wr {Z : State} {n0 : Nat} {h h' : Heap} {a : Addr} {sl : Nat} {v : Value} (G : own_G Z n0 h) (W : Wr h h' a sl v) (q : n0 ≤ a) : own_G Z n0 h' := ⟨G.1.wr W q, G.2⟩
theorem own_G.keep {Z : State} {n0 : Nat} {h h' : Heap} {ws : List Addr} (G : own_G Z n0 h) (K : Keep h h' ws) (q : ∀ x ∈ ws, n0 ≤ x) : own_G Z n0 h' := ⟨G.1.keep K q, G.2⟩
/-! the sheet's words on literals -/
theorem own_wS {a0 : Array Value} {Z : State} (hw : ∀ d ∈ tables_1, d.before a0 Z = true) : ∀ a ∈ Bundle.stringAtoms, a.before a0 Z = true := by
  intro d hd
  simp only [Bundle.stringAtoms, List.mem_cons, List.not_mem_nil, or_false] at hd
  rcases hd with rfl | rfl | rfl | rfl | rfl | rfl | rfl
  · exact hw _ (List.mem_of_getElem? (i := 1) rfl)
  · exact hw _ (List.mem_of_getElem? (i := 2) rfl)
  · exact hw _ (List.mem_of_getElem? (i := 3) rfl)
  · exact hw _ (List.mem_of_getElem? (i := 4) rfl)
  · exact hw _ (List.mem_of_getElem? (i := 5) rfl)
  · exact hw _ (List.mem_of_getElem? (i := 6) rfl)
  · exact hw _ (List.mem_of_getElem? (i := 7) rfl)
/-- each constant of the list: its word, its text below 256, its length -/
def own_EWn (Z : State) (a0 : Array Value) : Prop := ∀ p ∈ consts_1, ∃ text : String, (Jvm.Cond.stringLink p.1 p.2 text).before a0 Z = true ∧ (∀ c ∈ text.toList, c.toNat < 256) ∧ text.toList.length ≤ 39 ∧ text.toList.length ≠ 8
theorem own_EWl {a0 : Array Value} {Z : State} (hw : ∀ d ∈ tables_1, d.before a0 Z = true) : own_EWn Z a0 := by
  intro p hp
  simp only [consts_1, List.mem_cons, List.not_mem_nil, or_false] at hp
  rcases hp with rfl | rfl | rfl | rfl | rfl | rfl | rfl | rfl
  · exact ⟨_, hw _ (List.mem_of_getElem? (i := 39) rfl), own_D_t.1, by decide +kernel, by decide +kernel⟩
  · exact ⟨_, hw _ (List.mem_of_getElem? (i := 172) rfl), own_tn_t.1, by decide +kernel, by decide +kernel⟩
  · exact ⟨_, hw _ (List.mem_of_getElem? (i := 151) rfl), own_tl_t.1, by decide +kernel, by decide +kernel⟩
  · exact ⟨_, hw _ (List.mem_of_getElem? (i := 152) rfl), own_tg_t.1, by decide +kernel, by decide +kernel⟩
  · exact ⟨_, hw _ (List.mem_of_getElem? (i := 171) rfl), own_ts_t.1, by decide +kernel, by decide +kernel⟩
  · exact ⟨_, hw _ (List.mem_of_getElem? (i := 0) rfl), own_D_t.1, by decide +kernel, by decide +kernel⟩
  · exact ⟨_, hw _ (List.mem_of_getElem? (i := 120) rfl), own_ta_t.1, by decide +kernel, by decide +kernel⟩
  · exact ⟨_, hw _ (List.mem_of_getElem? (i := 121) rfl), own_te_t.1, by decide +kernel, by decide +kernel⟩
theorem own_EW {a0 : Array Value} {Z : State} (hw : ∀ d ∈ tables_1, d.before a0 Z = true) : EW Z a0 consts_1 := fun p hp => by
  obtain ⟨t, h1, h2, -⟩ := own_EWl hw p hp
  exact ⟨t, h1, h2⟩
/-- a byte array whose length is no text's isn't a booked String's -/
theorem own_safe {a0 : Array Value} {Z : State} {vm : Vm} {h : Heap} {x : Addr} {k : ClassId} {z : Int32} {vs : List Value} {dv : Value} (hZ : Z.Warmed39 vm) (hw : own_EWn Z a0) (A : Arv Z h x k .byte z vs dv) (hz : 39 < z.toNatClampNeg ∨ z.toNatClampNeg = 8) : Safe Z consts_1 vm h x := fun B => by
  obtain ⟨cl, ⟨A1, ⟨-, kA, hkA, compA, hkindA⟩, -⟩, -, hsz, -⟩ := A
  obtain ⟨p, hp, u, a, hbk, q, -, F, hx⟩ := B
  rcases hx with rfl | rfl
  · have hc : q.sC = cl := Option.some.inj ((show h[q.sa]? = some q.sC from F.ha).symm.trans A1)
    obtain ⟨cS, ⟨-, -, e⟩, ⟨kS, g1, g2, -⟩, -⟩ := F
    have g1' : vm.classes[cS]? = some kS := g1
    rw [← e, hc] at g1'
    obtain ⟨kA', hkA', ekA⟩ := hZ.alike.2.2 _ _ hkA
    have : kS = kA' := Option.some.inj (g1'.symm.trans hkA')
    rw [this, ekA] at g2
    rw [show kA.kind = _ from hkindA] at g2
    cases g2
  · have hc : q.SA = cl := Option.some.inj ((show h[q.sd]? = some q.SA from F.hd).symm.trans A1)
    obtain ⟨cS, -, -, -, hby⟩ := F
    obtain ⟨t, hl, ht, h39, h8⟩ := hw p hp
    obtain ⟨c, kk, cf, i, b1, b2, b3, b4, b5, -⟩ := hbk
    have hc' : Z.vm.findClass p.1 = some c := by rw [← hZ.alike.findClass]; exact b1
    obtain ⟨k', cf', i', u', s1, s2, s3, s4, -, s5, -⟩ := Cond.stringLink_spec hc' hl
    obtain ⟨k2, d1, d2⟩ := hZ.alike.2.2 _ _ s1
    have e1 : kk = k2 := Option.some.inj (b2.symm.trans d1)
    have e2 : kk.cf = k'.cf := by rw [e1, d2]
    have e3 : cf = cf' := Option.some.inj (b3.symm.trans (e2.trans s2))
    subst e3
    have e4 : i = i' := by have := b4.symm.trans s3; simpa using this
    subst e4
    have e5 : u = u' := by have := b5.symm.trans s4; simpa using this
    subst e5
    have hu := Jvm.ClassFile.units_of_text s5 ht
    have hlat := Jvm.ClassFile.lat_of_text s5 ht
    have hlen : u.size = t.toList.length := by rw [← Array.length_toList, hu, List.length_map]
    have hs2 : q.SA.slots.size = u.size := by rw [hby, Jvm.Free.SBG.stringBytes_lat hlat, Array.size_map]
    rw [hc, hsz] at hs2
    omega
/-! arrays by lists of ints -/
theorem own_getD (L : List Int32) (k : Nat) : (L.map Value.int).getD k (.int 0) = .int (L.getD k 0) := by
  induction L generalizing k with
  | nil => simp
  | cons a t ih => cases k with
    | zero => simp
    | succ n => simpa using ih n
theorem own_cast {Z : State} {h : Heap} {a : Addr} {k : ClassId} {ty : FieldType} {z : Int32} {vs vs' : List Value} {dv : Value} (A : Arv Z h a k ty z vs dv) (e : vs = vs') : Arv Z h a k ty z vs' dv := e ▸ A
theorem own_set {Z : State} {h : Heap} {a : Addr} {k : ClassId} {ty : FieldType} {z : Int32} {bs bs' : List Int32} {i : Nat} {y : Int32} {dv : Value} (A : Arv Z h a k ty z ((bs.map Value.int).set i (.int y)) dv) (e : bs' = bs.set i y) : Arv Z h a k ty z (bs'.map Value.int) dv := by
  subst e; rw [List.map_set]; exact A
def own_us (bs : List Int32) (sp n : Nat) : List Int32 := (List.range n).map fun i => bs.getD (sp + i) 0
def own_cp (bs cs : List Int32) (sp dp n : Nat) : List Int32 := cs.take dp ++ own_us bs sp n ++ cs.drop (dp + n)
theorem own_us_v (bs : List Int32) (sp n : Nat) : (own_us bs sp n).map Value.int = (List.range n).map fun i => (bs.map Value.int).getD (sp + i) (.int 0) := by
  simp only [own_us, List.map_map]
  apply List.map_congr_left
  intro i _
  exact (own_getD bs (sp + i)).symm
theorem own_cp_v (bs cs : List Int32) (sp dp n : Nat) : (cs.map Value.int).take dp ++ (own_us bs sp n).map Value.int ++ (cs.map Value.int).drop (dp + n) = (own_cp bs cs sp dp n).map Value.int := by
  simp only [own_cp, List.map_append, List.map_take, List.map_drop]
theorem own_cp_len (bs cs : List Int32) (sp dp n : Nat) (h : dp + n ≤ cs.length) : (own_cp bs cs sp dp n).length = cs.length := by
  simp only [own_cp, own_us, List.length_append, List.length_take, List.length_map, List.length_range, List.length_drop]; omega
theorem own_cp_get (bs cs : List Int32) (sp dp n k : Nat) (h : dp + n ≤ cs.length) : (own_cp bs cs sp dp n).getD k 0 = if dp ≤ k ∧ k < dp + n then bs.getD (sp + (k - dp)) 0 else cs.getD k 0 := by
  have l1 : (cs.take dp).length = dp := by rw [List.length_take]; omega
  have l2 : (own_us bs sp n).length = n := by simp [own_us]
  simp only [own_cp, List.getD_eq_getElem?_getD]
  by_cases a : k < dp
  · rw [if_neg (by omega), List.append_assoc, List.getElem?_append_left (by omega), List.getElem?_take_of_lt a]
  · by_cases b : k < dp + n
    · rw [if_pos ⟨by omega, b⟩, List.append_assoc, List.getElem?_append_right (by omega), List.getElem?_append_left (by omega), l1]
      simp only [own_us, List.getElem?_map, List.getElem?_range (show k - dp < n by omega), Option.map_some, Option.getD_some, List.getD_eq_getElem?_getD]
    · rw [if_neg (by omega), List.getElem?_append_right (by rw [List.length_append]; omega), List.length_append, l1, l2, List.getElem?_drop]
      congr 2; omega
/-- the bytes ds put from place e on -/
def own_wr : List Int32 → List Int32 → Nat → List Int32
  | bs, [], _ => bs
  | bs, d :: t, e => own_wr (bs.set e d) t (e + 1)
theorem own_wr_len (bs ds : List Int32) (e : Nat) : (own_wr bs ds e).length = bs.length := by
  induction ds generalizing bs e with
  | nil => rfl
  | cons d t ih => show (own_wr (bs.set e d) t (e + 1)).length = _; rw [ih, List.length_set]
def own_asc (ds : List Int32) : Prop := ∀ k : Nat, 0 ≤ (ds.getD k 0).toInt ∧ (ds.getD k 0).toInt < 128
theorem own_asc_of (ds : List Int32) (h : ∀ d ∈ ds, 0 ≤ d.toInt ∧ d.toInt < 128) : own_asc ds := fun k => by
  rw [List.getD_eq_getElem?_getD]
  cases hk : ds[k]? with
  | none => decide
  | some d => exact h d (List.mem_of_getElem? hk)
theorem own_m255 (d : Int32) (h0 : 0 ≤ d.toInt) (h1 : d.toInt < 128) : (d &&& (255 : Int32)) = d := by
  have a := c_mask d 255 8 (by decide) (by decide)
  simp only [Nat.reducePow] at a
  exact Int32.toInt_inj.mp (by omega)
theorem own_i2b (d : Int32) (h0 : 0 ≤ d.toInt) (h1 : d.toInt < 128) : d.toInt8.toInt32 = d := by
  have a := c_i2b d
  exact Int32.toInt_inj.mp (by omega)
theorem own_i2c (d : Int32) (h0 : 0 ≤ d.toInt) (h1 : d.toInt < 128) : d.toUInt32.toUInt16.toUInt32.toInt32 = d := by
  have a := c_i2c d
  exact Int32.toInt_inj.mp (by omega)
theorem own_shr0 (x : Int32) : (x >>> ((0 : Int32) &&& 31)) = x := by
  have a := c_ishr x 0 0 (by decide)
  simp only [Nat.reducePow] at a
  exact Int32.toInt_inj.mp (by omega)
theorem own_lt (a b : Int32) : a < b ↔ a.toInt < b.toInt := Int32.lt_iff_toInt_lt
theorem own_nat (j : Int32) (h : 0 ≤ j.toInt) : (j.toNatClampNeg : Int) = j.toInt := by
  simp only [Int32.toNatClampNeg]; omega
/-! bundles: a writer's fields and its buffer; a String -/
def own_W (Z : State) (h : Heap) (ra rb rd : Addr) (kb : ClassId) (vst ven : Int32) (bs : List Int32) : Prop := Exa Z h ra "com/example/sealwright/sealwright/io/XmlWriter" ∧ Fld Z h ra "com/example/sealwright/sealwright/io/XmlWriter" "bytes" "[B" (.ref rb) ∧ Fld Z h ra "com/example/sealwright/sealwright/io/XmlWriter" "start" "I" (.int vst) ∧ Fld Z h ra "com/example/sealwright/sealwright/io/XmlWriter" "end" "I" (.int ven) ∧ Fld Z h ra "com/example/sealwright/sealwright/io/XmlWriter" "open" "Ljava/util/Deque;" (.ref rd) ∧ Arv Z h rb kb .byte (1024 : Int32) (bs.map Value.int) (.int (0 : Int32))
def own_S (Z : State) (h : Heap) (sa sb : Addr) (ks : ClassId) (nn : Int32) (ds : List Int32) : Prop := Exa Z h sa "java/lang/String" ∧ Fld Z h sa "java/lang/String" "coder" "B" (.int (0 : Int32)) ∧ Fld Z h sa "java/lang/String" "value" "[B" (.ref sb) ∧ Arv Z h sb ks .byte nn (ds.map Value.int) (.int (0 : Int32))
/-- the empty deque -/
def own_Q (Z : State) (h : Heap) (rd re : Addr) (ke : ClassId) : Prop := Exa Z h rd "java/util/ArrayDeque" ∧ Fld Z h rd "java/util/ArrayDeque" "elements" "[Ljava/lang/Object;" (.ref re) ∧ Fld Z h rd "java/util/ArrayDeque" "tail" "I" (.int (0 : Int32)) ∧ Fld Z h rd "java/util/ArrayDeque" "head" "I" (.int (0 : Int32)) ∧ Arv Z h re ke (.object "java/lang/Object") (17 : Int32) [] .null
def own_s (vst ven z : Int32) : Int32 := if (vst + z) = ven then 0 else vst + z
def own_e (vst ven z : Int32) : Int32 := if (vst + z) = ven then 0 else ven
theorem own_sel {a0 : Array Value} {Z : State} {y : MethodName} {n : Nat} (hins : (Jvm.Cond.instantiable y.cls n).before a0 Z = true) (hpriv : (Jvm.Cond.privateMethod y).before a0 Z = true) (hinst : (Jvm.Cond.instanceMethod y).before a0 Z = true) (hy : y.cls ≠ "java/lang/invoke/MethodHandle" ∧ y.cls ≠ "java/lang/invoke/VarHandle") : (Jvm.Cond.selects y.cls y y).before a0 Z = true := by
  obtain ⟨c, k, hc, hk, -, hniab, -, -⟩ := Cond.instantiable_spec hins
  exact selects_self_of_private hc hk (Bool.or_eq_false_iff.mp hniab).1 (Cond.privateMethod_at hpriv) hinst hy
theorem pn_0 : plainName "java/lang/String" = true := by first | (simp [plainName, overriddenIn]; done) | decide +kernel
theorem d_jdk_42_method_152_code_0 : decode jdk_42_method_152_code 0 = .ok (.getstatic 38, 3) := by decide +kernel
theorem d_jdk_42_method_152_code_3 : decode jdk_42_method_152_code 3 = .ok (.ifCond .eq 10, 3) := by decide +kernel
theorem d_jdk_42_method_152_code_6 : decode jdk_42_method_152_code 6 = .ok (.aload_n 0, 1) := by decide +kernel
theorem d_jdk_42_method_152_code_7 : decode jdk_42_method_152_code 7 = .ok (.getfield 15, 3) := by decide +kernel
theorem d_jdk_42_method_152_code_10 : decode jdk_42_method_152_code 10 = .ok (.goto 4, 3) := by decide +kernel
theorem d_jdk_42_method_152_code_14 : decode jdk_42_method_152_code 14 = .ok (.ireturn, 1) := by decide +kernel
theorem ef_coder (m : MethodId) (ra : Addr) : entryFrame m #[(.ref ra)] 1 = mkF m 0 #[.val (.ref ra)] [] := by first | (simp [entryFrame, mkF, argsToLocals, Value.category]; done) | rfl
def Q_coder (Z : State) (ra : Addr) (h0 : Heap) (n0 : Nat) (v : Option Value) (h : Heap) (L : List Loc) : Prop := (∃ z : Int32, v = some (.int z) ∧ (z = 0)) ∧ Fr n0 L ∧ h = h0
set_option maxRecDepth 65536 in
set_option maxHeartbeats 40000000 in
theorem rm_coder (l : Launch) (Z : State) (a0 : Array Value) (hw : ∀ d ∈ tables_1, d.before a0 Z = true) (ws : List Jvm.Cond) (ra : Addr) (h0 : Heap) (n0 : Nat) (Z0 : n0 ≤ h0.size) (G : own_G Z n0 h0) (Fc : Fld Z h0 ra "java/lang/String" "coder" "B" (.int (0 : Int32))) :
    MetFree l (⟨"java/lang/String", "coder", "()B"⟩ : MethodName) (head1 (Jvm.Cond.code (⟨"java/lang/String", "coder", "()B"⟩ : MethodName) jdk_42_method_152_code 1 (some .byte) :: ws) ({ frames := 0, cells := 0, slots := 0, locals := 0 } : Room)) (fun a U => a = #[(.ref ra)] ∧ Z.Warmed39 U.vm ∧ U.heap = h0) (fun _ _ _ _ _ => True) (fun _ U o U' => ∃ v L, o = .returned v ∧ Q_coder Z ra h0 n0 v U'.heap L ∧ FrameEnd U o U' L ({ frames := 0, cells := 0, slots := 0, locals := 0 } : Room).cells ({ frames := 0, cells := 0, slots := 0, locals := 0 } : Room).slots) := by
  refine MetFree.of_bodySF (plainFor_of_name pn_0) hisR ?_
  intro p e s m args below meth c s₁ Bd hml0 hP hK
  obtain ⟨rfl, hZ, hh⟩ := hP
  have hx := Bd.exec
  have hby := Bd.bytes
  have hml : c.maxLocals = 1 := hml0
  have hown : s.vm.findClass "java/lang/String" = some m.cls := findClass_of_methodNamed Bd.named
  have hnm := (name_of_methodNamed Bd.named Bd.method).1
  have X0 : Stand p l e ({ frames := 0, cells := 0, slots := 0, locals := 0 } : Room) s m #[(.ref ra)] below meth c s₁ [] 0 0 := Stand.of_body Bd
  have e0 : s₁.heap = h0 := by rw [← hh, Bd.state]; rfl
  have N0 := Fr.nil n0
  have pre0 : ∀ t, Steps p.tables e below (s₁.setTop (mkF m 0 #[.val (.ref ra)] [])) t → Steps p.tables e below (s₁.setTop (entryFrame m #[(.ref ra)] 1)) t := fun t k => castTop (ef_coder m ra) k
  obtain ⟨⟨_, Ol⟩, ⟨cs, hcs, SC⟩, wv, hwv, SP⟩ := id G
  obtain ⟨T1, X1, e1, st1⟩ := getS2 X0 hx hZ hown (host := "") (Or.inl (hw _ (List.mem_of_getElem? (i := 55) rfl))) Via.refl e0 (SC.ext Ol) (g := (mkF m 0 #[.val (.ref ra)] [])) rfl (hb hby d_jdk_42_method_152_code_0)
  obtain ⟨T2, X2, e2, st2⟩ := getF X1 hx hZ hown (host := "") (Or.inl (hw _ (List.mem_of_getElem? (i := 56) rfl))) Via.refl e1 Fc (g := (mkF m 7 #[.val (.ref ra)] [(.ref ra)])) rfl rfl (hb hby d_jdk_42_method_152_code_7)
  obtain ⟨fs, hr, hrun, hended, hW, hsame⟩ := X2.leave (v := some (.int (0 : Int32))) (fun h => by rw [Bd.returns] at h; cases h)
  refine ⟨_, _, pre0 _ ?_, hrun, hended, _, _, rfl, ?_, ⟨_, rfl⟩, hW, hsame.mono (by decide) (by decide)⟩
  · show Steps p.tables e below (s₁.setTop (mkF m 0 #[.val (.ref ra)] [])) _
    refine st1 _ ?_
    show Steps p.tables e below (T1.setTop (mkF m 3 #[.val (.ref ra)] [(.int cs)])) _
    refine XS.ifNo X1.here hx rfl (hb hby d_jdk_42_method_152_code_3) rfl ((if0 _ _).trans (feq (hcs : ¬ (cs = (0 : Int32)))).1) ?_
    show Steps p.tables e below (T1.setTop (mkF m 6 #[.val (.ref ra)] [])) _
    refine XS.aloadN X1.here hx rfl (hb hby d_jdk_42_method_152_code_6) rfl rfl ?_
    show Steps p.tables e below (T1.setTop (mkF m 7 #[.val (.ref ra)] [(.ref ra)])) _
    refine st2 _ ?_
    show Steps p.tables e below (T2.setTop (mkF m 10 #[.val (.ref ra)] [(.int (0 : Int32))])) _
    refine XS.goto X2.here hx rfl (pc0 := 10) (pc' := 14) rfl (hb hby d_jdk_42_method_152_code_10) (by decide) (by decide) ?_
    show Steps p.tables e below (T2.setTop (mkF m 14 #[.val (.ref ra)] [(.int (0 : Int32))])) _
    exact retN X2 hx (t := .byte) Bd.returns (by simp) (hb hby d_jdk_42_method_152_code_14) hr
  · show Q_coder Z ra h0 n0 _ T2.heap _
    rw [e2]
    exact ⟨⟨_, rfl, rfl⟩, N0, rfl⟩
theorem d_jdk_42_method_154_code_0 : decode jdk_42_method_154_code 0 = .ok (.getstatic 38, 3) := by decide +kernel
theorem d_jdk_42_method_154_code_3 : decode jdk_42_method_154_code 3 = .ok (.ifCond .eq 14, 3) := by decide +kernel
theorem d_jdk_42_method_154_code_6 : decode jdk_42_method_154_code 6 = .ok (.aload_n 0, 1) := by decide +kernel
theorem d_jdk_42_method_154_code_7 : decode jdk_42_method_154_code 7 = .ok (.getfield 15, 3) := by decide +kernel
theorem d_jdk_42_method_154_code_10 : decode jdk_42_method_154_code 10 = .ok (.ifCond .ne 7, 3) := by decide +kernel
theorem d_jdk_42_method_154_code_13 : decode jdk_42_method_154_code 13 = .ok (.iconst 1, 1) := by decide +kernel
theorem d_jdk_42_method_154_code_14 : decode jdk_42_method_154_code 14 = .ok (.goto 4, 3) := by decide +kernel
theorem d_jdk_42_method_154_code_18 : decode jdk_42_method_154_code 18 = .ok (.ireturn, 1) := by decide +kernel
theorem ef_isl (m : MethodId) (ra : Addr) : entryFrame m #[(.ref ra)] 1 = mkF m 0 #[.val (.ref ra)] [] := by first | (simp [entryFrame, mkF, argsToLocals, Value.category]; done) | rfl
def Q_isl (Z : State) (ra : Addr) (h0 : Heap) (n0 : Nat) (v : Option Value) (h : Heap) (L : List Loc) : Prop := (∃ z : Int32, v = some (.int z) ∧ (z = 1)) ∧ Fr n0 L ∧ h = h0
set_option maxRecDepth 65536 in
set_option maxHeartbeats 40000000 in
theorem rm_isl (l : Launch) (Z : State) (a0 : Array Value) (hw : ∀ d ∈ tables_1, d.before a0 Z = true) (ws : List Jvm.Cond) (ra : Addr) (h0 : Heap) (n0 : Nat) (Z0 : n0 ≤ h0.size) (G : own_G Z n0 h0) (Fc : Fld Z h0 ra "java/lang/String" "coder" "B" (.int (0 : Int32))) :
    MetFree l (⟨"java/lang/String", "isLatin1", "()Z"⟩ : MethodName) (head1 (Jvm.Cond.code (⟨"java/lang/String", "isLatin1", "()Z"⟩ : MethodName) jdk_42_method_154_code 1 (some .boolean) :: ws) ({ frames := 0, cells := 0, slots := 0, locals := 0 } : Room)) (fun a U => a = #[(.ref ra)] ∧ Z.Warmed39 U.vm ∧ U.heap = h0) (fun _ _ _ _ _ => True) (fun _ U o U' => ∃ v L, o = .returned v ∧ Q_isl Z ra h0 n0 v U'.heap L ∧ FrameEnd U o U' L ({ frames := 0, cells := 0, slots := 0, locals := 0 } : Room).cells ({ frames := 0, cells := 0, slots := 0, locals := 0 } : Room).slots) := by
  refine MetFree.of_bodySF (plainFor_of_name pn_0) hisR ?_
  intro p e s m args below meth c s₁ Bd hml0 hP hK
  obtain ⟨rfl, hZ, hh⟩ := hP
  have hx := Bd.exec
  have hby := Bd.bytes
  have hml : c.maxLocals = 1 := hml0
  have hown : s.vm.findClass "java/lang/String" = some m.cls := findClass_of_methodNamed Bd.named
  have hnm := (name_of_methodNamed Bd.named Bd.method).1
  have X0 : Stand p l e ({ frames := 0, cells := 0, slots := 0, locals := 0 } : Room) s m #[(.ref ra)] below meth c s₁ [] 0 0 := Stand.of_body Bd
  have e0 : s₁.heap = h0 := by rw [← hh, Bd.state]; rfl
  have N0 := Fr.nil n0
  have pre0 : ∀ t, Steps p.tables e below (s₁.setTop (mkF m 0 #[.val (.ref ra)] [])) t → Steps p.tables e below (s₁.setTop (entryFrame m #[(.ref ra)] 1)) t := fun t k => castTop (ef_isl m ra) k
  obtain ⟨⟨_, Ol⟩, ⟨cs, hcs, SC⟩, wv, hwv, SP⟩ := id G
  obtain ⟨T3, X3, e3, st3⟩ := getS2 X0 hx hZ hown (host := "") (Or.inl (hw _ (List.mem_of_getElem? (i := 55) rfl))) Via.refl e0 (SC.ext Ol) (g := (mkF m 0 #[.val (.ref ra)] [])) rfl (hb hby d_jdk_42_method_154_code_0)
  obtain ⟨T4, X4, e4, st4⟩ := getF X3 hx hZ hown (host := "") (Or.inl (hw _ (List.mem_of_getElem? (i := 56) rfl))) Via.refl e3 Fc (g := (mkF m 7 #[.val (.ref ra)] [(.ref ra)])) rfl rfl (hb hby d_jdk_42_method_154_code_7)
  obtain ⟨fs, hr, hrun, hended, hW, hsame⟩ := X4.leave (v := some (.int (1 : Int32))) (fun h => by rw [Bd.returns] at h; cases h)
  refine ⟨_, _, pre0 _ ?_, hrun, hended, _, _, rfl, ?_, ⟨_, rfl⟩, hW, hsame.mono (by decide) (by decide)⟩
  · show Steps p.tables e below (s₁.setTop (mkF m 0 #[.val (.ref ra)] [])) _
    refine st3 _ ?_
    show Steps p.tables e below (T3.setTop (mkF m 3 #[.val (.ref ra)] [(.int cs)])) _
    refine XS.ifNo X3.here hx rfl (hb hby d_jdk_42_method_154_code_3) rfl ((if0 _ _).trans (feq (hcs : ¬ (cs = (0 : Int32)))).1) ?_
    show Steps p.tables e below (T3.setTop (mkF m 6 #[.val (.ref ra)] [])) _
    refine XS.aloadN X3.here hx rfl (hb hby d_jdk_42_method_154_code_6) rfl rfl ?_
    show Steps p.tables e below (T3.setTop (mkF m 7 #[.val (.ref ra)] [(.ref ra)])) _
    refine st4 _ ?_
    show Steps p.tables e below (T4.setTop (mkF m 10 #[.val (.ref ra)] [(.int (0 : Int32))])) _
    refine XS.ifNo X4.here hx rfl (hb hby d_jdk_42_method_154_code_10) rfl ((if0 _ _).trans (teq (by decide : (0 : Int32) = (0 : Int32))).2) ?_
    show Steps p.tables e below (T4.setTop (mkF m 13 #[.val (.ref ra)] [])) _
    refine XS.iconst X4.here hx rfl (hb hby d_jdk_42_method_154_code_13) ?_
    show Steps p.tables e below (T4.setTop (mkF m 14 #[.val (.ref ra)] [(.int (1 : Int32))])) _
    refine XS.goto X4.here hx rfl (pc0 := 14) (pc' := 18) rfl (hb hby d_jdk_42_method_154_code_14) (by decide) (by decide) ?_
    show Steps p.tables e below (T4.setTop (mkF m 18 #[.val (.ref ra)] [(.int (1 : Int32))])) _
    exact retN X4 hx (t := .boolean) Bd.returns (by simp) (hb hby d_jdk_42_method_154_code_18) hr
  · show Q_isl Z ra h0 n0 _ T4.heap _
    rw [e4]
    exact ⟨⟨_, rfl, rfl⟩, N0, rfl⟩
theorem d_jdk_42_method_54_code_0 : decode jdk_42_method_54_code 0 = .ok (.aload_n 0, 1) := by decide +kernel
theorem d_jdk_42_method_54_code_1 : decode jdk_42_method_54_code 1 = .ok (.getfield 9, 3) := by decide +kernel
theorem d_jdk_42_method_54_code_4 : decode jdk_42_method_54_code 4 = .ok (.arraylength, 1) := by decide +kernel
theorem d_jdk_42_method_54_code_5 : decode jdk_42_method_54_code 5 = .ok (.aload_n 0, 1) := by decide +kernel
theorem d_jdk_42_method_54_code_6 : decode jdk_42_method_54_code 6 = .ok (.invokevirtual 335, 3) := by decide +kernel
theorem pd_0 : parseMethodDescriptor "()B" = some ⟨[], some .byte⟩ := by decide +kernel
theorem d_jdk_42_method_54_code_9 : decode jdk_42_method_54_code 9 = .ok (.ishr, 1) := by decide +kernel
theorem d_jdk_42_method_54_code_10 : decode jdk_42_method_54_code 10 = .ok (.ireturn, 1) := by decide +kernel
theorem ef_len (m : MethodId) (ra : Addr) : entryFrame m #[(.ref ra)] 1 = mkF m 0 #[.val (.ref ra)] [] := by first | (simp [entryFrame, mkF, argsToLocals, Value.category]; done) | rfl
def Q_len (Z : State) (ra : Addr) (sb : Addr) (ks : ClassId) (nn : Int32) (ds : List Int32) (h0 : Heap) (n0 : Nat) (v : Option Value) (h : Heap) (L : List Loc) : Prop := (∃ z : Int32, v = some (.int z) ∧ (z = nn)) ∧ Fr n0 L ∧ h = h0
set_option maxRecDepth 65536 in
set_option maxHeartbeats 40000000 in
theorem rm_len (l : Launch) (Z : State) (a0 : Array Value) (hw : ∀ d ∈ tables_1, d.before a0 Z = true) (ws : List Jvm.Cond) (ra : Addr) (sb : Addr) (ks : ClassId) (nn : Int32) (ds : List Int32) (h0 : Heap) (n0 : Nat) (Z0 : n0 ≤ h0.size) (G : own_G Z n0 h0) (Sr : own_S Z h0 ra sb ks nn ds) :
    MetFree l (⟨"java/lang/String", "length", "()I"⟩ : MethodName) (head1 (Jvm.Cond.code (⟨"java/lang/String", "length", "()I"⟩ : MethodName) jdk_42_method_54_code 1 (some .int) :: ws) ({ frames := 1, cells := 0, slots := 0, locals := 13 } : Room)) (fun a U => a = #[(.ref ra)] ∧ Z.Warmed39 U.vm ∧ U.heap = h0) (fun _ _ _ _ _ => True) (fun _ U o U' => ∃ v L, o = .returned v ∧ Q_len Z ra sb ks nn ds h0 n0 v U'.heap L ∧ FrameEnd U o U' L ({ frames := 1, cells := 0, slots := 0, locals := 13 } : Room).cells ({ frames := 1, cells := 0, slots := 0, locals := 13 } : Room).slots) := by
  refine MetFree.of_bodySF (plainFor_of_name pn_0) hisR ?_
  intro p e s m args below meth c s₁ Bd hml0 hP hK
  obtain ⟨rfl, hZ, hh⟩ := hP
  have hx := Bd.exec
  have hby := Bd.bytes
  have hml : c.maxLocals = 1 := hml0
  have hown : s.vm.findClass "java/lang/String" = some m.cls := findClass_of_methodNamed Bd.named
  have hnm := (name_of_methodNamed Bd.named Bd.method).1
  have X0 : Stand p l e ({ frames := 1, cells := 0, slots := 0, locals := 13 } : Room) s m #[(.ref ra)] below meth c s₁ [] 0 0 := Stand.of_body Bd
  have e0 : s₁.heap = h0 := by rw [← hh, Bd.state]; rfl
  have N0 := Fr.nil n0
  have pre0 : ∀ t, Steps p.tables e below (s₁.setTop (mkF m 0 #[.val (.ref ra)] [])) t → Steps p.tables e below (s₁.setTop (entryFrame m #[(.ref ra)] 1)) t := fun t k => castTop (ef_len m ra) k
  obtain ⟨Es, Fc, Fv, As⟩ := id Sr
  obtain ⟨T5, X5, e5, st5⟩ := getF X0 hx hZ hown (host := "") (Or.inl (hw _ (List.mem_of_getElem? (i := 49) rfl))) Via.refl e0 Fv (g := (mkF m 1 #[.val (.ref ra)] [(.ref ra)])) rfl rfl (hb hby d_jdk_42_method_54_code_1)
  obtain ⟨cl6, Ar6, -, S6, N6a, -, -⟩ := id As
  obtain ⟨cq7, kq7, q7a, q7b, q7c⟩ := isOf hZ e5 Es
  obtain ⟨_, _, ⟨T7, L7, k7, n7⟩, -, X7, ⟨Lc7, hQ7, l7, y7, z7⟩, st7⟩ := X5.virtualBack hx (y := (⟨"java/lang/String", "coder", "()B"⟩ : MethodName)) (z := (⟨"java/lang/String", "coder", "()B"⟩ : MethodName)) hown (mvT hZ (hw _ (List.mem_of_getElem? (i := 50) rfl))) (mvT hZ (hw _ (List.mem_of_getElem? (i := 51) rfl))) (notFace_of_selects (args := #[]) (mvT hZ (hw _ (List.mem_of_getElem? (i := 53) rfl)))) (mvT hZ (hw _ (List.mem_of_getElem? (i := 53) rfl))) (mvT hZ (hw _ (List.mem_of_getElem? (i := 52) rfl))) (by decide) (backOf (W := 1) (rm_coder l Z a0 hw [] ra h0 n0 Z0 G Fc) hZ (hw _ (List.mem_of_getElem? (i := 54) rfl)) (hw _ (List.mem_of_getElem? (i := 1) rfl)) (by decide) (by decide)) q7a q7c (g := (mkF m 6 #[.val (.ref ra)] [(.ref ra), (.int nn)])) rfl (by rw [hml]; rfl) (Steps.refl _) (argsL := []) (rest := [(.int nn)]) (lenOf pd_0 rfl) rfl (by show 2 * 0 + _ ≤ _; exact Nat.le_of_eq rfl) (hb hby d_jdk_42_method_54_code_6) (fun _ _ => ⟨rfl, e5, (by decide : 0 + 0 ≤ _), (by decide : 0 + 0 ≤ _)⟩)
  dsimp only [Pt.U, Pt.locs, Pt.cells, Pt.slots] at X7 l7 y7 z7 st7 hQ7
  subst l7 y7 z7
  obtain ⟨⟨r7, rfl, hr7⟩, N7q, e7⟩ := hQ7
  have N7 := Fr.app N0 N7q
  obtain rfl : (0 : Int32) = r7 := hr7.symm
  obtain ⟨fs, hr, hrun, hended, hW, hsame⟩ := X7.leave (v := some (.int (nn >>> ((0 : Int32) &&& 31)))) (fun h => by rw [Bd.returns] at h; cases h)
  refine ⟨_, _, pre0 _ ?_, hrun, hended, _, _, rfl, ?_, ⟨_, rfl⟩, hW, hsame.mono (by decide) (by decide)⟩
  · show Steps p.tables e below (s₁.setTop (mkF m 0 #[.val (.ref ra)] [])) _
    refine XS.aloadN X0.here hx rfl (hb hby d_jdk_42_method_54_code_0) rfl rfl ?_
    show Steps p.tables e below (s₁.setTop (mkF m 1 #[.val (.ref ra)] [(.ref ra)])) _
    refine st5 _ ?_
    show Steps p.tables e below (T5.setTop (mkF m 4 #[.val (.ref ra)] [(.ref sb)])) _
    refine X5.arraylength hx (by rw [e5]; exact Ar6.1) (State.isArrayOf_alike hZ.alike Ar6.2.1) (g := (mkF m 4 #[.val (.ref ra)] [(.ref sb)])) rfl rfl (hb hby d_jdk_42_method_54_code_4) _ ?_
    rw [len_of S6 N6a]
    show Steps p.tables e below (T5.setTop (mkF m 5 #[.val (.ref ra)] [(.int nn)])) _
    refine XS.aloadN X5.here hx rfl (hb hby d_jdk_42_method_54_code_5) rfl rfl ?_
    show Steps p.tables e below (T5.setTop (mkF m 6 #[.val (.ref ra)] [(.ref ra), (.int nn)])) _
    refine st7.trans ?_
    show Steps p.tables e below (T7.setTop (mkF m 9 #[.val (.ref ra)] [(.int (0 : Int32)), (.int nn)])) _
    refine XS.ishr X7.here hx rfl (hb hby d_jdk_42_method_54_code_9) rfl ?_
    show Steps p.tables e below (T7.setTop (mkF m 10 #[.val (.ref ra)] [(.int (nn >>> ((0 : Int32) &&& 31)))])) _
    exact retI X7 hx Bd.returns (hb hby d_jdk_42_method_54_code_10) hr
  · show Q_len Z ra sb ks nn ds h0 n0 _ T7.heap _
    rw [e7]
    exact ⟨⟨_, rfl, own_shr0 nn⟩, N7, rfl⟩
theorem pn_1 : plainName "jdk/internal/util/Preconditions" = true := by first | (simp [plainName, overriddenIn]; done) | decide +kernel
theorem d_jdk_41_method_11_code_0 : decode jdk_41_method_11_code 0 = .ok (.iload_n 0, 1) := by decide +kernel
theorem d_jdk_41_method_11_code_1 : decode jdk_41_method_11_code 1 = .ok (.ifCond .lt 8, 3) := by decide +kernel
theorem d_jdk_41_method_11_code_4 : decode jdk_41_method_11_code 4 = .ok (.iload_n 0, 1) := by decide +kernel
theorem d_jdk_41_method_11_code_5 : decode jdk_41_method_11_code 5 = .ok (.iload_n 1, 1) := by decide +kernel
theorem d_jdk_41_method_11_code_6 : decode jdk_41_method_11_code 6 = .ok (.if_icmp .lt 10, 3) := by decide +kernel
theorem d_jdk_41_method_11_code_16 : decode jdk_41_method_11_code 16 = .ok (.iload_n 0, 1) := by decide +kernel
theorem d_jdk_41_method_11_code_17 : decode jdk_41_method_11_code 17 = .ok (.ireturn, 1) := by decide +kernel
theorem ef_pcn (m : MethodId) (vi : Int32) (vn : Int32) : entryFrame m #[(.int vi), (.int vn), .null] 3 = mkF m 0 #[.val (.int vi), .val (.int vn), .val .null] [] := by first | (simp [entryFrame, mkF, argsToLocals, Value.category]; done) | rfl
def Q_pcn (Z : State) (vi : Int32) (vn : Int32) (h0 : Heap) (n0 : Nat) (v : Option Value) (h : Heap) (L : List Loc) : Prop := (∃ z : Int32, v = some (.int z) ∧ (True)) ∧ Fr n0 L ∧ h = h0
set_option maxRecDepth 65536 in
set_option maxHeartbeats 40000000 in
theorem rm_pcn (l : Launch) (Z : State) (a0 : Array Value) (hw : ∀ d ∈ tables_1, d.before a0 Z = true) (ws : List Jvm.Cond) (vi : Int32) (vn : Int32) (h0 : Heap) (n0 : Nat) (Z0 : n0 ≤ h0.size) (hi : ¬ vi < 0 ∧ vi < vn) :
    MetFree l (⟨"jdk/internal/util/Preconditions", "checkIndex", "(IILjava/util/function/BiFunction;)I"⟩ : MethodName) (head1 (Jvm.Cond.code (⟨"jdk/internal/util/Preconditions", "checkIndex", "(IILjava/util/function/BiFunction;)I"⟩ : MethodName) jdk_41_method_11_code 3 (some .int) :: ws) ({ frames := 0, cells := 0, slots := 0, locals := 0 } : Room)) (fun a U => a = #[(.int vi), (.int vn), .null] ∧ Z.Warmed39 U.vm ∧ U.heap = h0) (fun _ _ _ _ _ => True) (fun _ U o U' => ∃ v L, o = .returned v ∧ Q_pcn Z vi vn h0 n0 v U'.heap L ∧ FrameEnd U o U' L ({ frames := 0, cells := 0, slots := 0, locals := 0 } : Room).cells ({ frames := 0, cells := 0, slots := 0, locals := 0 } : Room).slots) := by
  refine MetFree.of_bodySF (plainFor_of_name pn_1) hisR ?_
  intro p e s m args below meth c s₁ Bd hml0 hP hK
  obtain ⟨rfl, hZ, hh⟩ := hP
  have hx := Bd.exec
  have hby := Bd.bytes
  have hml : c.maxLocals = 3 := hml0
  have hown : s.vm.findClass "jdk/internal/util/Preconditions" = some m.cls := findClass_of_methodNamed Bd.named
  have hnm := (name_of_methodNamed Bd.named Bd.method).1
  have X0 : Stand p l e ({ frames := 0, cells := 0, slots := 0, locals := 0 } : Room) s m #[(.int vi), (.int vn), .null] below meth c s₁ [] 0 0 := Stand.of_body Bd
  have e0 : s₁.heap = h0 := by rw [← hh, Bd.state]; rfl
  have N0 := Fr.nil n0
  have pre0 : ∀ t, Steps p.tables e below (s₁.setTop (mkF m 0 #[.val (.int vi), .val (.int vn), .val .null] [])) t → Steps p.tables e below (s₁.setTop (entryFrame m #[(.int vi), (.int vn), .null] 3)) t := fun t k => castTop (ef_pcn m vi vn) k
  obtain ⟨fs, hr, hrun, hended, hW, hsame⟩ := X0.leave (v := some (.int vi)) (fun h => by rw [Bd.returns] at h; cases h)
  refine ⟨_, _, pre0 _ ?_, hrun, hended, _, _, rfl, ?_, ⟨_, rfl⟩, hW, hsame.mono (by decide) (by decide)⟩
  · show Steps p.tables e below (s₁.setTop (mkF m 0 #[.val (.int vi), .val (.int vn), .val .null] [])) _
    refine XS.iloadN X0.here hx rfl (hb hby d_jdk_41_method_11_code_0) rfl ?_
    show Steps p.tables e below (s₁.setTop (mkF m 1 #[.val (.int vi), .val (.int vn), .val .null] [(.int vi)])) _
    refine XS.ifNo X0.here hx rfl (hb hby d_jdk_41_method_11_code_1) rfl ((if0 _ _).trans (flt (hi.1 : ¬ (vi < (0 : Int32)))).1) ?_
    show Steps p.tables e below (s₁.setTop (mkF m 4 #[.val (.int vi), .val (.int vn), .val .null] [])) _
    refine XS.iloadN X0.here hx rfl (hb hby d_jdk_41_method_11_code_4) rfl ?_
    show Steps p.tables e below (s₁.setTop (mkF m 5 #[.val (.int vi), .val (.int vn), .val .null] [(.int vi)])) _
    refine XS.iloadN X0.here hx rfl (hb hby d_jdk_41_method_11_code_5) rfl ?_
    show Steps p.tables e below (s₁.setTop (mkF m 6 #[.val (.int vi), .val (.int vn), .val .null] [(.int vn), (.int vi)])) _
    refine XS.icmpYes X0.here hx rfl (pc0 := 6) (pc' := 16) rfl (hb hby d_jdk_41_method_11_code_6) rfl (tlt (hi.2 : vi < vn)).1 (by decide) (by decide) ?_
    show Steps p.tables e below (s₁.setTop (mkF m 16 #[.val (.int vi), .val (.int vn), .val .null] [])) _
    refine XS.iloadN X0.here hx rfl (hb hby d_jdk_41_method_11_code_16) rfl ?_
    show Steps p.tables e below (s₁.setTop (mkF m 17 #[.val (.int vi), .val (.int vn), .val .null] [(.int vi)])) _
    exact retI X0 hx Bd.returns (hb hby d_jdk_41_method_11_code_17) hr
  · show Q_pcn Z vi vn h0 n0 _ s₁.heap _
    rw [e0]
    exact ⟨⟨_, rfl, trivial⟩, N0, rfl⟩
theorem ef_pcr (m : MethodId) (vi : Int32) (vn : Int32) (rz : Addr) : entryFrame m #[(.int vi), (.int vn), (.ref rz)] 3 = mkF m 0 #[.val (.int vi), .val (.int vn), .val (.ref rz)] [] := by first | (simp [entryFrame, mkF, argsToLocals, Value.category]; done) | rfl
def Q_pcr (Z : State) (vi : Int32) (vn : Int32) (rz : Addr) (h0 : Heap) (n0 : Nat) (v : Option Value) (h : Heap) (L : List Loc) : Prop := (∃ z : Int32, v = some (.int z) ∧ (True)) ∧ Fr n0 L ∧ h = h0
set_option maxRecDepth 65536 in
set_option maxHeartbeats 40000000 in
theorem rm_pcr (l : Launch) (Z : State) (a0 : Array Value) (hw : ∀ d ∈ tables_1, d.before a0 Z = true) (ws : List Jvm.Cond) (vi : Int32) (vn : Int32) (rz : Addr) (h0 : Heap) (n0 : Nat) (Z0 : n0 ≤ h0.size) (hi : ¬ vi < 0 ∧ vi < vn) :
    MetFree l (⟨"jdk/internal/util/Preconditions", "checkIndex", "(IILjava/util/function/BiFunction;)I"⟩ : MethodName) (head1 (Jvm.Cond.code (⟨"jdk/internal/util/Preconditions", "checkIndex", "(IILjava/util/function/BiFunction;)I"⟩ : MethodName) jdk_41_method_11_code 3 (some .int) :: ws) ({ frames := 0, cells := 0, slots := 0, locals := 0 } : Room)) (fun a U => a = #[(.int vi), (.int vn), (.ref rz)] ∧ Z.Warmed39 U.vm ∧ U.heap = h0) (fun _ _ _ _ _ => True) (fun _ U o U' => ∃ v L, o = .returned v ∧ Q_pcr Z vi vn rz h0 n0 v U'.heap L ∧ FrameEnd U o U' L ({ frames := 0, cells := 0, slots := 0, locals := 0 } : Room).cells ({ frames := 0, cells := 0, slots := 0, locals := 0 } : Room).slots) := by
  refine MetFree.of_bodySF (plainFor_of_name pn_1) hisR ?_
  intro p e s m args below meth c s₁ Bd hml0 hP hK
  obtain ⟨rfl, hZ, hh⟩ := hP
  have hx := Bd.exec
  have hby := Bd.bytes
  have hml : c.maxLocals = 3 := hml0
  have hown : s.vm.findClass "jdk/internal/util/Preconditions" = some m.cls := findClass_of_methodNamed Bd.named
  have hnm := (name_of_methodNamed Bd.named Bd.method).1
  have X0 : Stand p l e ({ frames := 0, cells := 0, slots := 0, locals := 0 } : Room) s m #[(.int vi), (.int vn), (.ref rz)] below meth c s₁ [] 0 0 := Stand.of_body Bd
  have e0 : s₁.heap = h0 := by rw [← hh, Bd.state]; rfl
  have N0 := Fr.nil n0
  have pre0 : ∀ t, Steps p.tables e below (s₁.setTop (mkF m 0 #[.val (.int vi), .val (.int vn), .val (.ref rz)] [])) t → Steps p.tables e below (s₁.setTop (entryFrame m #[(.int vi), (.int vn), (.ref rz)] 3)) t := fun t k => castTop (ef_pcr m vi vn rz) k
  obtain ⟨fs, hr, hrun, hended, hW, hsame⟩ := X0.leave (v := some (.int vi)) (fun h => by rw [Bd.returns] at h; cases h)
  refine ⟨_, _, pre0 _ ?_, hrun, hended, _, _, rfl, ?_, ⟨_, rfl⟩, hW, hsame.mono (by decide) (by decide)⟩
  · show Steps p.tables e below (s₁.setTop (mkF m 0 #[.val (.int vi), .val (.int vn), .val (.ref rz)] [])) _
    refine XS.iloadN X0.here hx rfl (hb hby d_jdk_41_method_11_code_0) rfl ?_
    show Steps p.tables e below (s₁.setTop (mkF m 1 #[.val (.int vi), .val (.int vn), .val (.ref rz)] [(.int vi)])) _
    refine XS.ifNo X0.here hx rfl (hb hby d_jdk_41_method_11_code_1) rfl ((if0 _ _).trans (flt (hi.1 : ¬ (vi < (0 : Int32)))).1) ?_
    show Steps p.tables e below (s₁.setTop (mkF m 4 #[.val (.int vi), .val (.int vn), .val (.ref rz)] [])) _
    refine XS.iloadN X0.here hx rfl (hb hby d_jdk_41_method_11_code_4) rfl ?_
    show Steps p.tables e below (s₁.setTop (mkF m 5 #[.val (.int vi), .val (.int vn), .val (.ref rz)] [(.int vi)])) _
    refine XS.iloadN X0.here hx rfl (hb hby d_jdk_41_method_11_code_5) rfl ?_
    show Steps p.tables e below (s₁.setTop (mkF m 6 #[.val (.int vi), .val (.int vn), .val (.ref rz)] [(.int vn), (.int vi)])) _
    refine XS.icmpYes X0.here hx rfl (pc0 := 6) (pc' := 16) rfl (hb hby d_jdk_41_method_11_code_6) rfl (tlt (hi.2 : vi < vn)).1 (by decide) (by decide) ?_
    show Steps p.tables e below (s₁.setTop (mkF m 16 #[.val (.int vi), .val (.int vn), .val (.ref rz)] [])) _
    refine XS.iloadN X0.here hx rfl (hb hby d_jdk_41_method_11_code_16) rfl ?_
    show Steps p.tables e below (s₁.setTop (mkF m 17 #[.val (.int vi), .val (.int vn), .val (.ref rz)] [(.int vi)])) _
    exact retI X0 hx Bd.returns (hb hby d_jdk_41_method_11_code_17) hr
  · show Q_pcr Z vi vn rz h0 n0 _ s₁.heap _
    rw [e0]
    exact ⟨⟨_, rfl, trivial⟩, N0, rfl⟩
theorem d_jdk_42_method_155_code_0 : decode jdk_42_method_155_code 0 = .ok (.iload_n 0, 1) := by decide +kernel
theorem d_jdk_42_method_155_code_1 : decode jdk_42_method_155_code 1 = .ok (.iload_n 1, 1) := by decide +kernel
theorem d_jdk_42_method_155_code_2 : decode jdk_42_method_155_code 2 = .ok (.getstatic 1053, 3) := by decide +kernel
theorem d_jdk_42_method_155_code_5 : decode jdk_42_method_155_code 5 = .ok (.invokestatic 1059, 3) := by decide +kernel
theorem pd_1 : parseMethodDescriptor "(IILjava/util/function/BiFunction;)I" = some ⟨[.int, .int, (.object "java/util/function/BiFunction")], some .int⟩ := by decide +kernel
theorem d_jdk_42_method_155_code_8 : decode jdk_42_method_155_code 8 = .ok (.pop, 1) := by decide +kernel
theorem d_jdk_42_method_155_code_9 : decode jdk_42_method_155_code 9 = .ok (.return_, 1) := by decide +kernel
theorem ef_ci (m : MethodId) (vi : Int32) (vn : Int32) : entryFrame m #[(.int vi), (.int vn)] 2 = mkF m 0 #[.val (.int vi), .val (.int vn)] [] := by first | (simp [entryFrame, mkF, argsToLocals, Value.category]; done) | rfl
def Q_ci (Z : State) (vi : Int32) (vn : Int32) (h0 : Heap) (n0 : Nat) (v : Option Value) (h : Heap) (L : List Loc) : Prop := v = none ∧ Fr n0 L ∧ h = h0
set_option maxRecDepth 65536 in
set_option maxHeartbeats 40000000 in
theorem rm_ci (l : Launch) (Z : State) (a0 : Array Value) (hw : ∀ d ∈ tables_1, d.before a0 Z = true) (ws : List Jvm.Cond) (vi : Int32) (vn : Int32) (h0 : Heap) (n0 : Nat) (Z0 : n0 ≤ h0.size) (G : own_G Z n0 h0) (hi : ¬ vi < 0 ∧ vi < vn) :
    MetFree l (⟨"java/lang/String", "checkIndex", "(II)V"⟩ : MethodName) (head1 (Jvm.Cond.code (⟨"java/lang/String", "checkIndex", "(II)V"⟩ : MethodName) jdk_42_method_155_code 2 none :: ws) ({ frames := 1, cells := 0, slots := 0, locals := 14 } : Room)) (fun a U => a = #[(.int vi), (.int vn)] ∧ Z.Warmed39 U.vm ∧ U.heap = h0) (fun _ _ _ _ _ => True) (fun _ U o U' => ∃ v L, o = .returned v ∧ Q_ci Z vi vn h0 n0 v U'.heap L ∧ FrameEnd U o U' L ({ frames := 1, cells := 0, slots := 0, locals := 14 } : Room).cells ({ frames := 1, cells := 0, slots := 0, locals := 14 } : Room).slots) := by
  refine MetFree.of_bodySF (plainFor_of_name pn_0) hisR ?_
  intro p e s m args below meth c s₁ Bd hml0 hP hK
  obtain ⟨rfl, hZ, hh⟩ := hP
  have hx := Bd.exec
  have hby := Bd.bytes
  have hml : c.maxLocals = 2 := hml0
  have hown : s.vm.findClass "java/lang/String" = some m.cls := findClass_of_methodNamed Bd.named
  have hnm := (name_of_methodNamed Bd.named Bd.method).1
  have X0 : Stand p l e ({ frames := 1, cells := 0, slots := 0, locals := 14 } : Room) s m #[(.int vi), (.int vn)] below meth c s₁ [] 0 0 := Stand.of_body Bd
  have e0 : s₁.heap = h0 := by rw [← hh, Bd.state]; rfl
  have N0 := Fr.nil n0
  have pre0 : ∀ t, Steps p.tables e below (s₁.setTop (mkF m 0 #[.val (.int vi), .val (.int vn)] [])) t → Steps p.tables e below (s₁.setTop (entryFrame m #[(.int vi), (.int vn)] 2)) t := fun t k => castTop (ef_ci m vi vn) k
  obtain ⟨⟨_, Ol⟩, ⟨cs, hcs, SC⟩, wv, hwv, SP⟩ := id G
  rcases ref_cases hwv with rfl | ⟨rz, rfl⟩
  · obtain ⟨T8, X8, e8, st8⟩ := getS2 X0 hx hZ hown (host := "") (Or.inl (hw _ (List.mem_of_getElem? (i := 70) rfl))) Via.refl e0 (SP.ext Ol) (g := (mkF m 2 #[.val (.int vi), .val (.int vn)] [(.int vn), (.int vi)])) rfl (hb hby d_jdk_42_method_155_code_2)
    obtain ⟨_, _, ⟨T9, L9, k9, n9⟩, -, X9, ⟨Lc9, hQ9, l9, y9, z9⟩, st9⟩ := Jvm.LawKit.callS X8 hx (y := (⟨"jdk/internal/util/Preconditions", "checkIndex", "(IILjava/util/function/BiFunction;)I"⟩ : MethodName)) hown (mvT hZ (hw _ (List.mem_of_getElem? (i := 72) rfl))) (mvT hZ (hw _ (List.mem_of_getElem? (i := 73) rfl))) (mvT hZ (hw _ (List.mem_of_getElem? (i := 71) rfl))) (mvT hZ (hw _ (List.mem_of_getElem? (i := 74) rfl))) (by decide) (backOf (W := 0) (rm_pcn l Z a0 hw [] vi vn h0 n0 Z0 hi) hZ (hw _ (List.mem_of_getElem? (i := 74) rfl)) (hw _ (List.mem_of_getElem? (i := 71) rfl)) (by decide) (by decide)) (g := (mkF m 5 #[.val (.int vi), .val (.int vn)] [.null, (.int vn), (.int vi)])) rfl (by rw [hml]; rfl) (argsL := [(.int vi), (.int vn), .null]) (rest := []) (lenOf pd_1 rfl) rfl (by show 2 * 0 + _ ≤ _; exact Nat.le_of_eq rfl) (hb hby d_jdk_42_method_155_code_5) (fun _ _ => ⟨rfl, e8, (by decide : 0 + 0 ≤ _), (by decide : 0 + 0 ≤ _)⟩)
    dsimp only [Pt.U, Pt.locs, Pt.cells, Pt.slots] at X9 l9 y9 z9 st9 hQ9
    subst l9 y9 z9
    obtain ⟨⟨r9, rfl, hr9⟩, N9q, e9⟩ := hQ9
    have N9 := Fr.app N0 N9q
    obtain ⟨fs, hr, hrun, hended, hW, hsame⟩ := X9.leave (v := none) (fun _ => rfl)
    refine ⟨_, _, pre0 _ ?_, hrun, hended, _, _, rfl, ?_, ⟨_, rfl⟩, hW, hsame.mono (by decide) (by decide)⟩
    · show Steps p.tables e below (s₁.setTop (mkF m 0 #[.val (.int vi), .val (.int vn)] [])) _
      refine XS.iloadN X0.here hx rfl (hb hby d_jdk_42_method_155_code_0) rfl ?_
      show Steps p.tables e below (s₁.setTop (mkF m 1 #[.val (.int vi), .val (.int vn)] [(.int vi)])) _
      refine XS.iloadN X0.here hx rfl (hb hby d_jdk_42_method_155_code_1) rfl ?_
      show Steps p.tables e below (s₁.setTop (mkF m 2 #[.val (.int vi), .val (.int vn)] [(.int vn), (.int vi)])) _
      refine st8 _ ?_
      show Steps p.tables e below (T8.setTop (mkF m 5 #[.val (.int vi), .val (.int vn)] [.null, (.int vn), (.int vi)])) _
      refine st9 _ ?_
      show Steps p.tables e below (T9.setTop (mkF m 8 #[.val (.int vi), .val (.int vn)] [(.int r9)])) _
      refine XS.pop X9.here hx rfl (hb hby d_jdk_42_method_155_code_8) rfl rfl ?_
      show Steps p.tables e below (T9.setTop (mkF m 9 #[.val (.int vi), .val (.int vn)] [])) _
      exact X9.returnOut hx Bd.returns (hb hby d_jdk_42_method_155_code_9) hr
    · show Q_ci Z vi vn h0 n0 _ T9.heap _
      rw [e9]
      exact ⟨rfl, N9, rfl⟩
  · obtain ⟨T10, X10, e10, st10⟩ := getS2 X0 hx hZ hown (host := "") (Or.inl (hw _ (List.mem_of_getElem? (i := 70) rfl))) Via.refl e0 (SP.ext Ol) (g := (mkF m 2 #[.val (.int vi), .val (.int vn)] [(.int vn), (.int vi)])) rfl (hb hby d_jdk_42_method_155_code_2)
    obtain ⟨_, _, ⟨T11, L11, k11, n11⟩, -, X11, ⟨Lc11, hQ11, l11, y11, z11⟩, st11⟩ := Jvm.LawKit.callS X10 hx (y := (⟨"jdk/internal/util/Preconditions", "checkIndex", "(IILjava/util/function/BiFunction;)I"⟩ : MethodName)) hown (mvT hZ (hw _ (List.mem_of_getElem? (i := 72) rfl))) (mvT hZ (hw _ (List.mem_of_getElem? (i := 73) rfl))) (mvT hZ (hw _ (List.mem_of_getElem? (i := 71) rfl))) (mvT hZ (hw _ (List.mem_of_getElem? (i := 74) rfl))) (by decide) (backOf (W := 0) (rm_pcr l Z a0 hw [] vi vn rz h0 n0 Z0 hi) hZ (hw _ (List.mem_of_getElem? (i := 74) rfl)) (hw _ (List.mem_of_getElem? (i := 71) rfl)) (by decide) (by decide)) (g := (mkF m 5 #[.val (.int vi), .val (.int vn)] [(.ref rz), (.int vn), (.int vi)])) rfl (by rw [hml]; rfl) (argsL := [(.int vi), (.int vn), (.ref rz)]) (rest := []) (lenOf pd_1 rfl) rfl (by show 2 * 0 + _ ≤ _; exact Nat.le_of_eq rfl) (hb hby d_jdk_42_method_155_code_5) (fun _ _ => ⟨rfl, e10, (by decide : 0 + 0 ≤ _), (by decide : 0 + 0 ≤ _)⟩)
    dsimp only [Pt.U, Pt.locs, Pt.cells, Pt.slots] at X11 l11 y11 z11 st11 hQ11
    subst l11 y11 z11
    obtain ⟨⟨r11, rfl, hr11⟩, N11q, e11⟩ := hQ11
    have N11 := Fr.app N0 N11q
    obtain ⟨fs, hr, hrun, hended, hW, hsame⟩ := X11.leave (v := none) (fun _ => rfl)
    refine ⟨_, _, pre0 _ ?_, hrun, hended, _, _, rfl, ?_, ⟨_, rfl⟩, hW, hsame.mono (by decide) (by decide)⟩
    · show Steps p.tables e below (s₁.setTop (mkF m 0 #[.val (.int vi), .val (.int vn)] [])) _
      refine XS.iloadN X0.here hx rfl (hb hby d_jdk_42_method_155_code_0) rfl ?_
      show Steps p.tables e below (s₁.setTop (mkF m 1 #[.val (.int vi), .val (.int vn)] [(.int vi)])) _
      refine XS.iloadN X0.here hx rfl (hb hby d_jdk_42_method_155_code_1) rfl ?_
      show Steps p.tables e below (s₁.setTop (mkF m 2 #[.val (.int vi), .val (.int vn)] [(.int vn), (.int vi)])) _
      refine st10 _ ?_
      show Steps p.tables e below (T10.setTop (mkF m 5 #[.val (.int vi), .val (.int vn)] [(.ref rz), (.int vn), (.int vi)])) _
      refine st11 _ ?_
      show Steps p.tables e below (T11.setTop (mkF m 8 #[.val (.int vi), .val (.int vn)] [(.int r11)])) _
      refine XS.pop X11.here hx rfl (hb hby d_jdk_42_method_155_code_8) rfl rfl ?_
      show Steps p.tables e below (T11.setTop (mkF m 9 #[.val (.int vi), .val (.int vn)] [])) _
      exact X11.returnOut hx Bd.returns (hb hby d_jdk_42_method_155_code_9) hr
    · show Q_ci Z vi vn h0 n0 _ T11.heap _
      rw [e11]
      exact ⟨rfl, N11, rfl⟩
theorem d_jdk_42_method_57_code_0 : decode jdk_42_method_57_code 0 = .ok (.aload_n 0, 1) := by decide +kernel
theorem d_jdk_42_method_57_code_1 : decode jdk_42_method_57_code 1 = .ok (.invokevirtual 492, 3) := by decide +kernel
theorem pd_2 : parseMethodDescriptor "()Z" = some ⟨[], some .boolean⟩ := by decide +kernel
theorem d_jdk_42_method_57_code_4 : decode jdk_42_method_57_code 4 = .ok (.ifCond .eq 23, 3) := by decide +kernel
theorem d_jdk_42_method_57_code_7 : decode jdk_42_method_57_code 7 = .ok (.iload_n 1, 1) := by decide +kernel
theorem d_jdk_42_method_57_code_8 : decode jdk_42_method_57_code 8 = .ok (.aload_n 0, 1) := by decide +kernel
theorem d_jdk_42_method_57_code_9 : decode jdk_42_method_57_code 9 = .ok (.getfield 9, 3) := by decide +kernel
theorem d_jdk_42_method_57_code_12 : decode jdk_42_method_57_code 12 = .ok (.arraylength, 1) := by decide +kernel
theorem d_jdk_42_method_57_code_13 : decode jdk_42_method_57_code 13 = .ok (.invokestatic 499, 3) := by decide +kernel
theorem pd_3 : parseMethodDescriptor "(II)V" = some ⟨[.int, .int], none⟩ := by decide +kernel
theorem d_jdk_42_method_57_code_16 : decode jdk_42_method_57_code 16 = .ok (.aload_n 0, 1) := by decide +kernel
theorem d_jdk_42_method_57_code_17 : decode jdk_42_method_57_code 17 = .ok (.getfield 9, 3) := by decide +kernel
theorem d_jdk_42_method_57_code_20 : decode jdk_42_method_57_code 20 = .ok (.iload_n 1, 1) := by decide +kernel
theorem d_jdk_42_method_57_code_21 : decode jdk_42_method_57_code 21 = .ok (.baload, 1) := by decide +kernel
theorem d_jdk_42_method_57_code_22 : decode jdk_42_method_57_code 22 = .ok (.sipush 255, 3) := by decide +kernel
theorem d_jdk_42_method_57_code_25 : decode jdk_42_method_57_code 25 = .ok (.iand, 1) := by decide +kernel
theorem d_jdk_42_method_57_code_26 : decode jdk_42_method_57_code 26 = .ok (.ireturn, 1) := by decide +kernel
theorem ef_cpa (m : MethodId) (ra : Addr) (vi : Int32) : entryFrame m #[(.ref ra), (.int vi)] 3 = mkF m 0 #[.val (.ref ra), .val (.int vi), .unset] [] := by first | (simp [entryFrame, mkF, argsToLocals, Value.category]; done) | rfl
def Q_cpa (Z : State) (ra : Addr) (vi : Int32) (sb : Addr) (ks : ClassId) (nn : Int32) (ds : List Int32) (h0 : Heap) (n0 : Nat) (v : Option Value) (h : Heap) (L : List Loc) : Prop := (∃ z : Int32, v = some (.int z) ∧ (z = ds.getD vi.toNatClampNeg 0)) ∧ Fr n0 L ∧ h = h0
set_option maxRecDepth 65536 in
set_option maxHeartbeats 40000000 in
theorem rm_cpa (l : Launch) (Z : State) (a0 : Array Value) (hw : ∀ d ∈ tables_1, d.before a0 Z = true) (ws : List Jvm.Cond) (ra : Addr) (vi : Int32) (sb : Addr) (ks : ClassId) (nn : Int32) (ds : List Int32) (h0 : Heap) (n0 : Nat) (Z0 : n0 ≤ h0.size) (G : own_G Z n0 h0) (Sr : own_S Z h0 ra sb ks nn ds) (hi : ¬ vi < 0 ∧ vi < nn) (hds : own_asc ds) :
    MetFree l (⟨"java/lang/String", "codePointAt", "(I)I"⟩ : MethodName) (head1 (Jvm.Cond.code (⟨"java/lang/String", "codePointAt", "(I)I"⟩ : MethodName) jdk_42_method_57_code 3 (some .int) :: ws) ({ frames := 2, cells := 0, slots := 0, locals := 27 } : Room)) (fun a U => a = #[(.ref ra), (.int vi)] ∧ Z.Warmed39 U.vm ∧ U.heap = h0) (fun _ _ _ _ _ => True) (fun _ U o U' => ∃ v L, o = .returned v ∧ Q_cpa Z ra vi sb ks nn ds h0 n0 v U'.heap L ∧ FrameEnd U o U' L ({ frames := 2, cells := 0, slots := 0, locals := 27 } : Room).cells ({ frames := 2, cells := 0, slots := 0, locals := 27 } : Room).slots) := by
  refine MetFree.of_bodySF (plainFor_of_name pn_0) hisR ?_
  intro p e s m args below meth c s₁ Bd hml0 hP hK
  obtain ⟨rfl, hZ, hh⟩ := hP
  have hx := Bd.exec
  have hby := Bd.bytes
  have hml : c.maxLocals = 3 := hml0
  have hown : s.vm.findClass "java/lang/String" = some m.cls := findClass_of_methodNamed Bd.named
  have hnm := (name_of_methodNamed Bd.named Bd.method).1
  have X0 : Stand p l e ({ frames := 2, cells := 0, slots := 0, locals := 27 } : Room) s m #[(.ref ra), (.int vi)] below meth c s₁ [] 0 0 := Stand.of_body Bd
  have e0 : s₁.heap = h0 := by rw [← hh, Bd.state]; rfl
  have N0 := Fr.nil n0
  have pre0 : ∀ t, Steps p.tables e below (s₁.setTop (mkF m 0 #[.val (.ref ra), .val (.int vi), .unset] [])) t → Steps p.tables e below (s₁.setTop (entryFrame m #[(.ref ra), (.int vi)] 3)) t := fun t k => castTop (ef_cpa m ra vi) k
  obtain ⟨Es, Fc, Fv, As⟩ := id Sr
  obtain ⟨cq12, kq12, q12a, q12b, q12c⟩ := isOf hZ e0 Es
  obtain ⟨_, _, ⟨T12, L12, k12, n12⟩, -, X12, ⟨Lc12, hQ12, l12, y12, z12⟩, st12⟩ := X0.virtualBack hx (y := (⟨"java/lang/String", "isLatin1", "()Z"⟩ : MethodName)) (z := (⟨"java/lang/String", "isLatin1", "()Z"⟩ : MethodName)) hown (mvT hZ (hw _ (List.mem_of_getElem? (i := 62) rfl))) (mvT hZ (hw _ (List.mem_of_getElem? (i := 63) rfl))) (notFace_of_selects (args := #[]) (mvT hZ (hw _ (List.mem_of_getElem? (i := 65) rfl)))) (mvT hZ (hw _ (List.mem_of_getElem? (i := 65) rfl))) (mvT hZ (hw _ (List.mem_of_getElem? (i := 64) rfl))) (by decide) (backOf (W := 0) (rm_isl l Z a0 hw [] ra h0 n0 Z0 G Fc) hZ (hw _ (List.mem_of_getElem? (i := 66) rfl)) (hw _ (List.mem_of_getElem? (i := 1) rfl)) (by decide) (by decide)) q12a q12c (g := (mkF m 1 #[.val (.ref ra), .val (.int vi), .unset] [(.ref ra)])) rfl (by rw [hml]; rfl) (Steps.refl _) (argsL := []) (rest := []) (lenOf pd_2 rfl) rfl (by show 2 * 0 + _ ≤ _; exact Nat.le_of_eq rfl) (hb hby d_jdk_42_method_57_code_1) (fun _ _ => ⟨rfl, e0, (by decide : 0 + 0 ≤ _), (by decide : 0 + 0 ≤ _)⟩)
  dsimp only [Pt.U, Pt.locs, Pt.cells, Pt.slots] at X12 l12 y12 z12 st12 hQ12
  subst l12 y12 z12
  obtain ⟨⟨r12, rfl, hr12⟩, N12q, e12⟩ := hQ12
  have N12 := Fr.app N0 N12q
  obtain rfl : (1 : Int32) = r12 := hr12.symm
  obtain ⟨T13, X13, e13, st13⟩ := getF X12 hx hZ hown (host := "") (Or.inl (hw _ (List.mem_of_getElem? (i := 49) rfl))) Via.refl e12 Fv (g := (mkF m 9 #[.val (.ref ra), .val (.int vi), .unset] [(.ref ra), (.int vi)])) rfl rfl (hb hby d_jdk_42_method_57_code_9)
  obtain ⟨cl14, Ar14, -, S14, N14a, -, -⟩ := id As
  obtain ⟨_, _, ⟨T15, L15, k15, n15⟩, -, X15, ⟨Lc15, hQ15, l15, y15, z15⟩, st15⟩ := Jvm.LawKit.callS X13 hx (y := (⟨"java/lang/String", "checkIndex", "(II)V"⟩ : MethodName)) hown (mvT hZ (hw _ (List.mem_of_getElem? (i := 67) rfl))) (mvT hZ (hw _ (List.mem_of_getElem? (i := 68) rfl))) (mvT hZ (hw _ (List.mem_of_getElem? (i := 1) rfl))) (mvT hZ (hw _ (List.mem_of_getElem? (i := 69) rfl))) (by decide) (backOf (W := 0) (rm_ci l Z a0 hw [] vi nn h0 n0 Z0 G hi) hZ (hw _ (List.mem_of_getElem? (i := 69) rfl)) (hw _ (List.mem_of_getElem? (i := 1) rfl)) (by decide) (by decide)) (g := (mkF m 13 #[.val (.ref ra), .val (.int vi), .unset] [(.int nn), (.int vi)])) rfl (by rw [hml]; rfl) (argsL := [(.int vi), (.int nn)]) (rest := []) (lenOf pd_3 rfl) rfl (by show 2 * 0 + _ ≤ _; exact Nat.le_of_eq rfl) (hb hby d_jdk_42_method_57_code_13) (fun _ _ => ⟨rfl, e13, (by decide : 0 + 0 ≤ _), (by decide : 0 + 0 ≤ _)⟩)
  dsimp only [Pt.U, Pt.locs, Pt.cells, Pt.slots] at X15 l15 y15 z15 st15 hQ15
  subst l15 y15 z15
  obtain ⟨rfl, N15q, e15⟩ := hQ15
  have N15 := Fr.app N12 N15q
  obtain ⟨T16, X16, e16, st16⟩ := getF X15 hx hZ hown (host := "") (Or.inl (hw _ (List.mem_of_getElem? (i := 49) rfl))) Via.refl e15 Fv (g := (mkF m 17 #[.val (.ref ra), .val (.int vi), .unset] [(.ref ra)])) rfl rfl (hb hby d_jdk_42_method_57_code_17)
  obtain ⟨fs, hr, hrun, hended, hW, hsame⟩ := X16.leave (v := some (.int ((ds.getD (vi).toNatClampNeg 0) &&& (255 : Int32)))) (fun h => by rw [Bd.returns] at h; cases h)
  refine ⟨_, _, pre0 _ ?_, hrun, hended, _, _, rfl, ?_, ⟨_, rfl⟩, hW, hsame.mono (by decide) (by decide)⟩
  · show Steps p.tables e below (s₁.setTop (mkF m 0 #[.val (.ref ra), .val (.int vi), .unset] [])) _
    refine XS.aloadN X0.here hx rfl (hb hby d_jdk_42_method_57_code_0) rfl rfl ?_
    show Steps p.tables e below (s₁.setTop (mkF m 1 #[.val (.ref ra), .val (.int vi), .unset] [(.ref ra)])) _
    refine st12.trans ?_
    show Steps p.tables e below (T12.setTop (mkF m 4 #[.val (.ref ra), .val (.int vi), .unset] [(.int (1 : Int32))])) _
    refine XS.ifNo X12.here hx rfl (hb hby d_jdk_42_method_57_code_4) rfl ((if0 _ _).trans (feq (by decide : ¬ ((1 : Int32) = (0 : Int32)))).1) ?_
    show Steps p.tables e below (T12.setTop (mkF m 7 #[.val (.ref ra), .val (.int vi), .unset] [])) _
    refine XS.iloadN X12.here hx rfl (hb hby d_jdk_42_method_57_code_7) rfl ?_
    show Steps p.tables e below (T12.setTop (mkF m 8 #[.val (.ref ra), .val (.int vi), .unset] [(.int vi)])) _
    refine XS.aloadN X12.here hx rfl (hb hby d_jdk_42_method_57_code_8) rfl rfl ?_
    show Steps p.tables e below (T12.setTop (mkF m 9 #[.val (.ref ra), .val (.int vi), .unset] [(.ref ra), (.int vi)])) _
    refine st13 _ ?_
    show Steps p.tables e below (T13.setTop (mkF m 12 #[.val (.ref ra), .val (.int vi), .unset] [(.ref sb), (.int vi)])) _
    refine X13.arraylength hx (by rw [e13]; exact Ar14.1) (State.isArrayOf_alike hZ.alike Ar14.2.1) (g := (mkF m 12 #[.val (.ref ra), .val (.int vi), .unset] [(.ref sb), (.int vi)])) rfl rfl (hb hby d_jdk_42_method_57_code_12) _ ?_
    rw [len_of S14 N14a]
    show Steps p.tables e below (T13.setTop (mkF m 13 #[.val (.ref ra), .val (.int vi), .unset] [(.int nn), (.int vi)])) _
    refine st15 _ ?_
    show Steps p.tables e below (T15.setTop (mkF m 16 #[.val (.ref ra), .val (.int vi), .unset] [])) _
    refine XS.aloadN X15.here hx rfl (hb hby d_jdk_42_method_57_code_16) rfl rfl ?_
    show Steps p.tables e below (T15.setTop (mkF m 17 #[.val (.ref ra), .val (.int vi), .unset] [(.ref ra)])) _
    refine st16 _ ?_
    show Steps p.tables e below (T16.setTop (mkF m 20 #[.val (.ref ra), .val (.int vi), .unset] [(.ref sb)])) _
    refine XS.iloadN X16.here hx rfl (hb hby d_jdk_42_method_57_code_20) rfl ?_
    show Steps p.tables e below (T16.setTop (mkF m 21 #[.val (.ref ra), .val (.int vi), .unset] [(.int vi), (.ref sb)])) _
    obtain ⟨cl17, Ar17, q17, S17, N17a, H17, G17⟩ := id As
    have hin17 : ¬ (vi < 0 ∨ cl17.slots.size ≤ (vi).toNatClampNeg) := inb_of S17 (hi)
    have hat17 : cl17.slots[(vi).toNatClampNeg]? = some (.int (ds.getD (vi).toNatClampNeg 0)) := H17.at hin17 (own_getD ds _)
    refine X16.baloadBytes hx (j := vi) (v := (.int (ds.getD (vi).toNatClampNeg 0))) (by rw [e16]; exact Ar17.1) (State.isArrayOf_alike hZ.alike Ar17.2.1) Ar17.2.2 hin17 hat17 (g := (mkF m 21 #[.val (.ref ra), .val (.int vi), .unset] [(.int vi), (.ref sb)])) rfl rfl (hb hby d_jdk_42_method_57_code_21) _ ?_
    show Steps p.tables e below (T16.setTop (mkF m 22 #[.val (.ref ra), .val (.int vi), .unset] [(.int (ds.getD (vi).toNatClampNeg 0))])) _
    refine XS.sipush X16.here hx rfl (hb hby d_jdk_42_method_57_code_22) ?_
    show Steps p.tables e below (T16.setTop (mkF m 25 #[.val (.ref ra), .val (.int vi), .unset] [(.int (255 : Int32)), (.int (ds.getD (vi).toNatClampNeg 0))])) _
    refine XS.iand X16.here hx rfl (hb hby d_jdk_42_method_57_code_25) rfl ?_
    show Steps p.tables e below (T16.setTop (mkF m 26 #[.val (.ref ra), .val (.int vi), .unset] [(.int ((ds.getD (vi).toNatClampNeg 0) &&& (255 : Int32)))])) _
    exact retI X16 hx Bd.returns (hb hby d_jdk_42_method_57_code_26) hr
  · show Q_cpa Z ra vi sb ks nn ds h0 n0 _ T16.heap _
    rw [e16]
    exact ⟨⟨_, rfl, own_m255 _ (hds _).1 (hds _).2⟩, N15, rfl⟩
theorem pn_2 : plainName "java/lang/Character" = true := by first | (simp [plainName, overriddenIn]; done) | decide +kernel
theorem d_jdk_89_method_18_code_0 : decode jdk_89_method_18_code 0 = .ok (.iload_n 0, 1) := by decide +kernel
theorem d_jdk_89_method_18_code_1 : decode jdk_89_method_18_code 1 = .ok (.ldc 73, 2) := by decide +kernel
theorem d_jdk_89_method_18_code_3 : decode jdk_89_method_18_code 3 = .ok (.if_icmp .lt 7, 3) := by decide +kernel
theorem d_jdk_89_method_18_code_10 : decode jdk_89_method_18_code 10 = .ok (.iconst 1, 1) := by decide +kernel
theorem d_jdk_89_method_18_code_11 : decode jdk_89_method_18_code 11 = .ok (.ireturn, 1) := by decide +kernel
theorem ef_cc (m : MethodId) (va : Int32) : entryFrame m #[(.int va)] 1 = mkF m 0 #[.val (.int va)] [] := by first | (simp [entryFrame, mkF, argsToLocals, Value.category]; done) | rfl
def Q_cc (Z : State) (va : Int32) (h0 : Heap) (n0 : Nat) (v : Option Value) (h : Heap) (L : List Loc) : Prop := (∃ z : Int32, v = some (.int z) ∧ (z = 1)) ∧ Fr n0 L ∧ h = h0
set_option maxRecDepth 65536 in
set_option maxHeartbeats 40000000 in
theorem rm_cc (l : Launch) (Z : State) (a0 : Array Value) (hw : ∀ d ∈ tables_1, d.before a0 Z = true) (ws : List Jvm.Cond) (va : Int32) (h0 : Heap) (n0 : Nat) (Z0 : n0 ≤ h0.size) (hv : va < (65536 : Int32)) :
    MetFree l (⟨"java/lang/Character", "charCount", "(I)I"⟩ : MethodName) (head1 (Jvm.Cond.code (⟨"java/lang/Character", "charCount", "(I)I"⟩ : MethodName) jdk_89_method_18_code 1 (some .int) :: ws) ({ frames := 0, cells := 0, slots := 0, locals := 0 } : Room)) (fun a U => a = #[(.int va)] ∧ Z.Warmed39 U.vm ∧ U.heap = h0) (fun _ _ _ _ _ => True) (fun _ U o U' => ∃ v L, o = .returned v ∧ Q_cc Z va h0 n0 v U'.heap L ∧ FrameEnd U o U' L ({ frames := 0, cells := 0, slots := 0, locals := 0 } : Room).cells ({ frames := 0, cells := 0, slots := 0, locals := 0 } : Room).slots) := by
  refine MetFree.of_bodySF (plainFor_of_name pn_2) hisR ?_
  intro p e s m args below meth c s₁ Bd hml0 hP hK
  obtain ⟨rfl, hZ, hh⟩ := hP
  have hx := Bd.exec
  have hby := Bd.bytes
  have hml : c.maxLocals = 1 := hml0
  have hown : s.vm.findClass "java/lang/Character" = some m.cls := findClass_of_methodNamed Bd.named
  have hnm := (name_of_methodNamed Bd.named Bd.method).1
  have X0 : Stand p l e ({ frames := 0, cells := 0, slots := 0, locals := 0 } : Room) s m #[(.int va)] below meth c s₁ [] 0 0 := Stand.of_body Bd
  have e0 : s₁.heap = h0 := by rw [← hh, Bd.state]; rfl
  have N0 := Fr.nil n0
  have pre0 : ∀ t, Steps p.tables e below (s₁.setTop (mkF m 0 #[.val (.int va)] [])) t → Steps p.tables e below (s₁.setTop (entryFrame m #[(.int va)] 1)) t := fun t k => castTop (ef_cc m va) k
  obtain ⟨fs, hr, hrun, hended, hW, hsame⟩ := X0.leave (v := some (.int (1 : Int32))) (fun h => by rw [Bd.returns] at h; cases h)
  refine ⟨_, _, pre0 _ ?_, hrun, hended, _, _, rfl, ?_, ⟨_, rfl⟩, hW, hsame.mono (by decide) (by decide)⟩
  · show Steps p.tables e below (s₁.setTop (mkF m 0 #[.val (.int va)] [])) _
    refine XS.iloadN X0.here hx rfl (hb hby d_jdk_89_method_18_code_0) rfl ?_
    show Steps p.tables e below (s₁.setTop (mkF m 1 #[.val (.int va)] [(.int va)])) _
    refine X0.ldcInt hx hown (mvT hZ (hw _ (List.mem_of_getElem? (i := 79) rfl))) (g := (mkF m 1 #[.val (.int va)] [(.int va)])) rfl (hb hby d_jdk_89_method_18_code_1) _ ?_
    show Steps p.tables e below (s₁.setTop (mkF m 3 #[.val (.int va)] [(.int (65536 : Int32)), (.int va)])) _
    refine XS.icmpYes X0.here hx rfl (pc0 := 3) (pc' := 10) rfl (hb hby d_jdk_89_method_18_code_3) rfl (tlt (hv : va < (65536 : Int32))).1 (by decide) (by decide) ?_
    show Steps p.tables e below (s₁.setTop (mkF m 10 #[.val (.int va)] [])) _
    refine XS.iconst X0.here hx rfl (hb hby d_jdk_89_method_18_code_10) ?_
    show Steps p.tables e below (s₁.setTop (mkF m 11 #[.val (.int va)] [(.int (1 : Int32))])) _
    exact retI X0 hx Bd.returns (hb hby d_jdk_89_method_18_code_11) hr
  · show Q_cc Z va h0 n0 _ s₁.heap _
    rw [e0]
    exact ⟨⟨_, rfl, rfl⟩, N0, rfl⟩
theorem own_ch (d : Int32) (h0 : 0 ≤ d.toInt) (h1 : d.toInt < 128) : nar .char ((d &&& (255 : Int32)).toUInt32.toUInt16.toUInt32.toInt32) = d := by
  rw [own_m255 d h0 h1, own_i2c d h0 h1]; exact own_i2c d h0 h1
theorem own_nc (d : Int32) (h0 : 0 ≤ d.toInt) (h1 : d.toInt < 128) : nar .char d = d := own_i2c d h0 h1
theorem own_nb (d : Int32) (h0 : 0 ≤ d.toInt) (h1 : d.toInt < 128) : nar .byte (d.toInt8.toInt32) = d := by
  rw [own_i2b d h0 h1]; exact own_i2b d h0 h1
theorem pn_3 : plainName "java/lang/StringLatin1" = true := by first | (simp [plainName, overriddenIn]; done) | decide +kernel
theorem d_jdk_43_method_2_code_0 : decode jdk_43_method_2_code 0 = .ok (.iload_n 1, 1) := by decide +kernel
theorem d_jdk_43_method_2_code_1 : decode jdk_43_method_2_code 1 = .ok (.aload_n 0, 1) := by decide +kernel
theorem d_jdk_43_method_2_code_2 : decode jdk_43_method_2_code 2 = .ok (.arraylength, 1) := by decide +kernel
theorem d_jdk_43_method_2_code_3 : decode jdk_43_method_2_code 3 = .ok (.invokestatic 9, 3) := by decide +kernel
theorem d_jdk_43_method_2_code_6 : decode jdk_43_method_2_code 6 = .ok (.aload_n 0, 1) := by decide +kernel
theorem d_jdk_43_method_2_code_7 : decode jdk_43_method_2_code 7 = .ok (.iload_n 1, 1) := by decide +kernel
theorem d_jdk_43_method_2_code_8 : decode jdk_43_method_2_code 8 = .ok (.baload, 1) := by decide +kernel
theorem d_jdk_43_method_2_code_9 : decode jdk_43_method_2_code 9 = .ok (.sipush 255, 3) := by decide +kernel
theorem d_jdk_43_method_2_code_12 : decode jdk_43_method_2_code 12 = .ok (.iand, 1) := by decide +kernel
theorem d_jdk_43_method_2_code_13 : decode jdk_43_method_2_code 13 = .ok (.i2c, 1) := by decide +kernel
theorem d_jdk_43_method_2_code_14 : decode jdk_43_method_2_code 14 = .ok (.ireturn, 1) := by decide +kernel
theorem ef_lca (m : MethodId) (sb : Addr) (vi : Int32) : entryFrame m #[(.ref sb), (.int vi)] 2 = mkF m 0 #[.val (.ref sb), .val (.int vi)] [] := by first | (simp [entryFrame, mkF, argsToLocals, Value.category]; done) | rfl
def Q_lca (Z : State) (sb : Addr) (vi : Int32) (ks : ClassId) (nn : Int32) (ds : List Int32) (h0 : Heap) (n0 : Nat) (v : Option Value) (h : Heap) (L : List Loc) : Prop := (∃ z : Int32, v = some (.int z) ∧ (z = ds.getD vi.toNatClampNeg 0)) ∧ Fr n0 L ∧ h = h0
set_option maxRecDepth 65536 in
set_option maxHeartbeats 40000000 in
theorem rm_lca (l : Launch) (Z : State) (a0 : Array Value) (hw : ∀ d ∈ tables_1, d.before a0 Z = true) (ws : List Jvm.Cond) (sb : Addr) (vi : Int32) (ks : ClassId) (nn : Int32) (ds : List Int32) (h0 : Heap) (n0 : Nat) (Z0 : n0 ≤ h0.size) (G : own_G Z n0 h0) (As : Arv Z h0 sb ks .byte nn (ds.map Value.int) (.int (0 : Int32))) (hi : ¬ vi < 0 ∧ vi < nn) (hds : own_asc ds) :
    MetFree l (⟨"java/lang/StringLatin1", "charAt", "([BI)C"⟩ : MethodName) (head1 (Jvm.Cond.code (⟨"java/lang/StringLatin1", "charAt", "([BI)C"⟩ : MethodName) jdk_43_method_2_code 2 (some .char) :: ws) ({ frames := 2, cells := 0, slots := 0, locals := 27 } : Room)) (fun a U => a = #[(.ref sb), (.int vi)] ∧ Z.Warmed39 U.vm ∧ U.heap = h0) (fun _ _ _ _ _ => True) (fun _ U o U' => ∃ v L, o = .returned v ∧ Q_lca Z sb vi ks nn ds h0 n0 v U'.heap L ∧ FrameEnd U o U' L ({ frames := 2, cells := 0, slots := 0, locals := 27 } : Room).cells ({ frames := 2, cells := 0, slots := 0, locals := 27 } : Room).slots) := by
  refine MetFree.of_bodySF (plainFor_of_name pn_3) hisR ?_
  intro p e s m args below meth c s₁ Bd hml0 hP hK
  obtain ⟨rfl, hZ, hh⟩ := hP
  have hx := Bd.exec
  have hby := Bd.bytes
  have hml : c.maxLocals = 2 := hml0
  have hown : s.vm.findClass "java/lang/StringLatin1" = some m.cls := findClass_of_methodNamed Bd.named
  have hnm := (name_of_methodNamed Bd.named Bd.method).1
  have X0 : Stand p l e ({ frames := 2, cells := 0, slots := 0, locals := 27 } : Room) s m #[(.ref sb), (.int vi)] below meth c s₁ [] 0 0 := Stand.of_body Bd
  have e0 : s₁.heap = h0 := by rw [← hh, Bd.state]; rfl
  have N0 := Fr.nil n0
  have pre0 : ∀ t, Steps p.tables e below (s₁.setTop (mkF m 0 #[.val (.ref sb), .val (.int vi)] [])) t → Steps p.tables e below (s₁.setTop (entryFrame m #[(.ref sb), (.int vi)] 2)) t := fun t k => castTop (ef_lca m sb vi) k
  obtain ⟨cl18, Ar18, -, S18, N18a, -, -⟩ := id As
  obtain ⟨_, _, ⟨T19, L19, k19, n19⟩, -, X19, ⟨Lc19, hQ19, l19, y19, z19⟩, st19⟩ := Jvm.LawKit.callS X0 hx (y := (⟨"java/lang/String", "checkIndex", "(II)V"⟩ : MethodName)) hown (mvT hZ (hw _ (List.mem_of_getElem? (i := 119) rfl))) (mvT hZ (hw _ (List.mem_of_getElem? (i := 68) rfl))) (mvT hZ (hw _ (List.mem_of_getElem? (i := 1) rfl))) (mvT hZ (hw _ (List.mem_of_getElem? (i := 69) rfl))) (by decide) (backOf (W := 0) (rm_ci l Z a0 hw [] vi nn h0 n0 Z0 G hi) hZ (hw _ (List.mem_of_getElem? (i := 69) rfl)) (hw _ (List.mem_of_getElem? (i := 1) rfl)) (by decide) (by decide)) (g := (mkF m 3 #[.val (.ref sb), .val (.int vi)] [(.int nn), (.int vi)])) rfl (by rw [hml]; rfl) (argsL := [(.int vi), (.int nn)]) (rest := []) (lenOf pd_3 rfl) rfl (by show 2 * 0 + _ ≤ _; exact Nat.le_of_eq rfl) (hb hby d_jdk_43_method_2_code_3) (fun _ _ => ⟨rfl, e0, (by decide : 0 + 0 ≤ _), (by decide : 0 + 0 ≤ _)⟩)
  dsimp only [Pt.U, Pt.locs, Pt.cells, Pt.slots] at X19 l19 y19 z19 st19 hQ19
  subst l19 y19 z19
  obtain ⟨rfl, N19q, e19⟩ := hQ19
  have N19 := Fr.app N0 N19q
  obtain ⟨fs, hr, hrun, hended, hW, hsame⟩ := X19.leave (v := some (.int (nar .char (((ds.getD (vi).toNatClampNeg 0) &&& (255 : Int32)).toUInt32.toUInt16.toUInt32.toInt32)))) (fun h => by rw [Bd.returns] at h; cases h)
  refine ⟨_, _, pre0 _ ?_, hrun, hended, _, _, rfl, ?_, ⟨_, rfl⟩, hW, hsame.mono (by decide) (by decide)⟩
  · show Steps p.tables e below (s₁.setTop (mkF m 0 #[.val (.ref sb), .val (.int vi)] [])) _
    refine XS.iloadN X0.here hx rfl (hb hby d_jdk_43_method_2_code_0) rfl ?_
    show Steps p.tables e below (s₁.setTop (mkF m 1 #[.val (.ref sb), .val (.int vi)] [(.int vi)])) _
    refine XS.aloadN X0.here hx rfl (hb hby d_jdk_43_method_2_code_1) rfl rfl ?_
    show Steps p.tables e below (s₁.setTop (mkF m 2 #[.val (.ref sb), .val (.int vi)] [(.ref sb), (.int vi)])) _
    refine X0.arraylength hx (by rw [e0]; exact Ar18.1) (State.isArrayOf_alike hZ.alike Ar18.2.1) (g := (mkF m 2 #[.val (.ref sb), .val (.int vi)] [(.ref sb), (.int vi)])) rfl rfl (hb hby d_jdk_43_method_2_code_2) _ ?_
    rw [len_of S18 N18a]
    show Steps p.tables e below (s₁.setTop (mkF m 3 #[.val (.ref sb), .val (.int vi)] [(.int nn), (.int vi)])) _
    refine st19 _ ?_
    show Steps p.tables e below (T19.setTop (mkF m 6 #[.val (.ref sb), .val (.int vi)] [])) _
    refine XS.aloadN X19.here hx rfl (hb hby d_jdk_43_method_2_code_6) rfl rfl ?_
    show Steps p.tables e below (T19.setTop (mkF m 7 #[.val (.ref sb), .val (.int vi)] [(.ref sb)])) _
    refine XS.iloadN X19.here hx rfl (hb hby d_jdk_43_method_2_code_7) rfl ?_
    show Steps p.tables e below (T19.setTop (mkF m 8 #[.val (.ref sb), .val (.int vi)] [(.int vi), (.ref sb)])) _
    obtain ⟨cl20, Ar20, q20, S20, N20a, H20, G20⟩ := id As
    have hin20 : ¬ (vi < 0 ∨ cl20.slots.size ≤ (vi).toNatClampNeg) := inb_of S20 (hi)
    have hat20 : cl20.slots[(vi).toNatClampNeg]? = some (.int (ds.getD (vi).toNatClampNeg 0)) := H20.at hin20 (own_getD ds _)
    refine X19.baloadBytes hx (j := vi) (v := (.int (ds.getD (vi).toNatClampNeg 0))) (by rw [e19]; exact Ar20.1) (State.isArrayOf_alike hZ.alike Ar20.2.1) Ar20.2.2 hin20 hat20 (g := (mkF m 8 #[.val (.ref sb), .val (.int vi)] [(.int vi), (.ref sb)])) rfl rfl (hb hby d_jdk_43_method_2_code_8) _ ?_
    show Steps p.tables e below (T19.setTop (mkF m 9 #[.val (.ref sb), .val (.int vi)] [(.int (ds.getD (vi).toNatClampNeg 0))])) _
    refine XS.sipush X19.here hx rfl (hb hby d_jdk_43_method_2_code_9) ?_
    show Steps p.tables e below (T19.setTop (mkF m 12 #[.val (.ref sb), .val (.int vi)] [(.int (255 : Int32)), (.int (ds.getD (vi).toNatClampNeg 0))])) _
    refine XS.iand X19.here hx rfl (hb hby d_jdk_43_method_2_code_12) rfl ?_
    show Steps p.tables e below (T19.setTop (mkF m 13 #[.val (.ref sb), .val (.int vi)] [(.int ((ds.getD (vi).toNatClampNeg 0) &&& (255 : Int32)))])) _
    refine XS.i2c X19.here hx rfl (hb hby d_jdk_43_method_2_code_13) rfl ?_
    show Steps p.tables e below (T19.setTop (mkF m 14 #[.val (.ref sb), .val (.int vi)] [(.int (((ds.getD (vi).toNatClampNeg 0) &&& (255 : Int32)).toUInt32.toUInt16.toUInt32.toInt32))])) _
    exact retN X19 hx (t := .char) Bd.returns (by simp) (hb hby d_jdk_43_method_2_code_14) hr
  · show Q_lca Z sb vi ks nn ds h0 n0 _ T19.heap _
    rw [e19]
    exact ⟨⟨_, rfl, own_ch _ (hds _).1 (hds _).2⟩, N19, rfl⟩
theorem d_jdk_42_method_56_code_0 : decode jdk_42_method_56_code 0 = .ok (.aload_n 0, 1) := by decide +kernel
theorem d_jdk_42_method_56_code_1 : decode jdk_42_method_56_code 1 = .ok (.invokevirtual 492, 3) := by decide +kernel
theorem d_jdk_42_method_56_code_4 : decode jdk_42_method_56_code 4 = .ok (.ifCond .eq 12, 3) := by decide +kernel
theorem d_jdk_42_method_56_code_7 : decode jdk_42_method_56_code 7 = .ok (.aload_n 0, 1) := by decide +kernel
theorem d_jdk_42_method_56_code_8 : decode jdk_42_method_56_code 8 = .ok (.getfield 9, 3) := by decide +kernel
theorem d_jdk_42_method_56_code_11 : decode jdk_42_method_56_code 11 = .ok (.iload_n 1, 1) := by decide +kernel
theorem d_jdk_42_method_56_code_12 : decode jdk_42_method_56_code 12 = .ok (.invokestatic 495, 3) := by decide +kernel
theorem pd_4 : parseMethodDescriptor "([BI)C" = some ⟨[(.array .byte), .int], some .char⟩ := by decide +kernel
theorem d_jdk_42_method_56_code_15 : decode jdk_42_method_56_code 15 = .ok (.ireturn, 1) := by decide +kernel
theorem ef_cat (m : MethodId) (ra : Addr) (vi : Int32) : entryFrame m #[(.ref ra), (.int vi)] 2 = mkF m 0 #[.val (.ref ra), .val (.int vi)] [] := by first | (simp [entryFrame, mkF, argsToLocals, Value.category]; done) | rfl
def Q_cat (Z : State) (ra : Addr) (vi : Int32) (sb : Addr) (ks : ClassId) (nn : Int32) (ds : List Int32) (h0 : Heap) (n0 : Nat) (v : Option Value) (h : Heap) (L : List Loc) : Prop := (∃ z : Int32, v = some (.int z) ∧ (z = ds.getD vi.toNatClampNeg 0)) ∧ Fr n0 L ∧ h = h0
set_option maxRecDepth 65536 in
set_option maxHeartbeats 40000000 in
theorem rm_cat (l : Launch) (Z : State) (a0 : Array Value) (hw : ∀ d ∈ tables_1, d.before a0 Z = true) (ws : List Jvm.Cond) (ra : Addr) (vi : Int32) (sb : Addr) (ks : ClassId) (nn : Int32) (ds : List Int32) (h0 : Heap) (n0 : Nat) (Z0 : n0 ≤ h0.size) (G : own_G Z n0 h0) (Sr : own_S Z h0 ra sb ks nn ds) (hi : ¬ vi < 0 ∧ vi < nn) (hds : own_asc ds) :
    MetFree l (⟨"java/lang/String", "charAt", "(I)C"⟩ : MethodName) (head1 (Jvm.Cond.code (⟨"java/lang/String", "charAt", "(I)C"⟩ : MethodName) jdk_42_method_56_code 2 (some .char) :: ws) ({ frames := 3, cells := 0, slots := 0, locals := 40 } : Room)) (fun a U => a = #[(.ref ra), (.int vi)] ∧ Z.Warmed39 U.vm ∧ U.heap = h0) (fun _ _ _ _ _ => True) (fun _ U o U' => ∃ v L, o = .returned v ∧ Q_cat Z ra vi sb ks nn ds h0 n0 v U'.heap L ∧ FrameEnd U o U' L ({ frames := 3, cells := 0, slots := 0, locals := 40 } : Room).cells ({ frames := 3, cells := 0, slots := 0, locals := 40 } : Room).slots) := by
  refine MetFree.of_bodySF (plainFor_of_name pn_0) hisR ?_
  intro p e s m args below meth c s₁ Bd hml0 hP hK
  obtain ⟨rfl, hZ, hh⟩ := hP
  have hx := Bd.exec
  have hby := Bd.bytes
  have hml : c.maxLocals = 2 := hml0
  have hown : s.vm.findClass "java/lang/String" = some m.cls := findClass_of_methodNamed Bd.named
  have hnm := (name_of_methodNamed Bd.named Bd.method).1
  have X0 : Stand p l e ({ frames := 3, cells := 0, slots := 0, locals := 40 } : Room) s m #[(.ref ra), (.int vi)] below meth c s₁ [] 0 0 := Stand.of_body Bd
  have e0 : s₁.heap = h0 := by rw [← hh, Bd.state]; rfl
  have N0 := Fr.nil n0
  have pre0 : ∀ t, Steps p.tables e below (s₁.setTop (mkF m 0 #[.val (.ref ra), .val (.int vi)] [])) t → Steps p.tables e below (s₁.setTop (entryFrame m #[(.ref ra), (.int vi)] 2)) t := fun t k => castTop (ef_cat m ra vi) k
  obtain ⟨Es, Fc, Fv, As⟩ := id Sr
  obtain ⟨cq21, kq21, q21a, q21b, q21c⟩ := isOf hZ e0 Es
  obtain ⟨_, _, ⟨T21, L21, k21, n21⟩, -, X21, ⟨Lc21, hQ21, l21, y21, z21⟩, st21⟩ := X0.virtualBack hx (y := (⟨"java/lang/String", "isLatin1", "()Z"⟩ : MethodName)) (z := (⟨"java/lang/String", "isLatin1", "()Z"⟩ : MethodName)) hown (mvT hZ (hw _ (List.mem_of_getElem? (i := 62) rfl))) (mvT hZ (hw _ (List.mem_of_getElem? (i := 63) rfl))) (notFace_of_selects (args := #[]) (mvT hZ (hw _ (List.mem_of_getElem? (i := 65) rfl)))) (mvT hZ (hw _ (List.mem_of_getElem? (i := 65) rfl))) (mvT hZ (hw _ (List.mem_of_getElem? (i := 64) rfl))) (by decide) (backOf (W := 0) (rm_isl l Z a0 hw [] ra h0 n0 Z0 G Fc) hZ (hw _ (List.mem_of_getElem? (i := 66) rfl)) (hw _ (List.mem_of_getElem? (i := 1) rfl)) (by decide) (by decide)) q21a q21c (g := (mkF m 1 #[.val (.ref ra), .val (.int vi)] [(.ref ra)])) rfl (by rw [hml]; rfl) (Steps.refl _) (argsL := []) (rest := []) (lenOf pd_2 rfl) rfl (by show 2 * 0 + _ ≤ _; exact Nat.le_of_eq rfl) (hb hby d_jdk_42_method_56_code_1) (fun _ _ => ⟨rfl, e0, (by decide : 0 + 0 ≤ _), (by decide : 0 + 0 ≤ _)⟩)
  dsimp only [Pt.U, Pt.locs, Pt.cells, Pt.slots] at X21 l21 y21 z21 st21 hQ21
  subst l21 y21 z21
  obtain ⟨⟨r21, rfl, hr21⟩, N21q, e21⟩ := hQ21
  have N21 := Fr.app N0 N21q
  obtain rfl : (1 : Int32) = r21 := hr21.symm
  obtain ⟨T22, X22, e22, st22⟩ := getF X21 hx hZ hown (host := "") (Or.inl (hw _ (List.mem_of_getElem? (i := 49) rfl))) Via.refl e21 Fv (g := (mkF m 8 #[.val (.ref ra), .val (.int vi)] [(.ref ra)])) rfl rfl (hb hby d_jdk_42_method_56_code_8)
  obtain ⟨_, _, ⟨T23, L23, k23, n23⟩, -, X23, ⟨Lc23, hQ23, l23, y23, z23⟩, st23⟩ := Jvm.LawKit.callS X22 hx (y := (⟨"java/lang/StringLatin1", "charAt", "([BI)C"⟩ : MethodName)) hown (mvT hZ (hw _ (List.mem_of_getElem? (i := 115) rfl))) (mvT hZ (hw _ (List.mem_of_getElem? (i := 116) rfl))) (mvT hZ (hw _ (List.mem_of_getElem? (i := 117) rfl))) (mvT hZ (hw _ (List.mem_of_getElem? (i := 118) rfl))) (by decide) (backOf (W := 0) (rm_lca l Z a0 hw [] sb vi ks nn ds h0 n0 Z0 G As hi hds) hZ (hw _ (List.mem_of_getElem? (i := 118) rfl)) (hw _ (List.mem_of_getElem? (i := 117) rfl)) (by decide) (by decide)) (g := (mkF m 12 #[.val (.ref ra), .val (.int vi)] [(.int vi), (.ref sb)])) rfl (by rw [hml]; rfl) (argsL := [(.ref sb), (.int vi)]) (rest := []) (lenOf pd_4 rfl) rfl (by show 2 * 0 + _ ≤ _; exact Nat.le_of_eq rfl) (hb hby d_jdk_42_method_56_code_12) (fun _ _ => ⟨rfl, e22, (by decide : 0 + 0 ≤ _), (by decide : 0 + 0 ≤ _)⟩)
  dsimp only [Pt.U, Pt.locs, Pt.cells, Pt.slots] at X23 l23 y23 z23 st23 hQ23
  subst l23 y23 z23
  obtain ⟨⟨r23, rfl, hr23⟩, N23q, e23⟩ := hQ23
  have N23 := Fr.app N21 N23q
  obtain ⟨fs, hr, hrun, hended, hW, hsame⟩ := X23.leave (v := some (.int (nar .char r23))) (fun h => by rw [Bd.returns] at h; cases h)
  refine ⟨_, _, pre0 _ ?_, hrun, hended, _, _, rfl, ?_, ⟨_, rfl⟩, hW, hsame.mono (by decide) (by decide)⟩
  · show Steps p.tables e below (s₁.setTop (mkF m 0 #[.val (.ref ra), .val (.int vi)] [])) _
    refine XS.aloadN X0.here hx rfl (hb hby d_jdk_42_method_56_code_0) rfl rfl ?_
    show Steps p.tables e below (s₁.setTop (mkF m 1 #[.val (.ref ra), .val (.int vi)] [(.ref ra)])) _
    refine st21.trans ?_
    show Steps p.tables e below (T21.setTop (mkF m 4 #[.val (.ref ra), .val (.int vi)] [(.int (1 : Int32))])) _
    refine XS.ifNo X21.here hx rfl (hb hby d_jdk_42_method_56_code_4) rfl ((if0 _ _).trans (feq (by decide : ¬ ((1 : Int32) = (0 : Int32)))).1) ?_
    show Steps p.tables e below (T21.setTop (mkF m 7 #[.val (.ref ra), .val (.int vi)] [])) _
    refine XS.aloadN X21.here hx rfl (hb hby d_jdk_42_method_56_code_7) rfl rfl ?_
    show Steps p.tables e below (T21.setTop (mkF m 8 #[.val (.ref ra), .val (.int vi)] [(.ref ra)])) _
    refine st22 _ ?_
    show Steps p.tables e below (T22.setTop (mkF m 11 #[.val (.ref ra), .val (.int vi)] [(.ref sb)])) _
    refine XS.iloadN X22.here hx rfl (hb hby d_jdk_42_method_56_code_11) rfl ?_
    show Steps p.tables e below (T22.setTop (mkF m 12 #[.val (.ref ra), .val (.int vi)] [(.int vi), (.ref sb)])) _
    refine st23 _ ?_
    show Steps p.tables e below (T23.setTop (mkF m 15 #[.val (.ref ra), .val (.int vi)] [(.int r23)])) _
    exact retN X23 hx (t := .char) Bd.returns (by simp) (hb hby d_jdk_42_method_56_code_15) hr
  · show Q_cat Z ra vi sb ks nn ds h0 n0 _ T23.heap _
    rw [e23]
    exact ⟨⟨_, rfl, by rw [hr23]; exact own_nc _ (hds _).1 (hds _).2⟩, N23, rfl⟩
theorem d_jdk_29_method_69_code_0 : decode jdk_29_method_69_code 0 = .ok (.iload_n 0, 1) := by decide +kernel
theorem d_jdk_29_method_69_code_1 : decode jdk_29_method_69_code 1 = .ok (.iload_n 1, 1) := by decide +kernel
theorem d_jdk_29_method_69_code_2 : decode jdk_29_method_69_code 2 = .ok (.if_icmp .gt 7, 3) := by decide +kernel
theorem d_jdk_29_method_69_code_9 : decode jdk_29_method_69_code 9 = .ok (.iload_n 1, 1) := by decide +kernel
theorem d_jdk_29_method_69_code_10 : decode jdk_29_method_69_code 10 = .ok (.ireturn, 1) := by decide +kernel
theorem d_jdk_29_method_69_code_5 : decode jdk_29_method_69_code 5 = .ok (.iload_n 0, 1) := by decide +kernel
theorem d_jdk_29_method_69_code_6 : decode jdk_29_method_69_code 6 = .ok (.goto 4, 3) := by decide +kernel
theorem ef_min (m : MethodId) (va : Int32) (vb : Int32) : entryFrame m #[(.int va), (.int vb)] 2 = mkF m 0 #[.val (.int va), .val (.int vb)] [] := by first | (simp [entryFrame, mkF, argsToLocals, Value.category]; done) | rfl
def Q_min (Z : State) (va : Int32) (vb : Int32) (h0 : Heap) (n0 : Nat) (v : Option Value) (h : Heap) (L : List Loc) : Prop := (∃ z : Int32, v = some (.int z) ∧ (z = if vb < va then vb else va)) ∧ Fr n0 L ∧ h = h0
set_option maxRecDepth 65536 in
set_option maxHeartbeats 40000000 in
theorem rm_min (l : Launch) (Z : State) (a0 : Array Value) (hw : ∀ d ∈ tables_1, d.before a0 Z = true) (ws : List Jvm.Cond) (va : Int32) (vb : Int32) (h0 : Heap) (n0 : Nat) (Z0 : n0 ≤ h0.size) :
    MetFree l (⟨"java/lang/Math", "min", "(II)I"⟩ : MethodName) (head1 (Jvm.Cond.code (⟨"java/lang/Math", "min", "(II)I"⟩ : MethodName) jdk_29_method_69_code 2 (some .int) :: ws) ({ frames := 0, cells := 0, slots := 0, locals := 0 } : Room)) (fun a U => a = #[(.int va), (.int vb)] ∧ Z.Warmed39 U.vm ∧ U.heap = h0) (fun _ _ _ _ _ => True) (fun _ U o U' => ∃ v L, o = .returned v ∧ Q_min Z va vb h0 n0 v U'.heap L ∧ FrameEnd U o U' L ({ frames := 0, cells := 0, slots := 0, locals := 0 } : Room).cells ({ frames := 0, cells := 0, slots := 0, locals := 0 } : Room).slots) := by
  refine MetFree.of_bodySF (Jvm.Free.JP.mathPlain rfl (by decide +kernel)) hisR ?_
  intro p e s m args below meth c s₁ Bd hml0 hP hK
  obtain ⟨rfl, hZ, hh⟩ := hP
  have hx := Bd.exec
  have hby := Bd.bytes
  have hml : c.maxLocals = 2 := hml0
  have hown : s.vm.findClass "java/lang/Math" = some m.cls := findClass_of_methodNamed Bd.named
  have hnm := (name_of_methodNamed Bd.named Bd.method).1
  have X0 : Stand p l e ({ frames := 0, cells := 0, slots := 0, locals := 0 } : Room) s m #[(.int va), (.int vb)] below meth c s₁ [] 0 0 := Stand.of_body Bd
  have e0 : s₁.heap = h0 := by rw [← hh, Bd.state]; rfl
  have N0 := Fr.nil n0
  have pre0 : ∀ t, Steps p.tables e below (s₁.setTop (mkF m 0 #[.val (.int va), .val (.int vb)] [])) t → Steps p.tables e below (s₁.setTop (entryFrame m #[(.int va), (.int vb)] 2)) t := fun t k => castTop (ef_min m va vb) k
  by_cases h2_24 : vb < va
  · obtain ⟨fs, hr, hrun, hended, hW, hsame⟩ := X0.leave (v := some (.int vb)) (fun h => by rw [Bd.returns] at h; cases h)
    refine ⟨_, _, pre0 _ ?_, hrun, hended, _, _, rfl, ?_, ⟨_, rfl⟩, hW, hsame.mono (by decide) (by decide)⟩
    · show Steps p.tables e below (s₁.setTop (mkF m 0 #[.val (.int va), .val (.int vb)] [])) _
      refine XS.iloadN X0.here hx rfl (hb hby d_jdk_29_method_69_code_0) rfl ?_
      show Steps p.tables e below (s₁.setTop (mkF m 1 #[.val (.int va), .val (.int vb)] [(.int va)])) _
      refine XS.iloadN X0.here hx rfl (hb hby d_jdk_29_method_69_code_1) rfl ?_
      show Steps p.tables e below (s₁.setTop (mkF m 2 #[.val (.int va), .val (.int vb)] [(.int vb), (.int va)])) _
      refine XS.icmpYes X0.here hx rfl (pc0 := 2) (pc' := 9) rfl (hb hby d_jdk_29_method_69_code_2) rfl (tlt h2_24).2.2.1 (by decide) (by decide) ?_
      show Steps p.tables e below (s₁.setTop (mkF m 9 #[.val (.int va), .val (.int vb)] [])) _
      refine XS.iloadN X0.here hx rfl (hb hby d_jdk_29_method_69_code_9) rfl ?_
      show Steps p.tables e below (s₁.setTop (mkF m 10 #[.val (.int va), .val (.int vb)] [(.int vb)])) _
      exact retI X0 hx Bd.returns (hb hby d_jdk_29_method_69_code_10) hr
    · show Q_min Z va vb h0 n0 _ s₁.heap _
      rw [e0]
      exact ⟨⟨_, rfl, by simp [h2_24]⟩, N0, rfl⟩
  · obtain ⟨fs, hr, hrun, hended, hW, hsame⟩ := X0.leave (v := some (.int va)) (fun h => by rw [Bd.returns] at h; cases h)
    refine ⟨_, _, pre0 _ ?_, hrun, hended, _, _, rfl, ?_, ⟨_, rfl⟩, hW, hsame.mono (by decide) (by decide)⟩
    · show Steps p.tables e below (s₁.setTop (mkF m 0 #[.val (.int va), .val (.int vb)] [])) _
      refine XS.iloadN X0.here hx rfl (hb hby d_jdk_29_method_69_code_0) rfl ?_
      show Steps p.tables e below (s₁.setTop (mkF m 1 #[.val (.int va), .val (.int vb)] [(.int va)])) _
      refine XS.iloadN X0.here hx rfl (hb hby d_jdk_29_method_69_code_1) rfl ?_
      show Steps p.tables e below (s₁.setTop (mkF m 2 #[.val (.int va), .val (.int vb)] [(.int vb), (.int va)])) _
      refine XS.icmpNo X0.here hx rfl (hb hby d_jdk_29_method_69_code_2) rfl (flt h2_24).2.2.1 ?_
      show Steps p.tables e below (s₁.setTop (mkF m 5 #[.val (.int va), .val (.int vb)] [])) _
      refine XS.iloadN X0.here hx rfl (hb hby d_jdk_29_method_69_code_5) rfl ?_
      show Steps p.tables e below (s₁.setTop (mkF m 6 #[.val (.int va), .val (.int vb)] [(.int va)])) _
      refine XS.goto X0.here hx rfl (pc0 := 6) (pc' := 10) rfl (hb hby d_jdk_29_method_69_code_6) (by decide) (by decide) ?_
      show Steps p.tables e below (s₁.setTop (mkF m 10 #[.val (.int va), .val (.int vb)] [(.int va)])) _
      exact retI X0 hx Bd.returns (hb hby d_jdk_29_method_69_code_10) hr
    · show Q_min Z va vb h0 n0 _ s₁.heap _
      rw [e0]
      exact ⟨⟨_, rfl, by simp [h2_24]⟩, N0, rfl⟩
theorem pn_4 : plainName "com/example/sealwright/sealwright/io/XmlWriter" = true := by first | (simp [plainName, overriddenIn]; done) | decide +kernel
theorem d_prog_85_method_26_code_0 : decode prog_85_method_26_code 0 = .ok (.aload_n 0, 1) := by decide +kernel
theorem d_prog_85_method_26_code_1 : decode prog_85_method_26_code 1 = .ok (.getfield 7, 3) := by decide +kernel
theorem d_prog_85_method_26_code_4 : decode prog_85_method_26_code 4 = .ok (.arraylength, 1) := by decide +kernel
theorem d_prog_85_method_26_code_5 : decode prog_85_method_26_code 5 = .ok (.aload_n 0, 1) := by decide +kernel
theorem d_prog_85_method_26_code_6 : decode prog_85_method_26_code 6 = .ok (.getfield 100, 3) := by decide +kernel
theorem d_prog_85_method_26_code_9 : decode prog_85_method_26_code 9 = .ok (.isub, 1) := by decide +kernel
theorem d_prog_85_method_26_code_10 : decode prog_85_method_26_code 10 = .ok (.iload_n 1, 1) := by decide +kernel
theorem d_prog_85_method_26_code_11 : decode prog_85_method_26_code 11 = .ok (.if_icmp .lt 4, 3) := by decide +kernel
theorem d_prog_85_method_26_code_14 : decode prog_85_method_26_code 14 = .ok (.return_, 1) := by decide +kernel
theorem ef_room (m : MethodId) (ra : Addr) (vn : Int32) : entryFrame m #[(.ref ra), (.int vn)] 6 = mkF m 0 #[.val (.ref ra), .val (.int vn), .unset, .unset, .unset, .unset] [] := by first | (simp [entryFrame, mkF, argsToLocals, Value.category]; done) | rfl
def Q_room (Z : State) (ra : Addr) (vn : Int32) (rb : Addr) (rd : Addr) (kb : ClassId) (vst : Int32) (ven : Int32) (bs : List Int32) (h0 : Heap) (n0 : Nat) (v : Option Value) (h : Heap) (L : List Loc) : Prop := v = none ∧ Fr n0 L ∧ h = h0
set_option maxRecDepth 65536 in
set_option maxHeartbeats 40000000 in
theorem rm_room (l : Launch) (Z : State) (a0 : Array Value) (hw : ∀ d ∈ tables_1, d.before a0 Z = true) (ws : List Jvm.Cond) (ra : Addr) (vn : Int32) (rb : Addr) (rd : Addr) (kb : ClassId) (vst : Int32) (ven : Int32) (bs : List Int32) (h0 : Heap) (n0 : Nat) (Z0 : n0 ≤ h0.size) (Wr0 : own_W Z h0 ra rb rd kb vst ven bs) (g_ra : n0 ≤ ra) (g_rb : n0 ≤ rb) (hro : ¬ ((1024 : Int32) - ven) < vn) :
    MetFree l (⟨"com/example/sealwright/sealwright/io/XmlWriter", "room", "(I)V"⟩ : MethodName) (head1 (Jvm.Cond.code (⟨"com/example/sealwright/sealwright/io/XmlWriter", "room", "(I)V"⟩ : MethodName) prog_85_method_26_code 6 none :: ws) ({ frames := 0, cells := 0, slots := 0, locals := 0 } : Room)) (fun a U => a = #[(.ref ra), (.int vn)] ∧ Z.Warmed39 U.vm ∧ U.heap = h0) (fun _ _ _ _ _ => True) (fun _ U o U' => ∃ v L, o = .returned v ∧ Q_room Z ra vn rb rd kb vst ven bs h0 n0 v U'.heap L ∧ FrameEnd U o U' L ({ frames := 0, cells := 0, slots := 0, locals := 0 } : Room).cells ({ frames := 0, cells := 0, slots := 0, locals := 0 } : Room).slots) := by
  refine MetFree.of_bodySF (plainFor_of_name pn_4) hisR ?_
  intro p e s m args below meth c s₁ Bd hml0 hP hK
  obtain ⟨rfl, hZ, hh⟩ := hP
  have hx := Bd.exec
  have hby := Bd.bytes
  have hml : c.maxLocals = 6 := hml0
  have hown : s.vm.findClass "com/example/sealwright/sealwright/io/XmlWriter" = some m.cls := findClass_of_methodNamed Bd.named
  have hnm := (name_of_methodNamed Bd.named Bd.method).1
  have X0 : Stand p l e ({ frames := 0, cells := 0, slots := 0, locals := 0 } : Room) s m #[(.ref ra), (.int vn)] below meth c s₁ [] 0 0 := Stand.of_body Bd
  have e0 : s₁.heap = h0 := by rw [← hh, Bd.state]; rfl
  have N0 := Fr.nil n0
  have pre0 : ∀ t, Steps p.tables e below (s₁.setTop (mkF m 0 #[.val (.ref ra), .val (.int vn), .unset, .unset, .unset, .unset] [])) t → Steps p.tables e below (s₁.setTop (entryFrame m #[(.ref ra), (.int vn)] 6)) t := fun t k => castTop (ef_room m ra vn) k
  obtain ⟨E_ra, F_bytes, F_start, F_end, F_open, Av⟩ := id Wr0
  obtain ⟨T25, X25, e25, st25⟩ := getF X0 hx hZ hown (host := "") (Or.inl (hw _ (List.mem_of_getElem? (i := 18) rfl))) Via.refl e0 F_bytes (g := (mkF m 1 #[.val (.ref ra), .val (.int vn), .unset, .unset, .unset, .unset] [(.ref ra)])) rfl rfl (hb hby d_prog_85_method_26_code_1)
  obtain ⟨cl26, Ar26, -, S26, N26a, -, -⟩ := id Av
  obtain ⟨T27, X27, e27, st27⟩ := getF X25 hx hZ hown (host := "") (Or.inl (hw _ (List.mem_of_getElem? (i := 88) rfl))) Via.refl e25 F_end (g := (mkF m 6 #[.val (.ref ra), .val (.int vn), .unset, .unset, .unset, .unset] [(.ref ra), (.int (1024 : Int32))])) rfl rfl (hb hby d_prog_85_method_26_code_6)
  obtain ⟨fs, hr, hrun, hended, hW, hsame⟩ := X27.leave (v := none) (fun _ => rfl)
  refine ⟨_, _, pre0 _ ?_, hrun, hended, _, _, rfl, ?_, ⟨_, rfl⟩, hW, hsame.mono (by decide) (by decide)⟩
  · show Steps p.tables e below (s₁.setTop (mkF m 0 #[.val (.ref ra), .val (.int vn), .unset, .unset, .unset, .unset] [])) _
    refine XS.aloadN X0.here hx rfl (hb hby d_prog_85_method_26_code_0) rfl rfl ?_
    show Steps p.tables e below (s₁.setTop (mkF m 1 #[.val (.ref ra), .val (.int vn), .unset, .unset, .unset, .unset] [(.ref ra)])) _
    refine st25 _ ?_
    show Steps p.tables e below (T25.setTop (mkF m 4 #[.val (.ref ra), .val (.int vn), .unset, .unset, .unset, .unset] [(.ref rb)])) _
    refine X25.arraylength hx (by rw [e25]; exact Ar26.1) (State.isArrayOf_alike hZ.alike Ar26.2.1) (g := (mkF m 4 #[.val (.ref ra), .val (.int vn), .unset, .unset, .unset, .unset] [(.ref rb)])) rfl rfl (hb hby d_prog_85_method_26_code_4) _ ?_
    rw [len_of S26 N26a]
    show Steps p.tables e below (T25.setTop (mkF m 5 #[.val (.ref ra), .val (.int vn), .unset, .unset, .unset, .unset] [(.int (1024 : Int32))])) _
    refine XS.aloadN X25.here hx rfl (hb hby d_prog_85_method_26_code_5) rfl rfl ?_
    show Steps p.tables e below (T25.setTop (mkF m 6 #[.val (.ref ra), .val (.int vn), .unset, .unset, .unset, .unset] [(.ref ra), (.int (1024 : Int32))])) _
    refine st27 _ ?_
    show Steps p.tables e below (T27.setTop (mkF m 9 #[.val (.ref ra), .val (.int vn), .unset, .unset, .unset, .unset] [(.int ven), (.int (1024 : Int32))])) _
    refine XS.isub X27.here hx rfl (hb hby d_prog_85_method_26_code_9) rfl ?_
    show Steps p.tables e below (T27.setTop (mkF m 10 #[.val (.ref ra), .val (.int vn), .unset, .unset, .unset, .unset] [(.int ((1024 : Int32) - ven))])) _
    refine XS.iloadN X27.here hx rfl (hb hby d_prog_85_method_26_code_10) rfl ?_
    show Steps p.tables e below (T27.setTop (mkF m 11 #[.val (.ref ra), .val (.int vn), .unset, .unset, .unset, .unset] [(.int vn), (.int ((1024 : Int32) - ven))])) _
    refine XS.icmpNo X27.here hx rfl (hb hby d_prog_85_method_26_code_11) rfl (flt (hro : ¬ (((1024 : Int32) - ven) < vn))).1 ?_
    show Steps p.tables e below (T27.setTop (mkF m 14 #[.val (.ref ra), .val (.int vn), .unset, .unset, .unset, .unset] [])) _
    exact X27.returnOut hx Bd.returns (hb hby d_prog_85_method_26_code_14) hr
  · show Q_room Z ra vn rb rd kb vst ven bs h0 n0 _ T27.heap _
    rw [e27]
    exact ⟨rfl, N0, rfl⟩
theorem own_r4 (v : Int32) (h : 0 ≤ v.toInt ∧ v.toInt ≤ 1000) : ¬ ((1024 : Int32) - v) < (4 : Int32) := by
  have a := c_isub 1024 v
  have b := rng32 ((1024 : Int32) - v)
  rw [own_lt]
  rw [show (1024 : Int32).toInt = 1024 from by decide] at a
  rw [show (4 : Int32).toInt = 4 from by decide]
  omega
theorem own_ix (v : Int32) (h : 0 ≤ v.toInt ∧ v.toInt ≤ 1000) : ¬ v < 0 ∧ v < (1024 : Int32) := by
  rw [own_lt, own_lt, show (0 : Int32).toInt = 0 from by decide, show (1024 : Int32).toInt = 1024 from by decide]; omega
theorem own_il (v : Int32) (bs : List Int32) (h : 0 ≤ v.toInt ∧ v.toInt ≤ 1000) (hl : bs.length = 1024) : v.toNatClampNeg < (bs.map Value.int).length := by
  rw [List.length_map, hl]; have := own_nat v h.1; omega
theorem d_prog_85_method_25_code_0 : decode prog_85_method_25_code 0 = .ok (.aload_n 0, 1) := by decide +kernel
theorem d_prog_85_method_25_code_1 : decode prog_85_method_25_code 1 = .ok (.iconst 4, 1) := by decide +kernel
theorem d_prog_85_method_25_code_2 : decode prog_85_method_25_code 2 = .ok (.invokevirtual 96, 3) := by decide +kernel
theorem pd_5 : parseMethodDescriptor "(I)V" = some ⟨[.int], none⟩ := by decide +kernel
theorem d_prog_85_method_25_code_5 : decode prog_85_method_25_code 5 = .ok (.iload_n 1, 1) := by decide +kernel
theorem d_prog_85_method_25_code_6 : decode prog_85_method_25_code 6 = .ok (.sipush 128, 3) := by decide +kernel
theorem d_prog_85_method_25_code_9 : decode prog_85_method_25_code 9 = .ok (.if_icmp .ge 24, 3) := by decide +kernel
theorem d_prog_85_method_25_code_12 : decode prog_85_method_25_code 12 = .ok (.aload_n 0, 1) := by decide +kernel
theorem d_prog_85_method_25_code_13 : decode prog_85_method_25_code 13 = .ok (.getfield 7, 3) := by decide +kernel
theorem d_prog_85_method_25_code_16 : decode prog_85_method_25_code 16 = .ok (.aload_n 0, 1) := by decide +kernel
theorem d_prog_85_method_25_code_17 : decode prog_85_method_25_code 17 = .ok (.dup, 1) := by decide +kernel
theorem d_prog_85_method_25_code_18 : decode prog_85_method_25_code 18 = .ok (.getfield 100, 3) := by decide +kernel
theorem d_prog_85_method_25_code_21 : decode prog_85_method_25_code 21 = .ok (.dup_x1, 1) := by decide +kernel
theorem d_prog_85_method_25_code_22 : decode prog_85_method_25_code 22 = .ok (.iconst 1, 1) := by decide +kernel
theorem d_prog_85_method_25_code_23 : decode prog_85_method_25_code 23 = .ok (.iadd, 1) := by decide +kernel
theorem d_prog_85_method_25_code_24 : decode prog_85_method_25_code 24 = .ok (.putfield 100, 3) := by decide +kernel
theorem d_prog_85_method_25_code_27 : decode prog_85_method_25_code 27 = .ok (.iload_n 1, 1) := by decide +kernel
theorem d_prog_85_method_25_code_28 : decode prog_85_method_25_code 28 = .ok (.i2b, 1) := by decide +kernel
theorem d_prog_85_method_25_code_29 : decode prog_85_method_25_code 29 = .ok (.bastore, 1) := by decide +kernel
theorem d_prog_85_method_25_code_30 : decode prog_85_method_25_code 30 = .ok (.goto 291, 3) := by decide +kernel
theorem d_prog_85_method_25_code_321 : decode prog_85_method_25_code 321 = .ok (.return_, 1) := by decide +kernel
theorem ef_enc (m : MethodId) (ra : Addr) (vc : Int32) : entryFrame m #[(.ref ra), (.int vc)] 2 = mkF m 0 #[.val (.ref ra), .val (.int vc)] [] := by first | (simp [entryFrame, mkF, argsToLocals, Value.category]; done) | rfl
def Q_enc (Z : State) (ra : Addr) (vc : Int32) (rb : Addr) (rd : Addr) (kb : ClassId) (vst : Int32) (ven : Int32) (bs : List Int32) (h0 : Heap) (n0 : Nat) (v : Option Value) (h : Heap) (L : List Loc) : Prop := v = none ∧ Fr n0 L ∧ Keep h0 h [ra, rb] ∧ (own_W Z h ra rb rd kb vst (ven + (1 : Int32)) (bs.set (ven).toNatClampNeg vc))
set_option maxRecDepth 65536 in
set_option maxHeartbeats 40000000 in
theorem rm_enc (l : Launch) (Z : State) (a0 : Array Value) (hw : ∀ d ∈ tables_1, d.before a0 Z = true) (ws : List Jvm.Cond) (ra : Addr) (vc : Int32) (rb : Addr) (rd : Addr) (kb : ClassId) (vst : Int32) (ven : Int32) (bs : List Int32) (h0 : Heap) (n0 : Nat) (Z0 : n0 ≤ h0.size) (Wr0 : own_W Z h0 ra rb rd kb vst ven bs) (g_ra : n0 ≤ ra) (g_rb : n0 ≤ rb) (hen : 0 ≤ ven.toInt ∧ ven.toInt ≤ 1000) (hlen : bs.length = 1024) (hvc : 0 ≤ vc.toInt ∧ vc.toInt < 128) :
    MetFree l (⟨"com/example/sealwright/sealwright/io/XmlWriter", "encode", "(I)V"⟩ : MethodName) (head1 (Jvm.Cond.code (⟨"com/example/sealwright/sealwright/io/XmlWriter", "encode", "(I)V"⟩ : MethodName) prog_85_method_25_code 2 none :: ws) ({ frames := 1, cells := 0, slots := 0, locals := 17 } : Room)) (fun a U => a = #[(.ref ra), (.int vc)] ∧ Z.Warmed39 U.vm ∧ U.heap = h0) (fun _ _ _ _ _ => True) (fun _ U o U' => ∃ v L, o = .returned v ∧ Q_enc Z ra vc rb rd kb vst ven bs h0 n0 v U'.heap L ∧ FrameEnd U o U' L ({ frames := 1, cells := 0, slots := 0, locals := 17 } : Room).cells ({ frames := 1, cells := 0, slots := 0, locals := 17 } : Room).slots) := by
  refine MetFree.of_bodySF (plainFor_of_name pn_4) hisR ?_
  intro p e s m args below meth c s₁ Bd hml0 hP hK
  obtain ⟨rfl, hZ, hh⟩ := hP
  have hx := Bd.exec
  have hby := Bd.bytes
  have hml : c.maxLocals = 2 := hml0
  have hown : s.vm.findClass "com/example/sealwright/sealwright/io/XmlWriter" = some m.cls := findClass_of_methodNamed Bd.named
  have hnm := (name_of_methodNamed Bd.named Bd.method).1
  have X0 : Stand p l e ({ frames := 1, cells := 0, slots := 0, locals := 17 } : Room) s m #[(.ref ra), (.int vc)] below meth c s₁ [] 0 0 := Stand.of_body Bd
  have e0 : s₁.heap = h0 := by rw [← hh, Bd.state]; rfl
  have N0 := Fr.nil n0
  have pre0 : ∀ t, Steps p.tables e below (s₁.setTop (mkF m 0 #[.val (.ref ra), .val (.int vc)] [])) t → Steps p.tables e below (s₁.setTop (entryFrame m #[(.ref ra), (.int vc)] 2)) t := fun t k => castTop (ef_enc m ra vc) k
  have kp0 : Keep h0 h0 [ra, rb] := Keep.refl h0 _
  obtain ⟨E_ra, F_bytes, F_start, F_end, F_open, Av⟩ := id Wr0
  obtain ⟨cq28, q28, q28'⟩ := E_ra.cell
  obtain ⟨_, _, ⟨T28, L28, k28, n28⟩, -, X28, ⟨Lc28, hQ28, l28, y28, z28⟩, st28⟩ := X0.privateBack hx (y := (⟨"com/example/sealwright/sealwright/io/XmlWriter", "room", "(I)V"⟩ : MethodName)) hown (mvT hZ (hw _ (List.mem_of_getElem? (i := 84) rfl))) (mvT hZ (hw _ (List.mem_of_getElem? (i := 85) rfl))) (mvT hZ (own_sel (y := (⟨"com/example/sealwright/sealwright/io/XmlWriter", "room", "(I)V"⟩ : MethodName)) (hw _ (List.mem_of_getElem? (i := 10) rfl)) (hw _ (List.mem_of_getElem? (i := 86) rfl)) (hw _ (List.mem_of_getElem? (i := 85) rfl)) (by decide))) (Cond.privateMethod_at (mvP hZ (hw _ (List.mem_of_getElem? (i := 86) rfl)) (args := #[]))) (mvT hZ (hw _ (List.mem_of_getElem? (i := 87) rfl))) (by decide) (backOf (W := 0) (rm_room l Z a0 hw [] ra (4 : Int32) rb rd kb vst ven bs h0 n0 Z0 ⟨E_ra, F_bytes, F_start, F_end, F_open, Av⟩ g_ra g_rb (own_r4 ven hen)) hZ (hw _ (List.mem_of_getElem? (i := 87) rfl)) (hw _ (List.mem_of_getElem? (i := 11) rfl)) (by decide) (by decide)) (g := (mkF m 2 #[.val (.ref ra), .val (.int vc)] [(.int (4 : Int32)), (.ref ra)])) rfl (by rw [hml]; rfl) (Steps.refl _) (a := ra) (by rw [e0]; exact q28) q28' (argsL := [(.int (4 : Int32))]) (rest := []) (lenOf pd_5 rfl) rfl (by show 2 * 0 + _ ≤ _; exact Nat.le_of_eq rfl) (hb hby d_prog_85_method_25_code_2) (fun _ _ => ⟨rfl, e0, (by decide : 0 + 0 ≤ _), (by decide : 0 + 0 ≤ _)⟩)
  dsimp only [Pt.U, Pt.locs, Pt.cells, Pt.slots] at X28 l28 y28 z28 st28 hQ28
  subst l28 y28 z28
  obtain ⟨rfl, N28q, e28⟩ := hQ28
  have N28 := Fr.app N0 N28q
  obtain ⟨T29, X29, e29, st29⟩ := getF X28 hx hZ hown (host := "") (Or.inl (hw _ (List.mem_of_getElem? (i := 18) rfl))) Via.refl e28 F_bytes (g := (mkF m 13 #[.val (.ref ra), .val (.int vc)] [(.ref ra)])) rfl rfl (hb hby d_prog_85_method_25_code_13)
  obtain ⟨T30, X30, e30, st30⟩ := getF X29 hx hZ hown (host := "") (Or.inl (hw _ (List.mem_of_getElem? (i := 88) rfl))) Via.refl e29 F_end (g := (mkF m 18 #[.val (.ref ra), .val (.int vc)] [(.ref ra), (.ref ra), (.ref rb)])) rfl rfl (hb hby d_prog_85_method_25_code_18)
  obtain ⟨T31, h31, X31, e31, W31, st31⟩ := putF X30 hx hZ hown (host := "") (Or.inl (hw _ (List.mem_of_getElem? (i := 88) rfl))) Via.refl e30 F_end E_ra (Or.inl (hw _ (List.mem_of_getElem? (i := 89) rfl))) (hw _ (List.mem_of_getElem? (i := 10) rfl)) (ty := .int) (by decide) rfl rfl (g := (mkF m 24 #[.val (.ref ra), .val (.int vc)] [(.int (ven + (1 : Int32))), (.ref ra), (.int ven), (.ref rb)])) rfl rfl (hb hby d_prog_85_method_25_code_24)
  have E_ra_c31 := E_ra.wr W31
  have Av_c31 := Av.other W31 (Ne.symm (Exa.neArv E_ra Av (hw _ (List.mem_of_getElem? (i := 10) rfl))))
  have F_bytes_c31 := F_bytes.other W31 (Or.inr (slot_ne (Or.inl (hw _ (List.mem_of_getElem? (i := 19) rfl))) (Or.inl (hw _ (List.mem_of_getElem? (i := 89) rfl))) (by decide) (t := (.array .byte)) (t' := .int) (by decide) (by decide)))
  have F_start_c31 := F_start.other W31 (Or.inr (slot_ne (Or.inl (hw _ (List.mem_of_getElem? (i := 96) rfl))) (Or.inl (hw _ (List.mem_of_getElem? (i := 89) rfl))) (by decide) (t := .int) (t' := .int) (by decide) (by decide)))
  have F_open_c31 := F_open.other W31 (Or.inr (slot_ne (Or.inr (hw _ (List.mem_of_getElem? (i := 38) rfl))) (Or.inl (hw _ (List.mem_of_getElem? (i := 89) rfl))) (by decide) (t := (.object "java/util/Deque")) (t' := .int) (by decide) (by decide)))
  have Fd_end_ra_31 := F_end.same W31
  have Z31 : n0 ≤ h31.size := Nat.le_trans Z0 (Keep.of_wr W31).1
  have kp31 := kp0.wr W31 (Or.inl (List.mem_of_getElem? (i := 0) rfl))
  have N31 := Fr.snoc X31 N28 g_ra
  obtain ⟨cl32, Ar32, q32, S32, N32a, H32, G32⟩ := id Av_c31
  have hin32 : ¬ (ven < 0 ∨ cl32.slots.size ≤ (ven).toNatClampNeg) := inb_of S32 (own_ix ven hen)
  obtain ⟨T32, h32, X32, e32, W32, st32⟩ := stB X31 hx hZ e31 Ar32 (j := ven) hin32 (g := (mkF m 29 #[.val (.ref ra), .val (.int vc)] [(.int (vc.toInt8.toInt32)), (.int ven), (.ref rb)])) rfl rfl (hb hby d_prog_85_method_25_code_29)
  have Av_rb_32 : Arv Z h32 rb kb .byte (1024 : Int32) ((bs.set (ven).toNatClampNeg vc).map Value.int) (.int (0 : Int32)) := own_set (Arv.set Ar32 q32 S32 N32a H32 G32 (fits_nar_byte _) W32 (ven).toNatClampNeg rfl (own_il ven bs hen hlen)) (by rw [show vc.toInt8.toInt32.toInt8.toInt32 = vc from own_nb vc hvc.1 hvc.2])
  have E_ra_c32 := E_ra_c31.wr W32
  have F_bytes_c32 := F_bytes_c31.other W32 (Or.inl (Exa.neArv E_ra_c31 Av_c31 (hw _ (List.mem_of_getElem? (i := 10) rfl))))
  have F_start_c32 := F_start_c31.other W32 (Or.inl (Exa.neArv E_ra_c31 Av_c31 (hw _ (List.mem_of_getElem? (i := 10) rfl))))
  have F_open_c32 := F_open_c31.other W32 (Or.inl (Exa.neArv E_ra_c31 Av_c31 (hw _ (List.mem_of_getElem? (i := 10) rfl))))
  have Fd_end_ra_31_c32 := Fd_end_ra_31.other W32 (Or.inl (Exa.neArv E_ra_c31 Av_c31 (hw _ (List.mem_of_getElem? (i := 10) rfl))))
  have Z32 : n0 ≤ h32.size := Nat.le_trans Z31 (Keep.of_wr W32).1
  have kp32 := kp31.wr W32 (Or.inl (List.mem_of_getElem? (i := 1) rfl))
  have N32 := Fr.snoc X32 N31 g_rb
  obtain ⟨fs, hr, hrun, hended, hW, hsame⟩ := X32.leave (v := none) (fun _ => rfl)
  refine ⟨_, _, pre0 _ ?_, hrun, hended, _, _, rfl, ?_, ⟨_, rfl⟩, hW, hsame.mono (by decide) (by decide)⟩
  · show Steps p.tables e below (s₁.setTop (mkF m 0 #[.val (.ref ra), .val (.int vc)] [])) _
    refine XS.aloadN X0.here hx rfl (hb hby d_prog_85_method_25_code_0) rfl rfl ?_
    show Steps p.tables e below (s₁.setTop (mkF m 1 #[.val (.ref ra), .val (.int vc)] [(.ref ra)])) _
    refine XS.iconst X0.here hx rfl (hb hby d_prog_85_method_25_code_1) ?_
    show Steps p.tables e below (s₁.setTop (mkF m 2 #[.val (.ref ra), .val (.int vc)] [(.int (4 : Int32)), (.ref ra)])) _
    refine st28.trans ?_
    show Steps p.tables e below (T28.setTop (mkF m 5 #[.val (.ref ra), .val (.int vc)] [])) _
    refine XS.iloadN X28.here hx rfl (hb hby d_prog_85_method_25_code_5) rfl ?_
    show Steps p.tables e below (T28.setTop (mkF m 6 #[.val (.ref ra), .val (.int vc)] [(.int vc)])) _
    refine XS.sipush X28.here hx rfl (hb hby d_prog_85_method_25_code_6) ?_
    show Steps p.tables e below (T28.setTop (mkF m 9 #[.val (.ref ra), .val (.int vc)] [(.int (128 : Int32)), (.int vc)])) _
    refine XS.icmpNo X28.here hx rfl (hb hby d_prog_85_method_25_code_9) rfl (tlt (by rw [own_lt, show (128 : Int32).toInt = 128 from by decide]; exact hvc.2 : vc < (128 : Int32))).2.1 ?_
    show Steps p.tables e below (T28.setTop (mkF m 12 #[.val (.ref ra), .val (.int vc)] [])) _
    refine XS.aloadN X28.here hx rfl (hb hby d_prog_85_method_25_code_12) rfl rfl ?_
    show Steps p.tables e below (T28.setTop (mkF m 13 #[.val (.ref ra), .val (.int vc)] [(.ref ra)])) _
    refine st29 _ ?_
    show Steps p.tables e below (T29.setTop (mkF m 16 #[.val (.ref ra), .val (.int vc)] [(.ref rb)])) _
    refine XS.aloadN X29.here hx rfl (hb hby d_prog_85_method_25_code_16) rfl rfl ?_
    show Steps p.tables e below (T29.setTop (mkF m 17 #[.val (.ref ra), .val (.int vc)] [(.ref ra), (.ref rb)])) _
    refine XS.dup X29.here hx rfl (hb hby d_prog_85_method_25_code_17) rfl rfl ?_
    show Steps p.tables e below (T29.setTop (mkF m 18 #[.val (.ref ra), .val (.int vc)] [(.ref ra), (.ref ra), (.ref rb)])) _
    refine st30 _ ?_
    show Steps p.tables e below (T30.setTop (mkF m 21 #[.val (.ref ra), .val (.int vc)] [(.int ven), (.ref ra), (.ref rb)])) _
    refine XS.dupX1 X30.here hx rfl (hb hby d_prog_85_method_25_code_21) rfl rfl rfl ?_
    show Steps p.tables e below (T30.setTop (mkF m 22 #[.val (.ref ra), .val (.int vc)] [(.int ven), (.ref ra), (.int ven), (.ref rb)])) _
    refine XS.iconst X30.here hx rfl (hb hby d_prog_85_method_25_code_22) ?_
    show Steps p.tables e below (T30.setTop (mkF m 23 #[.val (.ref ra), .val (.int vc)] [(.int (1 : Int32)), (.int ven), (.ref ra), (.int ven), (.ref rb)])) _
    refine XS.iadd X30.here hx rfl (hb hby d_prog_85_method_25_code_23) rfl ?_
    show Steps p.tables e below (T30.setTop (mkF m 24 #[.val (.ref ra), .val (.int vc)] [(.int (ven + (1 : Int32))), (.ref ra), (.int ven), (.ref rb)])) _
    refine st31 _ ?_
    show Steps p.tables e below (T31.setTop (mkF m 27 #[.val (.ref ra), .val (.int vc)] [(.int ven), (.ref rb)])) _
    refine XS.iloadN X31.here hx rfl (hb hby d_prog_85_method_25_code_27) rfl ?_
    show Steps p.tables e below (T31.setTop (mkF m 28 #[.val (.ref ra), .val (.int vc)] [(.int vc), (.int ven), (.ref rb)])) _
    refine XS.i2b X31.here hx rfl (hb hby d_prog_85_method_25_code_28) rfl ?_
    show Steps p.tables e below (T31.setTop (mkF m 29 #[.val (.ref ra), .val (.int vc)] [(.int (vc.toInt8.toInt32)), (.int ven), (.ref rb)])) _
    refine st32 _ ?_
    show Steps p.tables e below (T32.setTop (mkF m 30 #[.val (.ref ra), .val (.int vc)] [])) _
    refine XS.goto X32.here hx rfl (pc0 := 30) (pc' := 321) rfl (hb hby d_prog_85_method_25_code_30) (by decide) (by decide) ?_
    show Steps p.tables e below (T32.setTop (mkF m 321 #[.val (.ref ra), .val (.int vc)] [])) _
    exact X32.returnOut hx Bd.returns (hb hby d_prog_85_method_25_code_321) hr
  · show Q_enc Z ra vc rb rd kb vst ven bs h0 n0 _ T32.heap _
    rw [e32]
    exact ⟨rfl, N32, kp32, ⟨E_ra_c32, F_bytes_c32, F_start_c32, Fd_end_ra_31_c32, F_open_c32, Av_rb_32⟩⟩
theorem own_head (ds rs : List Int32) (d : Int32) (i : Nat) (h : d :: rs = ds.drop i) : ds.getD i 0 = d ∧ rs = ds.drop (i + 1) := by
  have h1 : (ds.drop i)[0]? = some d := by rw [← h]; rfl
  rw [List.getElem?_drop] at h1
  refine ⟨?_, ?_⟩
  · rw [List.getD_eq_getElem?_getD, show ds[i]? = some d from h1]; rfl
  · rw [← List.drop_drop, ← h]; rfl
theorem own_add1 (v : Int32) (h0 : 0 ≤ v.toInt) (h1 : v.toInt ≤ 100000) : (v + (1 : Int32)).toInt = v.toInt + 1 := by
  have a := c_iadd v 1
  have b := rng32 (v + 1)
  rw [show (1 : Int32).toInt = 1 from by decide] at a
  omega
theorem own_addn (v w : Int32) (h0 : 0 ≤ v.toInt) (h1 : v.toInt ≤ 100000) (h2 : 0 ≤ w.toInt) (h3 : w.toInt ≤ 100000) : (v + w).toInt = v.toInt + w.toInt := by
  have a := c_iadd v w
  have b := rng32 (v + w)
  omega
theorem d_prog_85_method_24_code_2 : decode prog_85_method_24_code 2 = .ok (.iload_n 2, 1) := by decide +kernel
theorem d_prog_85_method_24_code_3 : decode prog_85_method_24_code 3 = .ok (.aload_n 1, 1) := by decide +kernel
theorem d_prog_85_method_24_code_4 : decode prog_85_method_24_code 4 = .ok (.invokevirtual 338, 3) := by decide +kernel
theorem pd_6 : parseMethodDescriptor "()I" = some ⟨[], some .int⟩ := by decide +kernel
theorem d_prog_85_method_24_code_7 : decode prog_85_method_24_code 7 = .ok (.if_icmp .ge 24, 3) := by decide +kernel
theorem d_prog_85_method_24_code_10 : decode prog_85_method_24_code 10 = .ok (.aload_n 1, 1) := by decide +kernel
theorem d_prog_85_method_24_code_11 : decode prog_85_method_24_code 11 = .ok (.iload_n 2, 1) := by decide +kernel
theorem d_prog_85_method_24_code_12 : decode prog_85_method_24_code 12 = .ok (.invokevirtual 339, 3) := by decide +kernel
theorem pd_7 : parseMethodDescriptor "(I)I" = some ⟨[.int], some .int⟩ := by decide +kernel
theorem d_prog_85_method_24_code_15 : decode prog_85_method_24_code 15 = .ok (.istore_n 3, 1) := by decide +kernel
theorem d_prog_85_method_24_code_16 : decode prog_85_method_24_code 16 = .ok (.iload_n 2, 1) := by decide +kernel
theorem d_prog_85_method_24_code_17 : decode prog_85_method_24_code 17 = .ok (.iload_n 3, 1) := by decide +kernel
theorem d_prog_85_method_24_code_18 : decode prog_85_method_24_code 18 = .ok (.invokestatic 60, 3) := by decide +kernel
theorem d_prog_85_method_24_code_21 : decode prog_85_method_24_code 21 = .ok (.iadd, 1) := by decide +kernel
theorem d_prog_85_method_24_code_22 : decode prog_85_method_24_code 22 = .ok (.istore_n 2, 1) := by decide +kernel
theorem d_prog_85_method_24_code_23 : decode prog_85_method_24_code 23 = .ok (.aload_n 0, 1) := by decide +kernel
theorem d_prog_85_method_24_code_24 : decode prog_85_method_24_code 24 = .ok (.iload_n 3, 1) := by decide +kernel
theorem d_prog_85_method_24_code_25 : decode prog_85_method_24_code 25 = .ok (.invokevirtual 335, 3) := by decide +kernel
theorem d_prog_85_method_24_code_28 : decode prog_85_method_24_code 28 = .ok (.goto (-26), 3) := by decide +kernel
theorem d_prog_85_method_24_code_0 : decode prog_85_method_24_code 0 = .ok (.iconst 0, 1) := by decide +kernel
theorem d_prog_85_method_24_code_1 : decode prog_85_method_24_code 1 = .ok (.istore_n 2, 1) := by decide +kernel
theorem d_prog_85_method_24_code_31 : decode prog_85_method_24_code 31 = .ok (.return_, 1) := by decide +kernel
theorem ef_wri (m : MethodId) (ra : Addr) (sa : Addr) : entryFrame m #[(.ref ra), (.ref sa)] 4 = mkF m 0 #[.val (.ref ra), .val (.ref sa), .unset, .unset] [] := by first | (simp [entryFrame, mkF, argsToLocals, Value.category]; done) | rfl
def Q_wri (Z : State) (ra : Addr) (sa : Addr) (rb : Addr) (rd : Addr) (kb : ClassId) (vst : Int32) (ven : Int32) (bs : List Int32) (sb : Addr) (ks : ClassId) (nn : Int32) (ds : List Int32) (h0 : Heap) (n0 : Nat) (v : Option Value) (h : Heap) (L : List Loc) : Prop := v = none ∧ Fr n0 L ∧ Keep h0 h [ra, rb] ∧ (own_W Z h ra rb rd kb vst (ven + nn) (own_wr bs ds (ven).toNatClampNeg))
set_option maxRecDepth 65536 in
set_option maxHeartbeats 40000000 in
theorem rm_wri (l : Launch) (Z : State) (a0 : Array Value) (hw : ∀ d ∈ tables_1, d.before a0 Z = true) (ws : List Jvm.Cond) (ra : Addr) (sa : Addr) (rb : Addr) (rd : Addr) (kb : ClassId) (vst : Int32) (ven : Int32) (bs : List Int32) (sb : Addr) (ks : ClassId) (nn : Int32) (ds : List Int32) (h0 : Heap) (n0 : Nat) (Z0 : n0 ≤ h0.size) (Wr0 : own_W Z h0 ra rb rd kb vst ven bs) (g_ra : n0 ≤ ra) (g_rb : n0 ≤ rb) (G : own_G Z n0 h0) (Sr : own_S Z h0 sa sb ks nn ds) (ne_sb : sb ≠ rb) (hen : 0 ≤ ven.toInt ∧ ven.toInt + nn.toInt ≤ 1000) (hlen : bs.length = 1024) (hnn : 0 ≤ nn.toInt ∧ nn.toInt ≤ 1000) (hdl : ds.length = nn.toNatClampNeg) (hds : own_asc ds) :
    MetFree l (⟨"com/example/sealwright/sealwright/io/XmlWriter", "write", "(Ljava/lang/String;)V"⟩ : MethodName) (head1 (Jvm.Cond.code (⟨"com/example/sealwright/sealwright/io/XmlWriter", "write", "(Ljava/lang/String;)V"⟩ : MethodName) prog_85_method_24_code 4 none :: ws) ({ frames := 3, cells := 0, slots := 0, locals := 41 } : Room)) (fun a U => a = #[(.ref ra), (.ref sa)] ∧ Z.Warmed39 U.vm ∧ U.heap = h0) (fun _ _ _ _ _ => True) (fun _ U o U' => ∃ v L, o = .returned v ∧ Q_wri Z ra sa rb rd kb vst ven bs sb ks nn ds h0 n0 v U'.heap L ∧ FrameEnd U o U' L ({ frames := 3, cells := 0, slots := 0, locals := 41 } : Room).cells ({ frames := 3, cells := 0, slots := 0, locals := 41 } : Room).slots) := by
  refine MetFree.of_bodySF (plainFor_of_name pn_4) hisR ?_
  intro p e s m args below meth c s₁ Bd hml0 hP hK
  obtain ⟨rfl, hZ, hh⟩ := hP
  have hx := Bd.exec
  have hby := Bd.bytes
  have hml : c.maxLocals = 4 := hml0
  have hown : s.vm.findClass "com/example/sealwright/sealwright/io/XmlWriter" = some m.cls := findClass_of_methodNamed Bd.named
  have hnm := (name_of_methodNamed Bd.named Bd.method).1
  have X0 : Stand p l e ({ frames := 3, cells := 0, slots := 0, locals := 41 } : Room) s m #[(.ref ra), (.ref sa)] below meth c s₁ [] 0 0 := Stand.of_body Bd
  have e0 : s₁.heap = h0 := by rw [← hh, Bd.state]; rfl
  have N0 := Fr.nil n0
  have pre0 : ∀ t, Steps p.tables e below (s₁.setTop (mkF m 0 #[.val (.ref ra), .val (.ref sa), .unset, .unset] [])) t → Steps p.tables e below (s₁.setTop (entryFrame m #[(.ref ra), (.ref sa)] 4)) t := fun t k => castTop (ef_wri m ra sa) k
  have kp0 : Keep h0 h0 [ra, rb] := Keep.refl h0 _
  obtain ⟨vz, hvz⟩ : ∃ z, z = ven + nn := ⟨_, rfl⟩
  have hvz1 : vz.toInt = ven.toInt + nn.toInt := by rw [hvz]; exact own_addn ven nn hen.1 (by omega) (by omega) (by omega)
  have loop : ∀ (rs : List Int32) (vi ve : Int32) (vj : Slot) (b : List Int32) (T0 : State) (L0 : List Loc), rs = ds.drop vi.toNatClampNeg → 0 ≤ vi.toInt → vi.toInt + rs.length = nn.toInt → 0 ≤ ve.toInt → ve.toInt + rs.length = vz.toInt → b.length = 1024 → (vj = .unset ∨ ∃ q : Int32, vj = .val (.int q)) → Stand p l e ({ frames := 3, cells := 0, slots := 0, locals := 41 } : Room) s m #[(.ref ra), (.ref sa)] below meth c T0 L0 0 0 → Fr n0 L0 → n0 ≤ T0.heap.size → own_W Z T0.heap ra rb rd kb vst ve b → own_S Z T0.heap sa sb ks nn ds → own_G Z n0 T0.heap → ∃ (vi' : Int32) (vj' : Slot) (T' : State) (L' : List Loc), Stand p l e ({ frames := 3, cells := 0, slots := 0, locals := 41 } : Room) s m #[(.ref ra), (.ref sa)] below meth c T' L' 0 0 ∧ Fr n0 L' ∧ Keep T0.heap T'.heap [ra, rb] ∧ own_W Z T'.heap ra rb rd kb vst vz (own_wr b rs (ve).toNatClampNeg) ∧ ∀ t, Steps p.tables e below (T'.setTop (mkF m 31 #[.val (.ref ra), .val (.ref sa), .val (.int vi'), vj'] [])) t → Steps p.tables e below (T0.setTop (mkF m 2 #[.val (.ref ra), .val (.ref sa), .val (.int vi), vj] [])) t := by
    intro rs
    induction rs with
    | nil =>
      intro vi ve vj b T0 L0 hdr hvi hvn hve hvv hbl hvj X1 N1 Z1 W1 S1 G1
      simp only [List.length_nil, Int.natCast_zero, Int.add_zero] at hvn hvv
      have hge : ¬ vi < nn := by rw [own_lt]; omega
      obtain rfl : ve = vz := Int32.toInt_inj.mp hvv
      obtain ⟨E_ra, F_bytes, F_start, F_end, F_open, Av⟩ := id W1
      obtain ⟨Es, Fc, Fv, As⟩ := id S1
      have kpL : Keep T0.heap T0.heap [ra, rb] := Keep.refl _ _
      obtain ⟨cq33, kq33, q33a, q33b, q33c⟩ := isOf hZ rfl Es
      obtain ⟨_, _, ⟨T33, L33, k33, n33⟩, -, X33, ⟨Lc33, hQ33, l33, y33, z33⟩, st33⟩ := X1.virtualBack hx (y := (⟨"java/lang/String", "length", "()I"⟩ : MethodName)) (z := (⟨"java/lang/String", "length", "()I"⟩ : MethodName)) hown (mvT hZ (hw _ (List.mem_of_getElem? (i := 44) rfl))) (mvT hZ (hw _ (List.mem_of_getElem? (i := 45) rfl))) (notFace_of_selects (args := #[]) (mvT hZ (hw _ (List.mem_of_getElem? (i := 47) rfl)))) (mvT hZ (hw _ (List.mem_of_getElem? (i := 47) rfl))) (mvT hZ (hw _ (List.mem_of_getElem? (i := 46) rfl))) (by decide) (backOf (W := 1) (rm_len l Z a0 hw [] sa sb ks nn ds T0.heap n0 Z1 G1 ⟨Es, Fc, Fv, As⟩) hZ (hw _ (List.mem_of_getElem? (i := 48) rfl)) (hw _ (List.mem_of_getElem? (i := 1) rfl)) (by decide) (by decide)) q33a q33c (g := (mkF m 4 #[.val (.ref ra), .val (.ref sa), .val (.int vi), vj] [(.ref sa), (.int vi)])) rfl (by rw [hml]; rfl) (Steps.refl _) (argsL := []) (rest := [(.int vi)]) (lenOf pd_6 rfl) rfl (by show 2 * 0 + _ ≤ _; exact Nat.le_of_eq rfl) (hb hby d_prog_85_method_24_code_4) (fun _ _ => ⟨rfl, rfl, (by decide : 0 + 0 ≤ _), (by decide : 0 + 0 ≤ _)⟩)
      dsimp only [Pt.U, Pt.locs, Pt.cells, Pt.slots] at X33 l33 y33 z33 st33 hQ33
      subst l33 y33 z33
      obtain ⟨⟨r33, rfl, hr33⟩, N33q, e33⟩ := hQ33
      have N33 := Fr.app N1 N33q
      obtain rfl : nn = r33 := hr33.symm
      refine ⟨vi, vj, T33, _, X33, N33, ?_, ?_, fun t kt => ?_⟩
      · rw [e33]; exact Keep.refl _ _
      · rw [e33]; exact ⟨E_ra, F_bytes, F_start, F_end, F_open, Av⟩
      · show Steps p.tables e below (T0.setTop (mkF m 2 #[.val (.ref ra), .val (.ref sa), .val (.int vi), vj] [])) _
        refine XS.iloadN X1.here hx rfl (hb hby d_prog_85_method_24_code_2) rfl ?_
        show Steps p.tables e below (T0.setTop (mkF m 3 #[.val (.ref ra), .val (.ref sa), .val (.int vi), vj] [(.int vi)])) _
        refine XS.aloadN X1.here hx rfl (hb hby d_prog_85_method_24_code_3) rfl rfl ?_
        show Steps p.tables e below (T0.setTop (mkF m 4 #[.val (.ref ra), .val (.ref sa), .val (.int vi), vj] [(.ref sa), (.int vi)])) _
        refine st33.trans ?_
        show Steps p.tables e below (T33.setTop (mkF m 7 #[.val (.ref ra), .val (.ref sa), .val (.int vi), vj] [(.int nn), (.int vi)])) _
        refine XS.icmpYes X33.here hx rfl (pc0 := 7) (pc' := 31) rfl (hb hby d_prog_85_method_24_code_7) rfl (flt (hge : ¬ (vi < nn))).2.1 (by decide) (by decide) ?_
        exact kt
    | cons d rs ih =>
      intro vi ve vj b T0 L0 hdr hvi hvn hve hvv hbl hvj X1 N1 Z1 W1 S1 G1
      simp only [List.length_cons, Int.natCast_add, Int.natCast_one] at hvn hvv
      have hlt : vi < nn := by rw [own_lt]; omega
      have hix : ¬ vi < 0 ∧ vi < nn := ⟨by rw [own_lt, show (0 : Int32).toInt = 0 from by decide]; omega, hlt⟩
      obtain ⟨hhd, hdr1⟩ := own_head ds rs d _ hdr
      have hv1 := own_add1 vi hvi (by omega)
      have he1 := own_add1 ve hve (by omega)
      have hve2 : ve.toInt ≤ 1000 := by omega
      have hnv := own_nat vi hvi
      have hnv1 := own_nat (vi + (1 : Int32)) (by omega)
      have hne := own_nat ve hve
      have hne0 := own_nat (ve + (1 : Int32)) (by omega)
      have hdr2 : rs = ds.drop (vi + (1 : Int32)).toNatClampNeg := by rw [show (vi + (1 : Int32)).toNatClampNeg = vi.toNatClampNeg + 1 by omega]; exact hdr1
      have hne1 : (ve + (1 : Int32)).toNatClampNeg = ve.toNatClampNeg + 1 := by omega
      have hcc : (ds.getD (vi).toNatClampNeg 0) < (65536 : Int32) := by rw [own_lt, show (65536 : Int32).toInt = 65536 from by decide]; have := (hds vi.toNatClampNeg).2; omega
      obtain ⟨E_ra, F_bytes, F_start, F_end, F_open, Av⟩ := id W1
      obtain ⟨Es, Fc, Fv, As⟩ := id S1
      have kpL : Keep T0.heap T0.heap [ra, rb] := Keep.refl _ _
      rcases hvj with rfl | ⟨q, rfl⟩
      · obtain ⟨cq34, kq34, q34a, q34b, q34c⟩ := isOf hZ rfl Es
        obtain ⟨_, _, ⟨T34, L34, k34, n34⟩, -, X34, ⟨Lc34, hQ34, l34, y34, z34⟩, st34⟩ := X1.virtualBack hx (y := (⟨"java/lang/String", "length", "()I"⟩ : MethodName)) (z := (⟨"java/lang/String", "length", "()I"⟩ : MethodName)) hown (mvT hZ (hw _ (List.mem_of_getElem? (i := 44) rfl))) (mvT hZ (hw _ (List.mem_of_getElem? (i := 45) rfl))) (notFace_of_selects (args := #[]) (mvT hZ (hw _ (List.mem_of_getElem? (i := 47) rfl)))) (mvT hZ (hw _ (List.mem_of_getElem? (i := 47) rfl))) (mvT hZ (hw _ (List.mem_of_getElem? (i := 46) rfl))) (by decide) (backOf (W := 1) (rm_len l Z a0 hw [] sa sb ks nn ds T0.heap n0 Z1 G1 ⟨Es, Fc, Fv, As⟩) hZ (hw _ (List.mem_of_getElem? (i := 48) rfl)) (hw _ (List.mem_of_getElem? (i := 1) rfl)) (by decide) (by decide)) q34a q34c (g := (mkF m 4 #[.val (.ref ra), .val (.ref sa), .val (.int vi), .unset] [(.ref sa), (.int vi)])) rfl (by rw [hml]; rfl) (Steps.refl _) (argsL := []) (rest := [(.int vi)]) (lenOf pd_6 rfl) rfl (by show 2 * 0 + _ ≤ _; exact Nat.le_of_eq rfl) (hb hby d_prog_85_method_24_code_4) (fun _ _ => ⟨rfl, rfl, (by decide : 0 + 0 ≤ _), (by decide : 0 + 0 ≤ _)⟩)
        dsimp only [Pt.U, Pt.locs, Pt.cells, Pt.slots] at X34 l34 y34 z34 st34 hQ34
        subst l34 y34 z34
        obtain ⟨⟨r34, rfl, hr34⟩, N34q, e34⟩ := hQ34
        have N34 := Fr.app N1 N34q
        obtain rfl : nn = r34 := hr34.symm
        obtain ⟨cq35, kq35, q35a, q35b, q35c⟩ := isOf hZ e34 Es
        obtain ⟨_, _, ⟨T35, L35, k35, n35⟩, -, X35, ⟨Lc35, hQ35, l35, y35, z35⟩, st35⟩ := X34.virtualBack hx (y := (⟨"java/lang/String", "codePointAt", "(I)I"⟩ : MethodName)) (z := (⟨"java/lang/String", "codePointAt", "(I)I"⟩ : MethodName)) hown (mvT hZ (hw _ (List.mem_of_getElem? (i := 57) rfl))) (mvT hZ (hw _ (List.mem_of_getElem? (i := 58) rfl))) (notFace_of_selects (args := #[]) (mvT hZ (hw _ (List.mem_of_getElem? (i := 60) rfl)))) (mvT hZ (hw _ (List.mem_of_getElem? (i := 60) rfl))) (mvT hZ (hw _ (List.mem_of_getElem? (i := 59) rfl))) (by decide) (backOf (W := 0) (rm_cpa l Z a0 hw [] sa vi sb ks nn ds T0.heap n0 Z1 G1 ⟨Es, Fc, Fv, As⟩ hix hds) hZ (hw _ (List.mem_of_getElem? (i := 61) rfl)) (hw _ (List.mem_of_getElem? (i := 1) rfl)) (by decide) (by decide)) q35a q35c (g := (mkF m 12 #[.val (.ref ra), .val (.ref sa), .val (.int vi), .unset] [(.int vi), (.ref sa)])) rfl (by rw [hml]; rfl) (Steps.refl _) (argsL := [(.int vi)]) (rest := []) (lenOf pd_7 rfl) rfl (by show 2 * 0 + _ ≤ _; exact Nat.le_of_eq rfl) (hb hby d_prog_85_method_24_code_12) (fun _ _ => ⟨rfl, e34, (by decide : 0 + 0 ≤ _), (by decide : 0 + 0 ≤ _)⟩)
        dsimp only [Pt.U, Pt.locs, Pt.cells, Pt.slots] at X35 l35 y35 z35 st35 hQ35
        subst l35 y35 z35
        obtain ⟨⟨r35, rfl, hr35⟩, N35q, e35⟩ := hQ35
        have N35 := Fr.app N34 N35q
        obtain rfl : (ds.getD (vi).toNatClampNeg 0) = r35 := hr35.symm
        obtain ⟨_, _, ⟨T36, L36, k36, n36⟩, -, X36, ⟨Lc36, hQ36, l36, y36, z36⟩, st36⟩ := Jvm.LawKit.callS X35 hx (y := (⟨"java/lang/Character", "charCount", "(I)I"⟩ : MethodName)) hown (mvT hZ (hw _ (List.mem_of_getElem? (i := 75) rfl))) (mvT hZ (hw _ (List.mem_of_getElem? (i := 76) rfl))) (mvT hZ (hw _ (List.mem_of_getElem? (i := 77) rfl))) (mvT hZ (hw _ (List.mem_of_getElem? (i := 78) rfl))) (by decide) (backOf (W := 1) (rm_cc l Z a0 hw [] (ds.getD (vi).toNatClampNeg 0) T0.heap n0 Z1 hcc) hZ (hw _ (List.mem_of_getElem? (i := 78) rfl)) (hw _ (List.mem_of_getElem? (i := 77) rfl)) (by decide) (by decide)) (g := (mkF m 18 #[.val (.ref ra), .val (.ref sa), .val (.int vi), .val (.int (ds.getD (vi).toNatClampNeg 0))] [(.int (ds.getD (vi).toNatClampNeg 0)), (.int vi)])) rfl (by rw [hml]; rfl) (argsL := [(.int (ds.getD (vi).toNatClampNeg 0))]) (rest := [(.int vi)]) (lenOf pd_7 rfl) rfl (by show 2 * 0 + _ ≤ _; exact Nat.le_of_eq rfl) (hb hby d_prog_85_method_24_code_18) (fun _ _ => ⟨rfl, e35, (by decide : 0 + 0 ≤ _), (by decide : 0 + 0 ≤ _)⟩)
        dsimp only [Pt.U, Pt.locs, Pt.cells, Pt.slots] at X36 l36 y36 z36 st36 hQ36
        subst l36 y36 z36
        obtain ⟨⟨r36, rfl, hr36⟩, N36q, e36⟩ := hQ36
        have N36 := Fr.app N35 N36q
        obtain rfl : (1 : Int32) = r36 := hr36.symm
        obtain ⟨cq37, q37, q37'⟩ := E_ra.cell
        obtain ⟨_, _, ⟨T37, L37, k37, n37⟩, -, X37, ⟨Lc37, hQ37, l37, y37, z37⟩, st37⟩ := X36.privateBack hx (y := (⟨"com/example/sealwright/sealwright/io/XmlWriter", "encode", "(I)V"⟩ : MethodName)) hown (mvT hZ (hw _ (List.mem_of_getElem? (i := 80) rfl))) (mvT hZ (hw _ (List.mem_of_getElem? (i := 81) rfl))) (mvT hZ (own_sel (y := (⟨"com/example/sealwright/sealwright/io/XmlWriter", "encode", "(I)V"⟩ : MethodName)) (hw _ (List.mem_of_getElem? (i := 10) rfl)) (hw _ (List.mem_of_getElem? (i := 82) rfl)) (hw _ (List.mem_of_getElem? (i := 81) rfl)) (by decide))) (Cond.privateMethod_at (mvP hZ (hw _ (List.mem_of_getElem? (i := 82) rfl)) (args := #[]))) (mvT hZ (hw _ (List.mem_of_getElem? (i := 83) rfl))) (by decide) (backOf (W := 0) (rm_enc l Z a0 hw [] ra (ds.getD (vi).toNatClampNeg 0) rb rd kb vst ve b T0.heap n0 Z1 ⟨E_ra, F_bytes, F_start, F_end, F_open, Av⟩ g_ra g_rb ⟨hve, hve2⟩ hbl (hds _)) hZ (hw _ (List.mem_of_getElem? (i := 83) rfl)) (hw _ (List.mem_of_getElem? (i := 11) rfl)) (by decide) (by decide)) (g := (mkF m 25 #[.val (.ref ra), .val (.ref sa), .val (.int (vi + (1 : Int32))), .val (.int (ds.getD (vi).toNatClampNeg 0))] [(.int (ds.getD (vi).toNatClampNeg 0)), (.ref ra)])) rfl (by rw [hml]; rfl) (Steps.refl _) (a := ra) (by rw [e36]; exact q37) q37' (argsL := [(.int (ds.getD (vi).toNatClampNeg 0))]) (rest := []) (lenOf pd_5 rfl) rfl (by show 2 * 0 + _ ≤ _; exact Nat.le_of_eq rfl) (hb hby d_prog_85_method_24_code_25) (fun _ _ => ⟨rfl, e36, (by decide : 0 + 0 ≤ _), (by decide : 0 + 0 ≤ _)⟩)
        dsimp only [Pt.U, Pt.locs, Pt.cells, Pt.slots] at X37 l37 y37 z37 st37 hQ37
        subst l37 y37 z37
        obtain ⟨rfl, N37q, K37, ⟨Eq_37, Fb_37, Fs_37, Fe_37, Fo_37, Aq_37⟩⟩ := hQ37
        have N37 := Fr.app N36 N37q
        have E_ra_c37 := E_ra.keep K37
        have G1_c37 := own_G.keep G1 K37 (allS g_ra (allS g_rb all0))
        have Es_c37 := Es.keep K37
        have Fc_c37 := Fc.keep K37 (ninS (Exa.ne Es E_ra (by decide)) (ninS (Exa.neArv Es Av (hw _ (List.mem_of_getElem? (i := 2) rfl))) nin0))
        have Fv_c37 := Fv.keep K37 (ninS (Exa.ne Es E_ra (by decide)) (ninS (Exa.neArv Es Av (hw _ (List.mem_of_getElem? (i := 2) rfl))) nin0))
        have As_c37 := As.keep K37 (ninS (Ne.symm (Exa.neArv E_ra As (hw _ (List.mem_of_getElem? (i := 10) rfl)))) (ninS ne_sb nin0))
        have Z37 : n0 ≤ T37.heap.size := Nat.le_trans Z1 K37.1
        have kp37 := Keep.trans kpL K37 (allS (Or.inl (List.mem_of_getElem? (i := 0) rfl)) (allS (Or.inl (List.mem_of_getElem? (i := 1) rfl)) all0))
        obtain ⟨vi2, vj2, T', L', X', N', K', W', st'⟩ := ih (vi + (1 : Int32)) (ve + (1 : Int32)) (.val (.int (ds.getD (vi).toNatClampNeg 0))) (b.set (ve).toNatClampNeg (ds.getD (vi).toNatClampNeg 0)) T37 _ hdr2 (by omega) (by rw [hv1]; omega) (by rw [he1]; omega) (by rw [he1]; omega) (by rw [List.length_set]; exact hbl) (Or.inr ⟨_, rfl⟩) X37 N37 Z37 ⟨Eq_37, Fb_37, Fs_37, Fe_37, Fo_37, Aq_37⟩ ⟨Es_c37, Fc_c37, Fv_c37, As_c37⟩ G1_c37
        refine ⟨vi2, vj2, T', L', X', N', Keep.trans kp37 K' (allS (Or.inl (List.mem_of_getElem? (i := 0) rfl)) (allS (Or.inl (List.mem_of_getElem? (i := 1) rfl)) all0)), ?_, fun t kt => ?_⟩
        · rw [hne1, hhd] at W'; exact W'
        · show Steps p.tables e below (T0.setTop (mkF m 2 #[.val (.ref ra), .val (.ref sa), .val (.int vi), .unset] [])) _
          refine XS.iloadN X1.here hx rfl (hb hby d_prog_85_method_24_code_2) rfl ?_
          show Steps p.tables e below (T0.setTop (mkF m 3 #[.val (.ref ra), .val (.ref sa), .val (.int vi), .unset] [(.int vi)])) _
          refine XS.aloadN X1.here hx rfl (hb hby d_prog_85_method_24_code_3) rfl rfl ?_
          show Steps p.tables e below (T0.setTop (mkF m 4 #[.val (.ref ra), .val (.ref sa), .val (.int vi), .unset] [(.ref sa), (.int vi)])) _
          refine st34.trans ?_
          show Steps p.tables e below (T34.setTop (mkF m 7 #[.val (.ref ra), .val (.ref sa), .val (.int vi), .unset] [(.int nn), (.int vi)])) _
          refine XS.icmpNo X34.here hx rfl (hb hby d_prog_85_method_24_code_7) rfl (tlt (hlt : vi < nn)).2.1 ?_
          show Steps p.tables e below (T34.setTop (mkF m 10 #[.val (.ref ra), .val (.ref sa), .val (.int vi), .unset] [])) _
          refine XS.aloadN X34.here hx rfl (hb hby d_prog_85_method_24_code_10) rfl rfl ?_
          show Steps p.tables e below (T34.setTop (mkF m 11 #[.val (.ref ra), .val (.ref sa), .val (.int vi), .unset] [(.ref sa)])) _
          refine XS.iloadN X34.here hx rfl (hb hby d_prog_85_method_24_code_11) rfl ?_
          show Steps p.tables e below (T34.setTop (mkF m 12 #[.val (.ref ra), .val (.ref sa), .val (.int vi), .unset] [(.int vi), (.ref sa)])) _
          refine st35.trans ?_
          show Steps p.tables e below (T35.setTop (mkF m 15 #[.val (.ref ra), .val (.ref sa), .val (.int vi), .unset] [(.int (ds.getD (vi).toNatClampNeg 0))])) _
          refine XS.istoreN X35.here hx rfl (hb hby d_prog_85_method_24_code_15) rfl (l' := #[.val (.ref ra), .val (.ref sa), .val (.int vi), .val (.int (ds.getD (vi).toNatClampNeg 0))]) rfl ?_
          show Steps p.tables e below (T35.setTop (mkF m 16 #[.val (.ref ra), .val (.ref sa), .val (.int vi), .val (.int (ds.getD (vi).toNatClampNeg 0))] [])) _
          refine XS.iloadN X35.here hx rfl (hb hby d_prog_85_method_24_code_16) rfl ?_
          show Steps p.tables e below (T35.setTop (mkF m 17 #[.val (.ref ra), .val (.ref sa), .val (.int vi), .val (.int (ds.getD (vi).toNatClampNeg 0))] [(.int vi)])) _
          refine XS.iloadN X35.here hx rfl (hb hby d_prog_85_method_24_code_17) rfl ?_
          show Steps p.tables e below (T35.setTop (mkF m 18 #[.val (.ref ra), .val (.ref sa), .val (.int vi), .val (.int (ds.getD (vi).toNatClampNeg 0))] [(.int (ds.getD (vi).toNatClampNeg 0)), (.int vi)])) _
          refine st36 _ ?_
          show Steps p.tables e below (T36.setTop (mkF m 21 #[.val (.ref ra), .val (.ref sa), .val (.int vi), .val (.int (ds.getD (vi).toNatClampNeg 0))] [(.int (1 : Int32)), (.int vi)])) _
          refine XS.iadd X36.here hx rfl (hb hby d_prog_85_method_24_code_21) rfl ?_
          show Steps p.tables e below (T36.setTop (mkF m 22 #[.val (.ref ra), .val (.ref sa), .val (.int vi), .val (.int (ds.getD (vi).toNatClampNeg 0))] [(.int (vi + (1 : Int32)))])) _
          refine XS.istoreN X36.here hx rfl (hb hby d_prog_85_method_24_code_22) rfl (l' := #[.val (.ref ra), .val (.ref sa), .val (.int (vi + (1 : Int32))), .val (.int (ds.getD (vi).toNatClampNeg 0))]) rfl ?_
          show Steps p.tables e below (T36.setTop (mkF m 23 #[.val (.ref ra), .val (.ref sa), .val (.int (vi + (1 : Int32))), .val (.int (ds.getD (vi).toNatClampNeg 0))] [])) _
          refine XS.aloadN X36.here hx rfl (hb hby d_prog_85_method_24_code_23) rfl rfl ?_
          show Steps p.tables e below (T36.setTop (mkF m 24 #[.val (.ref ra), .val (.ref sa), .val (.int (vi + (1 : Int32))), .val (.int (ds.getD (vi).toNatClampNeg 0))] [(.ref ra)])) _
          refine XS.iloadN X36.here hx rfl (hb hby d_prog_85_method_24_code_24) rfl ?_
          show Steps p.tables e below (T36.setTop (mkF m 25 #[.val (.ref ra), .val (.ref sa), .val (.int (vi + (1 : Int32))), .val (.int (ds.getD (vi).toNatClampNeg 0))] [(.int (ds.getD (vi).toNatClampNeg 0)), (.ref ra)])) _
          refine st37.trans ?_
          show Steps p.tables e below (T37.setTop (mkF m 28 #[.val (.ref ra), .val (.ref sa), .val (.int (vi + (1 : Int32))), .val (.int (ds.getD (vi).toNatClampNeg 0))] [])) _
          refine XS.goto X37.here hx rfl (pc0 := 28) (pc' := 2) rfl (hb hby d_prog_85_method_24_code_28) (by decide) (by decide) ?_
          exact st' t kt
      · obtain ⟨cq38, kq38, q38a, q38b, q38c⟩ := isOf hZ rfl Es
        obtain ⟨_, _, ⟨T38, L38, k38, n38⟩, -, X38, ⟨Lc38, hQ38, l38, y38, z38⟩, st38⟩ := X1.virtualBack hx (y := (⟨"java/lang/String", "length", "()I"⟩ : MethodName)) (z := (⟨"java/lang/String", "length", "()I"⟩ : MethodName)) hown (mvT hZ (hw _ (List.mem_of_getElem? (i := 44) rfl))) (mvT hZ (hw _ (List.mem_of_getElem? (i := 45) rfl))) (notFace_of_selects (args := #[]) (mvT hZ (hw _ (List.mem_of_getElem? (i := 47) rfl)))) (mvT hZ (hw _ (List.mem_of_getElem? (i := 47) rfl))) (mvT hZ (hw _ (List.mem_of_getElem? (i := 46) rfl))) (by decide) (backOf (W := 1) (rm_len l Z a0 hw [] sa sb ks nn ds T0.heap n0 Z1 G1 ⟨Es, Fc, Fv, As⟩) hZ (hw _ (List.mem_of_getElem? (i := 48) rfl)) (hw _ (List.mem_of_getElem? (i := 1) rfl)) (by decide) (by decide)) q38a q38c (g := (mkF m 4 #[.val (.ref ra), .val (.ref sa), .val (.int vi), .val (.int q)] [(.ref sa), (.int vi)])) rfl (by rw [hml]; rfl) (Steps.refl _) (argsL := []) (rest := [(.int vi)]) (lenOf pd_6 rfl) rfl (by show 2 * 0 + _ ≤ _; exact Nat.le_of_eq rfl) (hb hby d_prog_85_method_24_code_4) (fun _ _ => ⟨rfl, rfl, (by decide : 0 + 0 ≤ _), (by decide : 0 + 0 ≤ _)⟩)
        dsimp only [Pt.U, Pt.locs, Pt.cells, Pt.slots] at X38 l38 y38 z38 st38 hQ38
        subst l38 y38 z38
        obtain ⟨⟨r38, rfl, hr38⟩, N38q, e38⟩ := hQ38
        have N38 := Fr.app N1 N38q
        obtain rfl : nn = r38 := hr38.symm
        obtain ⟨cq39, kq39, q39a, q39b, q39c⟩ := isOf hZ e38 Es
        obtain ⟨_, _, ⟨T39, L39, k39, n39⟩, -, X39, ⟨Lc39, hQ39, l39, y39, z39⟩, st39⟩ := X38.virtualBack hx (y := (⟨"java/lang/String", "codePointAt", "(I)I"⟩ : MethodName)) (z := (⟨"java/lang/String", "codePointAt", "(I)I"⟩ : MethodName)) hown (mvT hZ (hw _ (List.mem_of_getElem? (i := 57) rfl))) (mvT hZ (hw _ (List.mem_of_getElem? (i := 58) rfl))) (notFace_of_selects (args := #[]) (mvT hZ (hw _ (List.mem_of_getElem? (i := 60) rfl)))) (mvT hZ (hw _ (List.mem_of_getElem? (i := 60) rfl))) (mvT hZ (hw _ (List.mem_of_getElem? (i := 59) rfl))) (by decide) (backOf (W := 0) (rm_cpa l Z a0 hw [] sa vi sb ks nn ds T0.heap n0 Z1 G1 ⟨Es, Fc, Fv, As⟩ hix hds) hZ (hw _ (List.mem_of_getElem? (i := 61) rfl)) (hw _ (List.mem_of_getElem? (i := 1) rfl)) (by decide) (by decide)) q39a q39c (g := (mkF m 12 #[.val (.ref ra), .val (.ref sa), .val (.int vi), .val (.int q)] [(.int vi), (.ref sa)])) rfl (by rw [hml]; rfl) (Steps.refl _) (argsL := [(.int vi)]) (rest := []) (lenOf pd_7 rfl) rfl (by show 2 * 0 + _ ≤ _; exact Nat.le_of_eq rfl) (hb hby d_prog_85_method_24_code_12) (fun _ _ => ⟨rfl, e38, (by decide : 0 + 0 ≤ _), (by decide : 0 + 0 ≤ _)⟩)
        dsimp only [Pt.U, Pt.locs, Pt.cells, Pt.slots] at X39 l39 y39 z39 st39 hQ39
        subst l39 y39 z39
        obtain ⟨⟨r39, rfl, hr39⟩, N39q, e39⟩ := hQ39
        have N39 := Fr.app N38 N39q
        obtain rfl : (ds.getD (vi).toNatClampNeg 0) = r39 := hr39.symm
        obtain ⟨_, _, ⟨T40, L40, k40, n40⟩, -, X40, ⟨Lc40, hQ40, l40, y40, z40⟩, st40⟩ := Jvm.LawKit.callS X39 hx (y := (⟨"java/lang/Character", "charCount", "(I)I"⟩ : MethodName)) hown (mvT hZ (hw _ (List.mem_of_getElem? (i := 75) rfl))) (mvT hZ (hw _ (List.mem_of_getElem? (i := 76) rfl))) (mvT hZ (hw _ (List.mem_of_getElem? (i := 77) rfl))) (mvT hZ (hw _ (List.mem_of_getElem? (i := 78) rfl))) (by decide) (backOf (W := 1) (rm_cc l Z a0 hw [] (ds.getD (vi).toNatClampNeg 0) T0.heap n0 Z1 hcc) hZ (hw _ (List.mem_of_getElem? (i := 78) rfl)) (hw _ (List.mem_of_getElem? (i := 77) rfl)) (by decide) (by decide)) (g := (mkF m 18 #[.val (.ref ra), .val (.ref sa), .val (.int vi), .val (.int (ds.getD (vi).toNatClampNeg 0))] [(.int (ds.getD (vi).toNatClampNeg 0)), (.int vi)])) rfl (by rw [hml]; rfl) (argsL := [(.int (ds.getD (vi).toNatClampNeg 0))]) (rest := [(.int vi)]) (lenOf pd_7 rfl) rfl (by show 2 * 0 + _ ≤ _; exact Nat.le_of_eq rfl) (hb hby d_prog_85_method_24_code_18) (fun _ _ => ⟨rfl, e39, (by decide : 0 + 0 ≤ _), (by decide : 0 + 0 ≤ _)⟩)
        dsimp only [Pt.U, Pt.locs, Pt.cells, Pt.slots] at X40 l40 y40 z40 st40 hQ40
        subst l40 y40 z40
        obtain ⟨⟨r40, rfl, hr40⟩, N40q, e40⟩ := hQ40
        have N40 := Fr.app N39 N40q
        obtain rfl : (1 : Int32) = r40 := hr40.symm
        obtain ⟨cq41, q41, q41'⟩ := E_ra.cell
        obtain ⟨_, _, ⟨T41, L41, k41, n41⟩, -, X41, ⟨Lc41, hQ41, l41, y41, z41⟩, st41⟩ := X40.privateBack hx (y := (⟨"com/example/sealwright/sealwright/io/XmlWriter", "encode", "(I)V"⟩ : MethodName)) hown (mvT hZ (hw _ (List.mem_of_getElem? (i := 80) rfl))) (mvT hZ (hw _ (List.mem_of_getElem? (i := 81) rfl))) (mvT hZ (own_sel (y := (⟨"com/example/sealwright/sealwright/io/XmlWriter", "encode", "(I)V"⟩ : MethodName)) (hw _ (List.mem_of_getElem? (i := 10) rfl)) (hw _ (List.mem_of_getElem? (i := 82) rfl)) (hw _ (List.mem_of_getElem? (i := 81) rfl)) (by decide))) (Cond.privateMethod_at (mvP hZ (hw _ (List.mem_of_getElem? (i := 82) rfl)) (args := #[]))) (mvT hZ (hw _ (List.mem_of_getElem? (i := 83) rfl))) (by decide) (backOf (W := 0) (rm_enc l Z a0 hw [] ra (ds.getD (vi).toNatClampNeg 0) rb rd kb vst ve b T0.heap n0 Z1 ⟨E_ra, F_bytes, F_start, F_end, F_open, Av⟩ g_ra g_rb ⟨hve, hve2⟩ hbl (hds _)) hZ (hw _ (List.mem_of_getElem? (i := 83) rfl)) (hw _ (List.mem_of_getElem? (i := 11) rfl)) (by decide) (by decide)) (g := (mkF m 25 #[.val (.ref ra), .val (.ref sa), .val (.int (vi + (1 : Int32))), .val (.int (ds.getD (vi).toNatClampNeg 0))] [(.int (ds.getD (vi).toNatClampNeg 0)), (.ref ra)])) rfl (by rw [hml]; rfl) (Steps.refl _) (a := ra) (by rw [e40]; exact q41) q41' (argsL := [(.int (ds.getD (vi).toNatClampNeg 0))]) (rest := []) (lenOf pd_5 rfl) rfl (by show 2 * 0 + _ ≤ _; exact Nat.le_of_eq rfl) (hb hby d_prog_85_method_24_code_25) (fun _ _ => ⟨rfl, e40, (by decide : 0 + 0 ≤ _), (by decide : 0 + 0 ≤ _)⟩)
        dsimp only [Pt.U, Pt.locs, Pt.cells, Pt.slots] at X41 l41 y41 z41 st41 hQ41
        subst l41 y41 z41
        obtain ⟨rfl, N41q, K41, ⟨Eq_41, Fb_41, Fs_41, Fe_41, Fo_41, Aq_41⟩⟩ := hQ41
        have N41 := Fr.app N40 N41q
        have E_ra_c41 := E_ra.keep K41
        have G1_c41 := own_G.keep G1 K41 (allS g_ra (allS g_rb all0))
        have Es_c41 := Es.keep K41
        have Fc_c41 := Fc.keep K41 (ninS (Exa.ne Es E_ra (by decide)) (ninS (Exa.neArv Es Av (hw _ (List.mem_of_getElem? (i := 2) rfl))) nin0))
        have Fv_c41 := Fv.keep K41 (ninS (Exa.ne Es E_ra (by decide)) (ninS (Exa.neArv Es Av (hw _ (List.mem_of_getElem? (i := 2) rfl))) nin0))
        have As_c41 := As.keep K41 (ninS (Ne.symm (Exa.neArv E_ra As (hw _ (List.mem_of_getElem? (i := 10) rfl)))) (ninS ne_sb nin0))
        have Z41 : n0 ≤ T41.heap.size := Nat.le_trans Z1 K41.1
        have kp41 := Keep.trans kpL K41 (allS (Or.inl (List.mem_of_getElem? (i := 0) rfl)) (allS (Or.inl (List.mem_of_getElem? (i := 1) rfl)) all0))
        obtain ⟨vi2, vj2, T', L', X', N', K', W', st'⟩ := ih (vi + (1 : Int32)) (ve + (1 : Int32)) (.val (.int (ds.getD (vi).toNatClampNeg 0))) (b.set (ve).toNatClampNeg (ds.getD (vi).toNatClampNeg 0)) T41 _ hdr2 (by omega) (by rw [hv1]; omega) (by rw [he1]; omega) (by rw [he1]; omega) (by rw [List.length_set]; exact hbl) (Or.inr ⟨_, rfl⟩) X41 N41 Z41 ⟨Eq_41, Fb_41, Fs_41, Fe_41, Fo_41, Aq_41⟩ ⟨Es_c41, Fc_c41, Fv_c41, As_c41⟩ G1_c41
        refine ⟨vi2, vj2, T', L', X', N', Keep.trans kp41 K' (allS (Or.inl (List.mem_of_getElem? (i := 0) rfl)) (allS (Or.inl (List.mem_of_getElem? (i := 1) rfl)) all0)), ?_, fun t kt => ?_⟩
        · rw [hne1, hhd] at W'; exact W'
        · show Steps p.tables e below (T0.setTop (mkF m 2 #[.val (.ref ra), .val (.ref sa), .val (.int vi), .val (.int q)] [])) _
          refine XS.iloadN X1.here hx rfl (hb hby d_prog_85_method_24_code_2) rfl ?_
          show Steps p.tables e below (T0.setTop (mkF m 3 #[.val (.ref ra), .val (.ref sa), .val (.int vi), .val (.int q)] [(.int vi)])) _
          refine XS.aloadN X1.here hx rfl (hb hby d_prog_85_method_24_code_3) rfl rfl ?_
          show Steps p.tables e below (T0.setTop (mkF m 4 #[.val (.ref ra), .val (.ref sa), .val (.int vi), .val (.int q)] [(.ref sa), (.int vi)])) _
          refine st38.trans ?_
          show Steps p.tables e below (T38.setTop (mkF m 7 #[.val (.ref ra), .val (.ref sa), .val (.int vi), .val (.int q)] [(.int nn), (.int vi)])) _
          refine XS.icmpNo X38.here hx rfl (hb hby d_prog_85_method_24_code_7) rfl (tlt (hlt : vi < nn)).2.1 ?_
          show Steps p.tables e below (T38.setTop (mkF m 10 #[.val (.ref ra), .val (.ref sa), .val (.int vi), .val (.int q)] [])) _
          refine XS.aloadN X38.here hx rfl (hb hby d_prog_85_method_24_code_10) rfl rfl ?_
          show Steps p.tables e below (T38.setTop (mkF m 11 #[.val (.ref ra), .val (.ref sa), .val (.int vi), .val (.int q)] [(.ref sa)])) _
          refine XS.iloadN X38.here hx rfl (hb hby d_prog_85_method_24_code_11) rfl ?_
          show Steps p.tables e below (T38.setTop (mkF m 12 #[.val (.ref ra), .val (.ref sa), .val (.int vi), .val (.int q)] [(.int vi), (.ref sa)])) _
          refine st39.trans ?_
          show Steps p.tables e below (T39.setTop (mkF m 15 #[.val (.ref ra), .val (.ref sa), .val (.int vi), .val (.int q)] [(.int (ds.getD (vi).toNatClampNeg 0))])) _
          refine XS.istoreN X39.here hx rfl (hb hby d_prog_85_method_24_code_15) rfl (l' := #[.val (.ref ra), .val (.ref sa), .val (.int vi), .val (.int (ds.getD (vi).toNatClampNeg 0))]) rfl ?_
          show Steps p.tables e below (T39.setTop (mkF m 16 #[.val (.ref ra), .val (.ref sa), .val (.int vi), .val (.int (ds.getD (vi).toNatClampNeg 0))] [])) _
          refine XS.iloadN X39.here hx rfl (hb hby d_prog_85_method_24_code_16) rfl ?_
          show Steps p.tables e below (T39.setTop (mkF m 17 #[.val (.ref ra), .val (.ref sa), .val (.int vi), .val (.int (ds.getD (vi).toNatClampNeg 0))] [(.int vi)])) _
          refine XS.iloadN X39.here hx rfl (hb hby d_prog_85_method_24_code_17) rfl ?_
          show Steps p.tables e below (T39.setTop (mkF m 18 #[.val (.ref ra), .val (.ref sa), .val (.int vi), .val (.int (ds.getD (vi).toNatClampNeg 0))] [(.int (ds.getD (vi).toNatClampNeg 0)), (.int vi)])) _
          refine st40 _ ?_
          show Steps p.tables e below (T40.setTop (mkF m 21 #[.val (.ref ra), .val (.ref sa), .val (.int vi), .val (.int (ds.getD (vi).toNatClampNeg 0))] [(.int (1 : Int32)), (.int vi)])) _
          refine XS.iadd X40.here hx rfl (hb hby d_prog_85_method_24_code_21) rfl ?_
          show Steps p.tables e below (T40.setTop (mkF m 22 #[.val (.ref ra), .val (.ref sa), .val (.int vi), .val (.int (ds.getD (vi).toNatClampNeg 0))] [(.int (vi + (1 : Int32)))])) _
          refine XS.istoreN X40.here hx rfl (hb hby d_prog_85_method_24_code_22) rfl (l' := #[.val (.ref ra), .val (.ref sa), .val (.int (vi + (1 : Int32))), .val (.int (ds.getD (vi).toNatClampNeg 0))]) rfl ?_
          show Steps p.tables e below (T40.setTop (mkF m 23 #[.val (.ref ra), .val (.ref sa), .val (.int (vi + (1 : Int32))), .val (.int (ds.getD (vi).toNatClampNeg 0))] [])) _
          refine XS.aloadN X40.here hx rfl (hb hby d_prog_85_method_24_code_23) rfl rfl ?_
          show Steps p.tables e below (T40.setTop (mkF m 24 #[.val (.ref ra), .val (.ref sa), .val (.int (vi + (1 : Int32))), .val (.int (ds.getD (vi).toNatClampNeg 0))] [(.ref ra)])) _
          refine XS.iloadN X40.here hx rfl (hb hby d_prog_85_method_24_code_24) rfl ?_
          show Steps p.tables e below (T40.setTop (mkF m 25 #[.val (.ref ra), .val (.ref sa), .val (.int (vi + (1 : Int32))), .val (.int (ds.getD (vi).toNatClampNeg 0))] [(.int (ds.getD (vi).toNatClampNeg 0)), (.ref ra)])) _
          refine st41.trans ?_
          show Steps p.tables e below (T41.setTop (mkF m 28 #[.val (.ref ra), .val (.ref sa), .val (.int (vi + (1 : Int32))), .val (.int (ds.getD (vi).toNatClampNeg 0))] [])) _
          refine XS.goto X41.here hx rfl (pc0 := 28) (pc' := 2) rfl (hb hby d_prog_85_method_24_code_28) (by decide) (by decide) ?_
          exact st' t kt
  obtain ⟨vi', vj', T', L', X', N', K', W', st'⟩ := loop ds (0 : Int32) ven .unset bs s₁ [] rfl (by decide) (by rw [hdl, show (0 : Int32).toInt = 0 from by decide]; have := own_nat nn hnn.1; omega) hen.1 (by rw [hdl]; have := own_nat nn hnn.1; omega) hlen (Or.inl rfl) X0 N0 (by rw [e0]; exact Z0) (by rw [e0]; exact Wr0) (by rw [e0]; exact Sr) (by rw [e0]; exact G)
  obtain ⟨fs, hr, hrun, hended, hW, hsame⟩ := X'.leave (v := none) (fun _ => rfl)
  refine ⟨_, _, pre0 _ ?_, hrun, hended, _, _, rfl, ?_, ⟨_, rfl⟩, hW, hsame.mono (by decide) (by decide)⟩
  · show Steps p.tables e below (s₁.setTop (mkF m 0 #[.val (.ref ra), .val (.ref sa), .unset, .unset] [])) _
    refine XS.iconst X0.here hx rfl (hb hby d_prog_85_method_24_code_0) ?_
    show Steps p.tables e below (s₁.setTop (mkF m 1 #[.val (.ref ra), .val (.ref sa), .unset, .unset] [(.int (0 : Int32))])) _
    refine XS.istoreN X0.here hx rfl (hb hby d_prog_85_method_24_code_1) rfl (l' := #[.val (.ref ra), .val (.ref sa), .val (.int (0 : Int32)), .unset]) rfl ?_
    refine st' _ ?_
    show Steps p.tables e below (T'.setTop (mkF m 31 #[.val (.ref ra), .val (.ref sa), .val (.int vi'), vj'] [])) _
    exact X'.returnOut hx Bd.returns (hb hby d_prog_85_method_24_code_31) hr
  · show Q_wri Z ra sa rb rd kb vst ven bs sb ks nn ds h0 n0 _ T'.heap _
    rw [e0] at K'
    rw [hvz] at W'
    exact ⟨rfl, N', K', W'⟩
theorem pn_5 : plainName "java/util/AbstractCollection" = true := by first | (simp [plainName, overriddenIn]; done) | decide +kernel
theorem d_jdk_22_method_1_code_0 : decode jdk_22_method_1_code 0 = .ok (.aload_n 0, 1) := by decide +kernel
theorem d_jdk_22_method_1_code_1 : decode jdk_22_method_1_code 1 = .ok (.invokespecial 1, 3) := by decide +kernel
theorem d_jdk_22_method_1_code_4 : decode jdk_22_method_1_code 4 = .ok (.return_, 1) := by decide +kernel
theorem ef_acini (m : MethodId) (ra : Addr) : entryFrame m #[(.ref ra)] 1 = mkF m 0 #[.val (.ref ra)] [] := by first | (simp [entryFrame, mkF, argsToLocals, Value.category]; done) | rfl
def Q_acini (Z : State) (ra : Addr) (h0 : Heap) (n0 : Nat) (v : Option Value) (h : Heap) (L : List Loc) : Prop := v = none ∧ Fr n0 L ∧ h = h0
set_option maxRecDepth 65536 in
set_option maxHeartbeats 40000000 in
theorem rm_acini (l : Launch) (Z : State) (a0 : Array Value) (hw : ∀ d ∈ tables_1, d.before a0 Z = true) (ws : List Jvm.Cond) (ra : Addr) (h0 : Heap) (n0 : Nat) (Z0 : n0 ≤ h0.size) :
    MetFree l (⟨"java/util/AbstractCollection", "<init>", "()V"⟩ : MethodName) (head1 (Jvm.Cond.code (⟨"java/util/AbstractCollection", "<init>", "()V"⟩ : MethodName) jdk_22_method_1_code 1 none :: ws) ({ frames := 1, cells := 0, slots := 0, locals := 12 } : Room)) (fun a U => a = #[(.ref ra)] ∧ Z.Warmed39 U.vm ∧ U.heap = h0) (fun _ _ _ _ _ => True) (fun _ U o U' => ∃ v L, o = .returned v ∧ Q_acini Z ra h0 n0 v U'.heap L ∧ FrameEnd U o U' L ({ frames := 1, cells := 0, slots := 0, locals := 12 } : Room).cells ({ frames := 1, cells := 0, slots := 0, locals := 12 } : Room).slots) := by
  refine MetFree.of_bodySF (plainFor_of_name pn_5) hisR ?_
  intro p e s m args below meth c s₁ Bd hml0 hP hK
  obtain ⟨rfl, hZ, hh⟩ := hP
  have hx := Bd.exec
  have hby := Bd.bytes
  have hml : c.maxLocals = 1 := hml0
  have hown : s.vm.findClass "java/util/AbstractCollection" = some m.cls := findClass_of_methodNamed Bd.named
  have hnm := (name_of_methodNamed Bd.named Bd.method).1
  have X0 : Stand p l e ({ frames := 1, cells := 0, slots := 0, locals := 12 } : Room) s m #[(.ref ra)] below meth c s₁ [] 0 0 := Stand.of_body Bd
  have e0 : s₁.heap = h0 := by rw [← hh, Bd.state]; rfl
  have N0 := Fr.nil n0
  have pre0 : ∀ t, Steps p.tables e below (s₁.setTop (mkF m 0 #[.val (.ref ra)] [])) t → Steps p.tables e below (s₁.setTop (entryFrame m #[(.ref ra)] 1)) t := fun t k => castTop (ef_acini m ra) k
  obtain ⟨T42, X42, e42, st42⟩ := initO X0 hx hZ hown (hw _ (List.mem_of_getElem? (i := 32) rfl)) (hw _ (List.mem_of_getElem? (i := 16) rfl)) (hw _ (List.mem_of_getElem? (i := 17) rfl)) e0 (g := (mkF m 1 #[.val (.ref ra)] [(.ref ra)])) rfl (by rw [hml]; rfl) rfl (hb hby d_jdk_22_method_1_code_1) (by decide) (W := 0) (by show 2 * 0 + _ ≤ _; exact Nat.le_of_eq rfl) (by decide)
  obtain ⟨fs, hr, hrun, hended, hW, hsame⟩ := X42.leave (v := none) (fun _ => rfl)
  refine ⟨_, _, pre0 _ ?_, hrun, hended, _, _, rfl, ?_, ⟨_, rfl⟩, hW, hsame.mono (by decide) (by decide)⟩
  · show Steps p.tables e below (s₁.setTop (mkF m 0 #[.val (.ref ra)] [])) _
    refine XS.aloadN X0.here hx rfl (hb hby d_jdk_22_method_1_code_0) rfl rfl ?_
    show Steps p.tables e below (s₁.setTop (mkF m 1 #[.val (.ref ra)] [(.ref ra)])) _
    refine st42 _ ?_
    show Steps p.tables e below (T42.setTop (mkF m 4 #[.val (.ref ra)] [])) _
    exact X42.returnOut hx Bd.returns (hb hby d_jdk_22_method_1_code_4) hr
  · show Q_acini Z ra h0 n0 _ T42.heap _
    rw [e42]
    exact ⟨rfl, N0, rfl⟩
theorem pn_6 : plainName "java/util/ArrayDeque" = true := by first | (simp [plainName, overriddenIn]; done) | decide +kernel
theorem d_jdk_21_method_3_code_0 : decode jdk_21_method_3_code 0 = .ok (.aload_n 0, 1) := by decide +kernel
theorem d_jdk_21_method_3_code_1 : decode jdk_21_method_3_code 1 = .ok (.invokespecial 42, 3) := by decide +kernel
theorem pd_8 : parseMethodDescriptor "()V" = some ⟨[], none⟩ := by decide +kernel
theorem d_jdk_21_method_3_code_4 : decode jdk_21_method_3_code 4 = .ok (.aload_n 0, 1) := by decide +kernel
theorem d_jdk_21_method_3_code_5 : decode jdk_21_method_3_code 5 = .ok (.bipush 17, 2) := by decide +kernel
theorem d_jdk_21_method_3_code_7 : decode jdk_21_method_3_code 7 = .ok (.anewarray 47, 3) := by decide +kernel
theorem d_jdk_21_method_3_code_10 : decode jdk_21_method_3_code 10 = .ok (.putfield 3, 3) := by decide +kernel
theorem d_jdk_21_method_3_code_13 : decode jdk_21_method_3_code 13 = .ok (.return_, 1) := by decide +kernel
theorem ef_adini (m : MethodId) (ra : Addr) : entryFrame m #[(.ref ra)] 1 = mkF m 0 #[.val (.ref ra)] [] := by first | (simp [entryFrame, mkF, argsToLocals, Value.category]; done) | rfl
def Q_adini (Z : State) (ra : Addr) (h0 : Heap) (n0 : Nat) (v : Option Value) (h : Heap) (L : List Loc) : Prop := v = none ∧ Fr n0 L ∧ Keep h0 h [ra] ∧ (∃ (re : Addr) (ke : ClassId), own_Q Z h ra re ke ∧ n0 ≤ re ∧ h0.size ≤ re)
set_option maxRecDepth 65536 in
set_option maxHeartbeats 40000000 in
theorem rm_adini (l : Launch) (Z : State) (a0 : Array Value) (hw : ∀ d ∈ tables_1, d.before a0 Z = true) (ws : List Jvm.Cond) (ra : Addr) (h0 : Heap) (n0 : Nat) (Z0 : n0 ≤ h0.size) (E_ra : Exa Z h0 ra "java/util/ArrayDeque") (F_el : Fld Z h0 ra "java/util/ArrayDeque" "elements" "[Ljava/lang/Object;" .null) (F_ta : Fld Z h0 ra "java/util/ArrayDeque" "tail" "I" (.int (0 : Int32))) (F_he : Fld Z h0 ra "java/util/ArrayDeque" "head" "I" (.int (0 : Int32))) (g_ra : n0 ≤ ra) :
    MetFree l (⟨"java/util/ArrayDeque", "<init>", "()V"⟩ : MethodName) (head1 (Jvm.Cond.code (⟨"java/util/ArrayDeque", "<init>", "()V"⟩ : MethodName) jdk_21_method_3_code 1 none :: ws) ({ frames := 2, cells := 1, slots := 17, locals := 24 } : Room)) (fun a U => a = #[(.ref ra)] ∧ Z.Warmed39 U.vm ∧ U.heap = h0) (fun _ _ _ _ _ => True) (fun _ U o U' => ∃ v L, o = .returned v ∧ Q_adini Z ra h0 n0 v U'.heap L ∧ FrameEnd U o U' L ({ frames := 2, cells := 1, slots := 17, locals := 24 } : Room).cells ({ frames := 2, cells := 1, slots := 17, locals := 24 } : Room).slots) := by
  refine MetFree.of_bodySF (plainFor_of_name pn_6) hisR ?_
  intro p e s m args below meth c s₁ Bd hml0 hP hK
  obtain ⟨rfl, hZ, hh⟩ := hP
  have hx := Bd.exec
  have hby := Bd.bytes
  have hml : c.maxLocals = 1 := hml0
  have hown : s.vm.findClass "java/util/ArrayDeque" = some m.cls := findClass_of_methodNamed Bd.named
  have hnm := (name_of_methodNamed Bd.named Bd.method).1
  have X0 : Stand p l e ({ frames := 2, cells := 1, slots := 17, locals := 24 } : Room) s m #[(.ref ra)] below meth c s₁ [] 0 0 := Stand.of_body Bd
  have e0 : s₁.heap = h0 := by rw [← hh, Bd.state]; rfl
  have N0 := Fr.nil n0
  have pre0 : ∀ t, Steps p.tables e below (s₁.setTop (mkF m 0 #[.val (.ref ra)] [])) t → Steps p.tables e below (s₁.setTop (entryFrame m #[(.ref ra)] 1)) t := fun t k => castTop (ef_adini m ra) k
  have kp0 : Keep h0 h0 [ra] := Keep.refl h0 _
  obtain ⟨_, _, ⟨T43, L43, k43, n43⟩, -, X43, ⟨Lc43, hQ43, l43, y43, z43⟩, st43⟩ := X0.specialBack hx (y := (⟨"java/util/AbstractCollection", "<init>", "()V"⟩ : MethodName)) rfl hown (mvT hZ (hw _ (List.mem_of_getElem? (i := 26) rfl))) (mvT hZ (hw _ (List.mem_of_getElem? (i := 27) rfl))) (mvT hZ (hw _ (List.mem_of_getElem? (i := 31) rfl))) (by decide) (backOf (W := 0) (rm_acini l Z a0 hw [] ra h0 n0 Z0 ) hZ (hw _ (List.mem_of_getElem? (i := 31) rfl)) (hw _ (List.mem_of_getElem? (i := 30) rfl)) (by decide) (by decide)) (g := (mkF m 1 #[.val (.ref ra)] [(.ref ra)])) rfl (by rw [hml]; rfl) (Steps.refl _) (a := ra) (argsL := []) (rest := []) (lenOf pd_8 rfl) rfl (by show 2 * 0 + _ ≤ _; exact Nat.le_of_eq rfl) (hb hby d_jdk_21_method_3_code_1) (fun _ _ => ⟨rfl, e0, (by decide : 0 + 0 ≤ _), (by decide : 0 + 0 ≤ _)⟩)
  dsimp only [Pt.U, Pt.locs, Pt.cells, Pt.slots] at X43 l43 y43 z43 st43 hQ43
  subst l43 y43 z43
  obtain ⟨rfl, N43q, e43⟩ := hQ43
  have N43 := Fr.app N0 N43q
  obtain ⟨T44, h44, k44, X44, e44, E44, A44, O44, st44⟩ := newR X43 hx hZ hown (hw _ (List.mem_of_getElem? (i := 33) rfl)) (hw _ (List.mem_of_getElem? (i := 34) rfl)) e43 (g := (mkF m 7 #[.val (.ref ra)] [(.int (17 : Int32)), (.ref ra)])) rfl (hb hby d_jdk_21_method_3_code_7) rfl (by decide) (cap := 17) (by decide) (by decide) (by decide) (by decide)
  obtain ⟨b44, g44⟩ : ∃ z, z = h0.size := ⟨_, rfl⟩
  rw [← g44] at A44 st44
  have ne_ra_b44 : ra ≠ b44 := Nat.ne_of_lt (Nat.lt_of_lt_of_le E_ra.lt (Nat.le_of_eq g44.symm))
  have g_b44 : n0 ≤ b44 := Nat.le_trans Z0 (Nat.le_of_eq g44.symm)
  have sz_b44 : h0.size ≤ b44 := Nat.le_trans kp0.1 (Nat.le_of_eq g44.symm)
  have E_ra_c44 := E_ra.ext E44
  have F_el_c44 := F_el.ext E44
  have F_ta_c44 := F_ta.ext E44
  have F_he_c44 := F_he.ext E44
  have Z44 : n0 ≤ h44.size := Nat.le_trans Z0 E44.1
  have kp44 := kp0.ext E44
  have Av_b44_44 : Arv Z h44 b44 k44 (.object "java/lang/Object") (17 : Int32) [] .null := Arv.new A44 (by decide)
  obtain ⟨T45, h45, X45, e45, W45, st45⟩ := putF X44 hx hZ hown (host := "") (Or.inl (hw _ (List.mem_of_getElem? (i := 35) rfl))) Via.refl e44 F_el_c44 E_ra_c44 (Or.inl (hw _ (List.mem_of_getElem? (i := 36) rfl))) (hw _ (List.mem_of_getElem? (i := 21) rfl)) (ty := (.array (.object "java/lang/Object"))) (by decide) rfl rfl (g := (mkF m 10 #[.val (.ref ra)] [(.ref b44), (.ref ra)])) rfl rfl (hb hby d_jdk_21_method_3_code_10)
  have E_ra_c45 := E_ra_c44.wr W45
  have F_ta_c45 := F_ta_c44.other W45 (Or.inr (slot_ne (Or.inl (hw _ (List.mem_of_getElem? (i := 141) rfl))) (Or.inl (hw _ (List.mem_of_getElem? (i := 36) rfl))) (by decide) (t := .int) (t' := (.array (.object "java/lang/Object"))) (by decide) (by decide)))
  have F_he_c45 := F_he_c44.other W45 (Or.inr (slot_ne (Or.inl (hw _ (List.mem_of_getElem? (i := 143) rfl))) (Or.inl (hw _ (List.mem_of_getElem? (i := 36) rfl))) (by decide) (t := .int) (t' := (.array (.object "java/lang/Object"))) (by decide) (by decide)))
  have Av_b44_44_c45 := Av_b44_44.other W45 (Ne.symm ne_ra_b44)
  have Fd_elements_ra_45 := F_el_c44.same W45
  have Z45 : n0 ≤ h45.size := Nat.le_trans Z44 (Keep.of_wr W45).1
  have kp45 := kp44.wr W45 (Or.inl (List.mem_of_getElem? (i := 0) rfl))
  have N45 := Fr.snoc X45 N43 g_ra
  obtain ⟨fs, hr, hrun, hended, hW, hsame⟩ := X45.leave (v := none) (fun _ => rfl)
  refine ⟨_, _, pre0 _ ?_, hrun, hended, _, _, rfl, ?_, ⟨_, rfl⟩, hW, hsame.mono (by decide) (by decide)⟩
  · show Steps p.tables e below (s₁.setTop (mkF m 0 #[.val (.ref ra)] [])) _
    refine XS.aloadN X0.here hx rfl (hb hby d_jdk_21_method_3_code_0) rfl rfl ?_
    show Steps p.tables e below (s₁.setTop (mkF m 1 #[.val (.ref ra)] [(.ref ra)])) _
    refine st43.trans ?_
    show Steps p.tables e below (T43.setTop (mkF m 4 #[.val (.ref ra)] [])) _
    refine XS.aloadN X43.here hx rfl (hb hby d_jdk_21_method_3_code_4) rfl rfl ?_
    show Steps p.tables e below (T43.setTop (mkF m 5 #[.val (.ref ra)] [(.ref ra)])) _
    refine XS.bipush X43.here hx rfl (hb hby d_jdk_21_method_3_code_5) ?_
    show Steps p.tables e below (T43.setTop (mkF m 7 #[.val (.ref ra)] [(.int (17 : Int32)), (.ref ra)])) _
    refine st44 _ ?_
    show Steps p.tables e below (T44.setTop (mkF m 10 #[.val (.ref ra)] [(.ref b44), (.ref ra)])) _
    refine st45 _ ?_
    show Steps p.tables e below (T45.setTop (mkF m 13 #[.val (.ref ra)] [])) _
    exact X45.returnOut hx Bd.returns (hb hby d_jdk_21_method_3_code_13) hr
  · show Q_adini Z ra h0 n0 _ T45.heap _
    rw [e45]
    exact ⟨rfl, N45, kp45, b44, k44, ⟨E_ra_c45, Fd_elements_ra_45, F_ta_c45, F_he_c45, Av_b44_44_c45⟩, g_b44, sz_b44⟩
theorem d_jdk_21_method_9_code_0 : decode jdk_21_method_9_code 0 = .ok (.iload_n 0, 1) := by decide +kernel
theorem d_jdk_21_method_9_code_1 : decode jdk_21_method_9_code 1 = .ok (.iload_n 1, 1) := by decide +kernel
theorem d_jdk_21_method_9_code_2 : decode jdk_21_method_9_code 2 = .ok (.isub, 1) := by decide +kernel
theorem d_jdk_21_method_9_code_3 : decode jdk_21_method_9_code 3 = .ok (.dup, 1) := by decide +kernel
theorem d_jdk_21_method_9_code_4 : decode jdk_21_method_9_code 4 = .ok (.istore_n 0, 1) := by decide +kernel
theorem d_jdk_21_method_9_code_5 : decode jdk_21_method_9_code 5 = .ok (.ifCond .ge 7, 3) := by decide +kernel
theorem d_jdk_21_method_9_code_12 : decode jdk_21_method_9_code 12 = .ok (.iload_n 0, 1) := by decide +kernel
theorem d_jdk_21_method_9_code_13 : decode jdk_21_method_9_code 13 = .ok (.ireturn, 1) := by decide +kernel
theorem ef_sub (m : MethodId) (va : Int32) (vb : Int32) (vn : Int32) : entryFrame m #[(.int va), (.int vb), (.int vn)] 3 = mkF m 0 #[.val (.int va), .val (.int vb), .val (.int vn)] [] := by first | (simp [entryFrame, mkF, argsToLocals, Value.category]; done) | rfl
def Q_sub (Z : State) (va : Int32) (vb : Int32) (vn : Int32) (h0 : Heap) (n0 : Nat) (v : Option Value) (h : Heap) (L : List Loc) : Prop := (∃ z : Int32, v = some (.int z) ∧ (z = va - vb)) ∧ Fr n0 L ∧ h = h0
set_option maxRecDepth 65536 in
set_option maxHeartbeats 40000000 in
theorem rm_sub (l : Launch) (Z : State) (a0 : Array Value) (hw : ∀ d ∈ tables_1, d.before a0 Z = true) (ws : List Jvm.Cond) (va : Int32) (vb : Int32) (vn : Int32) (h0 : Heap) (n0 : Nat) (Z0 : n0 ≤ h0.size) (hs : ¬ (va - vb) < (0 : Int32)) :
    MetFree l (⟨"java/util/ArrayDeque", "sub", "(III)I"⟩ : MethodName) (head1 (Jvm.Cond.code (⟨"java/util/ArrayDeque", "sub", "(III)I"⟩ : MethodName) jdk_21_method_9_code 3 (some .int) :: ws) ({ frames := 0, cells := 0, slots := 0, locals := 0 } : Room)) (fun a U => a = #[(.int va), (.int vb), (.int vn)] ∧ Z.Warmed39 U.vm ∧ U.heap = h0) (fun _ _ _ _ _ => True) (fun _ U o U' => ∃ v L, o = .returned v ∧ Q_sub Z va vb vn h0 n0 v U'.heap L ∧ FrameEnd U o U' L ({ frames := 0, cells := 0, slots := 0, locals := 0 } : Room).cells ({ frames := 0, cells := 0, slots := 0, locals := 0 } : Room).slots) := by
  refine MetFree.of_bodySF (plainFor_of_name pn_6) hisR ?_
  intro p e s m args below meth c s₁ Bd hml0 hP hK
  obtain ⟨rfl, hZ, hh⟩ := hP
  have hx := Bd.exec
  have hby := Bd.bytes
  have hml : c.maxLocals = 3 := hml0
  have hown : s.vm.findClass "java/util/ArrayDeque" = some m.cls := findClass_of_methodNamed Bd.named
  have hnm := (name_of_methodNamed Bd.named Bd.method).1
  have X0 : Stand p l e ({ frames := 0, cells := 0, slots := 0, locals := 0 } : Room) s m #[(.int va), (.int vb), (.int vn)] below meth c s₁ [] 0 0 := Stand.of_body Bd
  have e0 : s₁.heap = h0 := by rw [← hh, Bd.state]; rfl
  have N0 := Fr.nil n0
  have pre0 : ∀ t, Steps p.tables e below (s₁.setTop (mkF m 0 #[.val (.int va), .val (.int vb), .val (.int vn)] [])) t → Steps p.tables e below (s₁.setTop (entryFrame m #[(.int va), (.int vb), (.int vn)] 3)) t := fun t k => castTop (ef_sub m va vb vn) k
  obtain ⟨fs, hr, hrun, hended, hW, hsame⟩ := X0.leave (v := some (.int (va - vb))) (fun h => by rw [Bd.returns] at h; cases h)
  refine ⟨_, _, pre0 _ ?_, hrun, hended, _, _, rfl, ?_, ⟨_, rfl⟩, hW, hsame.mono (by decide) (by decide)⟩
  · show Steps p.tables e below (s₁.setTop (mkF m 0 #[.val (.int va), .val (.int vb), .val (.int vn)] [])) _
    refine XS.iloadN X0.here hx rfl (hb hby d_jdk_21_method_9_code_0) rfl ?_
    show Steps p.tables e below (s₁.setTop (mkF m 1 #[.val (.int va), .val (.int vb), .val (.int vn)] [(.int va)])) _
    refine XS.iloadN X0.here hx rfl (hb hby d_jdk_21_method_9_code_1) rfl ?_
    show Steps p.tables e below (s₁.setTop (mkF m 2 #[.val (.int va), .val (.int vb), .val (.int vn)] [(.int vb), (.int va)])) _
    refine XS.isub X0.here hx rfl (hb hby d_jdk_21_method_9_code_2) rfl ?_
    show Steps p.tables e below (s₁.setTop (mkF m 3 #[.val (.int va), .val (.int vb), .val (.int vn)] [(.int (va - vb))])) _
    refine XS.dup X0.here hx rfl (hb hby d_jdk_21_method_9_code_3) rfl rfl ?_
    show Steps p.tables e below (s₁.setTop (mkF m 4 #[.val (.int va), .val (.int vb), .val (.int vn)] [(.int (va - vb)), (.int (va - vb))])) _
    refine XS.istoreN X0.here hx rfl (hb hby d_jdk_21_method_9_code_4) rfl (l' := #[.val (.int (va - vb)), .val (.int vb), .val (.int vn)]) rfl ?_
    show Steps p.tables e below (s₁.setTop (mkF m 5 #[.val (.int (va - vb)), .val (.int vb), .val (.int vn)] [(.int (va - vb))])) _
    refine XS.ifYes X0.here hx rfl (pc0 := 5) (pc' := 12) rfl (hb hby d_jdk_21_method_9_code_5) rfl ((if0 _ _).trans (flt (hs : ¬ ((va - vb) < (0 : Int32)))).2.1) (by decide) (by decide) ?_
    show Steps p.tables e below (s₁.setTop (mkF m 12 #[.val (.int (va - vb)), .val (.int vb), .val (.int vn)] [])) _
    refine XS.iloadN X0.here hx rfl (hb hby d_jdk_21_method_9_code_12) rfl ?_
    show Steps p.tables e below (s₁.setTop (mkF m 13 #[.val (.int (va - vb)), .val (.int vb), .val (.int vn)] [(.int (va - vb))])) _
    exact retI X0 hx Bd.returns (hb hby d_jdk_21_method_9_code_13) hr
  · show Q_sub Z va vb vn h0 n0 _ s₁.heap _
    rw [e0]
    exact ⟨⟨_, rfl, rfl⟩, N0, rfl⟩
theorem d_jdk_21_method_37_code_0 : decode jdk_21_method_37_code 0 = .ok (.aload_n 0, 1) := by decide +kernel
theorem d_jdk_21_method_37_code_1 : decode jdk_21_method_37_code 1 = .ok (.getfield 20, 3) := by decide +kernel
theorem d_jdk_21_method_37_code_4 : decode jdk_21_method_37_code 4 = .ok (.aload_n 0, 1) := by decide +kernel
theorem d_jdk_21_method_37_code_5 : decode jdk_21_method_37_code 5 = .ok (.getfield 24, 3) := by decide +kernel
theorem d_jdk_21_method_37_code_8 : decode jdk_21_method_37_code 8 = .ok (.aload_n 0, 1) := by decide +kernel
theorem d_jdk_21_method_37_code_9 : decode jdk_21_method_37_code 9 = .ok (.getfield 3, 3) := by decide +kernel
theorem d_jdk_21_method_37_code_12 : decode jdk_21_method_37_code 12 = .ok (.arraylength, 1) := by decide +kernel
theorem d_jdk_21_method_37_code_13 : decode jdk_21_method_37_code 13 = .ok (.invokestatic 127, 3) := by decide +kernel
theorem pd_9 : parseMethodDescriptor "(III)I" = some ⟨[.int, .int, .int], some .int⟩ := by decide +kernel
theorem d_jdk_21_method_37_code_16 : decode jdk_21_method_37_code 16 = .ok (.ireturn, 1) := by decide +kernel
theorem ef_size (m : MethodId) (ra : Addr) : entryFrame m #[(.ref ra)] 1 = mkF m 0 #[.val (.ref ra)] [] := by first | (simp [entryFrame, mkF, argsToLocals, Value.category]; done) | rfl
def Q_size (Z : State) (ra : Addr) (re : Addr) (ke : ClassId) (h0 : Heap) (n0 : Nat) (v : Option Value) (h : Heap) (L : List Loc) : Prop := (∃ z : Int32, v = some (.int z) ∧ (z = 0)) ∧ Fr n0 L ∧ h = h0
set_option maxRecDepth 65536 in
set_option maxHeartbeats 40000000 in
theorem rm_size (l : Launch) (Z : State) (a0 : Array Value) (hw : ∀ d ∈ tables_1, d.before a0 Z = true) (ws : List Jvm.Cond) (ra : Addr) (re : Addr) (ke : ClassId) (h0 : Heap) (n0 : Nat) (Z0 : n0 ≤ h0.size) (Qr : own_Q Z h0 ra re ke) :
    MetFree l (⟨"java/util/ArrayDeque", "size", "()I"⟩ : MethodName) (head1 (Jvm.Cond.code (⟨"java/util/ArrayDeque", "size", "()I"⟩ : MethodName) jdk_21_method_37_code 1 (some .int) :: ws) ({ frames := 1, cells := 0, slots := 0, locals := 14 } : Room)) (fun a U => a = #[(.ref ra)] ∧ Z.Warmed39 U.vm ∧ U.heap = h0) (fun _ _ _ _ _ => True) (fun _ U o U' => ∃ v L, o = .returned v ∧ Q_size Z ra re ke h0 n0 v U'.heap L ∧ FrameEnd U o U' L ({ frames := 1, cells := 0, slots := 0, locals := 14 } : Room).cells ({ frames := 1, cells := 0, slots := 0, locals := 14 } : Room).slots) := by
  refine MetFree.of_bodySF (plainFor_of_name pn_6) hisR ?_
  intro p e s m args below meth c s₁ Bd hml0 hP hK
  obtain ⟨rfl, hZ, hh⟩ := hP
  have hx := Bd.exec
  have hby := Bd.bytes
  have hml : c.maxLocals = 1 := hml0
  have hown : s.vm.findClass "java/util/ArrayDeque" = some m.cls := findClass_of_methodNamed Bd.named
  have hnm := (name_of_methodNamed Bd.named Bd.method).1
  have X0 : Stand p l e ({ frames := 1, cells := 0, slots := 0, locals := 14 } : Room) s m #[(.ref ra)] below meth c s₁ [] 0 0 := Stand.of_body Bd
  have e0 : s₁.heap = h0 := by rw [← hh, Bd.state]; rfl
  have N0 := Fr.nil n0
  have pre0 : ∀ t, Steps p.tables e below (s₁.setTop (mkF m 0 #[.val (.ref ra)] [])) t → Steps p.tables e below (s₁.setTop (entryFrame m #[(.ref ra)] 1)) t := fun t k => castTop (ef_size m ra) k
  obtain ⟨E_q, F_el, F_ta, F_he, A_el⟩ := id Qr
  obtain ⟨T46, X46, e46, st46⟩ := getF X0 hx hZ hown (host := "") (Or.inl (hw _ (List.mem_of_getElem? (i := 140) rfl))) Via.refl e0 F_ta (g := (mkF m 1 #[.val (.ref ra)] [(.ref ra)])) rfl rfl (hb hby d_jdk_21_method_37_code_1)
  obtain ⟨T47, X47, e47, st47⟩ := getF X46 hx hZ hown (host := "") (Or.inl (hw _ (List.mem_of_getElem? (i := 142) rfl))) Via.refl e46 F_he (g := (mkF m 5 #[.val (.ref ra)] [(.ref ra), (.int (0 : Int32))])) rfl rfl (hb hby d_jdk_21_method_37_code_5)
  obtain ⟨T48, X48, e48, st48⟩ := getF X47 hx hZ hown (host := "") (Or.inl (hw _ (List.mem_of_getElem? (i := 35) rfl))) Via.refl e47 F_el (g := (mkF m 9 #[.val (.ref ra)] [(.ref ra), (.int (0 : Int32)), (.int (0 : Int32))])) rfl rfl (hb hby d_jdk_21_method_37_code_9)
  obtain ⟨cl49, Ar49, -, S49, N49a, -, -⟩ := id A_el
  obtain ⟨_, _, ⟨T50, L50, k50, n50⟩, -, X50, ⟨Lc50, hQ50, l50, y50, z50⟩, st50⟩ := Jvm.LawKit.callS X48 hx (y := (⟨"java/util/ArrayDeque", "sub", "(III)I"⟩ : MethodName)) hown (mvT hZ (hw _ (List.mem_of_getElem? (i := 144) rfl))) (mvT hZ (hw _ (List.mem_of_getElem? (i := 145) rfl))) (mvT hZ (hw _ (List.mem_of_getElem? (i := 22) rfl))) (mvT hZ (hw _ (List.mem_of_getElem? (i := 146) rfl))) (by decide) (backOf (W := 0) (rm_sub l Z a0 hw [] (0 : Int32) (0 : Int32) (17 : Int32) h0 n0 Z0 (by decide)) hZ (hw _ (List.mem_of_getElem? (i := 146) rfl)) (hw _ (List.mem_of_getElem? (i := 22) rfl)) (by decide) (by decide)) (g := (mkF m 13 #[.val (.ref ra)] [(.int (17 : Int32)), (.int (0 : Int32)), (.int (0 : Int32))])) rfl (by rw [hml]; rfl) (argsL := [(.int (0 : Int32)), (.int (0 : Int32)), (.int (17 : Int32))]) (rest := []) (lenOf pd_9 rfl) rfl (by show 2 * 0 + _ ≤ _; exact Nat.le_of_eq rfl) (hb hby d_jdk_21_method_37_code_13) (fun _ _ => ⟨rfl, e48, (by decide : 0 + 0 ≤ _), (by decide : 0 + 0 ≤ _)⟩)
  dsimp only [Pt.U, Pt.locs, Pt.cells, Pt.slots] at X50 l50 y50 z50 st50 hQ50
  subst l50 y50 z50
  obtain ⟨⟨r50, rfl, hr50⟩, N50q, e50⟩ := hQ50
  have N50 := Fr.app N0 N50q
  obtain rfl : (0 : Int32) = r50 := (hr50.trans (by decide)).symm
  obtain ⟨fs, hr, hrun, hended, hW, hsame⟩ := X50.leave (v := some (.int (0 : Int32))) (fun h => by rw [Bd.returns] at h; cases h)
  refine ⟨_, _, pre0 _ ?_, hrun, hended, _, _, rfl, ?_, ⟨_, rfl⟩, hW, hsame.mono (by decide) (by decide)⟩
  · show Steps p.tables e below (s₁.setTop (mkF m 0 #[.val (.ref ra)] [])) _
    refine XS.aloadN X0.here hx rfl (hb hby d_jdk_21_method_37_code_0) rfl rfl ?_
    show Steps p.tables e below (s₁.setTop (mkF m 1 #[.val (.ref ra)] [(.ref ra)])) _
    refine st46 _ ?_
    show Steps p.tables e below (T46.setTop (mkF m 4 #[.val (.ref ra)] [(.int (0 : Int32))])) _
    refine XS.aloadN X46.here hx rfl (hb hby d_jdk_21_method_37_code_4) rfl rfl ?_
    show Steps p.tables e below (T46.setTop (mkF m 5 #[.val (.ref ra)] [(.ref ra), (.int (0 : Int32))])) _
    refine st47 _ ?_
    show Steps p.tables e below (T47.setTop (mkF m 8 #[.val (.ref ra)] [(.int (0 : Int32)), (.int (0 : Int32))])) _
    refine XS.aloadN X47.here hx rfl (hb hby d_jdk_21_method_37_code_8) rfl rfl ?_
    show Steps p.tables e below (T47.setTop (mkF m 9 #[.val (.ref ra)] [(.ref ra), (.int (0 : Int32)), (.int (0 : Int32))])) _
    refine st48 _ ?_
    show Steps p.tables e below (T48.setTop (mkF m 12 #[.val (.ref ra)] [(.ref re), (.int (0 : Int32)), (.int (0 : Int32))])) _
    refine X48.arraylength hx (by rw [e48]; exact Ar49.1) (State.isArrayOf_alike hZ.alike Ar49.2.1) (g := (mkF m 12 #[.val (.ref ra)] [(.ref re), (.int (0 : Int32)), (.int (0 : Int32))])) rfl rfl (hb hby d_jdk_21_method_37_code_12) _ ?_
    rw [len_of S49 N49a]
    show Steps p.tables e below (T48.setTop (mkF m 13 #[.val (.ref ra)] [(.int (17 : Int32)), (.int (0 : Int32)), (.int (0 : Int32))])) _
    refine st50 _ ?_
    show Steps p.tables e below (T50.setTop (mkF m 16 #[.val (.ref ra)] [(.int (0 : Int32))])) _
    exact retI X50 hx Bd.returns (hb hby d_jdk_21_method_37_code_16) hr
  · show Q_size Z ra re ke h0 n0 _ T50.heap _
    rw [e50]
    exact ⟨⟨_, rfl, rfl⟩, N50, rfl⟩
theorem d_prog_85_method_12_code_0 : decode prog_85_method_12_code 0 = .ok (.aload_n 0, 1) := by decide +kernel
theorem d_prog_85_method_12_code_1 : decode prog_85_method_12_code 1 = .ok (.aload_n 0, 1) := by decide +kernel
theorem d_prog_85_method_12_code_2 : decode prog_85_method_12_code 2 = .ok (.getfield 16, 3) := by decide +kernel
theorem d_prog_85_method_12_code_5 : decode prog_85_method_12_code 5 = .ok (.invokeinterface 151 1, 5) := by decide +kernel
theorem d_prog_85_method_12_code_10 : decode prog_85_method_12_code 10 = .ok (.invokevirtual 96, 3) := by decide +kernel
theorem d_prog_85_method_12_code_13 : decode prog_85_method_12_code 13 = .ok (.iconst 0, 1) := by decide +kernel
theorem d_prog_85_method_12_code_14 : decode prog_85_method_12_code 14 = .ok (.istore_n 1, 1) := by decide +kernel
theorem d_prog_85_method_12_code_15 : decode prog_85_method_12_code 15 = .ok (.iload_n 1, 1) := by decide +kernel
theorem d_prog_85_method_12_code_16 : decode prog_85_method_12_code 16 = .ok (.aload_n 0, 1) := by decide +kernel
theorem d_prog_85_method_12_code_17 : decode prog_85_method_12_code 17 = .ok (.getfield 16, 3) := by decide +kernel
theorem d_prog_85_method_12_code_20 : decode prog_85_method_12_code 20 = .ok (.invokeinterface 151 1, 5) := by decide +kernel
theorem d_prog_85_method_12_code_25 : decode prog_85_method_12_code 25 = .ok (.if_icmp .ge 27, 3) := by decide +kernel
theorem d_prog_85_method_12_code_52 : decode prog_85_method_12_code 52 = .ok (.return_, 1) := by decide +kernel
theorem ef_ind (m : MethodId) (ra : Addr) : entryFrame m #[(.ref ra)] 2 = mkF m 0 #[.val (.ref ra), .unset] [] := by first | (simp [entryFrame, mkF, argsToLocals, Value.category]; done) | rfl
def Q_ind (Z : State) (ra : Addr) (rb : Addr) (rd : Addr) (kb : ClassId) (vst : Int32) (ven : Int32) (bs : List Int32) (re : Addr) (ke : ClassId) (h0 : Heap) (n0 : Nat) (v : Option Value) (h : Heap) (L : List Loc) : Prop := v = none ∧ Fr n0 L ∧ h = h0
set_option maxRecDepth 65536 in
set_option maxHeartbeats 40000000 in
theorem rm_ind (l : Launch) (Z : State) (a0 : Array Value) (hw : ∀ d ∈ tables_1, d.before a0 Z = true) (ws : List Jvm.Cond) (ra : Addr) (rb : Addr) (rd : Addr) (kb : ClassId) (vst : Int32) (ven : Int32) (bs : List Int32) (re : Addr) (ke : ClassId) (h0 : Heap) (n0 : Nat) (Z0 : n0 ≤ h0.size) (Wr0 : own_W Z h0 ra rb rd kb vst ven bs) (g_ra : n0 ≤ ra) (g_rb : n0 ≤ rb) (Qr : own_Q Z h0 rd re ke) (hro : ¬ ((1024 : Int32) - ven) < (0 : Int32)) :
    MetFree l (⟨"com/example/sealwright/sealwright/io/XmlWriter", "indent", "()V"⟩ : MethodName) (head1 (Jvm.Cond.code (⟨"com/example/sealwright/sealwright/io/XmlWriter", "indent", "()V"⟩ : MethodName) prog_85_method_12_code 2 none :: ws) ({ frames := 2, cells := 0, slots := 0, locals := 27 } : Room)) (fun a U => a = #[(.ref ra)] ∧ Z.Warmed39 U.vm ∧ U.heap = h0) (fun _ _ _ _ _ => True) (fun _ U o U' => ∃ v L, o = .returned v ∧ Q_ind Z ra rb rd kb vst ven bs re ke h0 n0 v U'.heap L ∧ FrameEnd U o U' L ({ frames := 2, cells := 0, slots := 0, locals := 27 } : Room).cells ({ frames := 2, cells := 0, slots := 0, locals := 27 } : Room).slots) := by
  refine MetFree.of_bodySF (plainFor_of_name pn_4) hisR ?_
  intro p e s m args below meth c s₁ Bd hml0 hP hK
  obtain ⟨rfl, hZ, hh⟩ := hP
  have hx := Bd.exec
  have hby := Bd.bytes
  have hml : c.maxLocals = 2 := hml0
  have hown : s.vm.findClass "com/example/sealwright/sealwright/io/XmlWriter" = some m.cls := findClass_of_methodNamed Bd.named
  have hnm := (name_of_methodNamed Bd.named Bd.method).1
  have X0 : Stand p l e ({ frames := 2, cells := 0, slots := 0, locals := 27 } : Room) s m #[(.ref ra)] below meth c s₁ [] 0 0 := Stand.of_body Bd
  have e0 : s₁.heap = h0 := by rw [← hh, Bd.state]; rfl
  have N0 := Fr.nil n0
  have pre0 : ∀ t, Steps p.tables e below (s₁.setTop (mkF m 0 #[.val (.ref ra), .unset] [])) t → Steps p.tables e below (s₁.setTop (entryFrame m #[(.ref ra)] 2)) t := fun t k => castTop (ef_ind m ra) k
  obtain ⟨E_ra, F_bytes, F_start, F_end, F_open, Av⟩ := id Wr0
  obtain ⟨E_q, F_el, F_ta, F_he, A_el⟩ := id Qr
  obtain ⟨T51, X51, e51, st51⟩ := getF X0 hx hZ hown (host := "") (Or.inl (hw _ (List.mem_of_getElem? (i := 37) rfl))) Via.refl e0 F_open (g := (mkF m 2 #[.val (.ref ra), .unset] [(.ref ra), (.ref ra)])) rfl rfl (hb hby d_prog_85_method_12_code_2)
  obtain ⟨cq52, kq52, q52a, q52b, q52c⟩ := isOf hZ e51 E_q
  obtain ⟨_, _, ⟨T52, L52, k52, n52⟩, -, X52, ⟨Lc52, hQ52, l52, y52, z52⟩, st52⟩ := X51.interfaceBack hx (xi := (⟨"java/util/Deque", "size", "()I"⟩ : MethodName)) (y := (⟨"java/util/ArrayDeque", "size", "()I"⟩ : MethodName)) hown (mvT hZ (hw _ (List.mem_of_getElem? (i := 131) rfl))) (mvT hZ (hw _ (List.mem_of_getElem? (i := 132) rfl))) (mvT hZ (hw _ (List.mem_of_getElem? (i := 133) rfl))) (mvT hZ (hw _ (List.mem_of_getElem? (i := 134) rfl))) (mvT hZ (hw _ (List.mem_of_getElem? (i := 135) rfl))) (mvT hZ (hw _ (List.mem_of_getElem? (i := 136) rfl))) (mvT hZ (hw _ (List.mem_of_getElem? (i := 137) rfl))) (mvT hZ (hw _ (List.mem_of_getElem? (i := 138) rfl))) (by decide) (backOf (W := 1) (rm_size l Z a0 hw [] rd re ke h0 n0 Z0 ⟨E_q, F_el, F_ta, F_he, A_el⟩) hZ (hw _ (List.mem_of_getElem? (i := 139) rfl)) (hw _ (List.mem_of_getElem? (i := 22) rfl)) (by decide) (by decide)) q52a q52b q52c (g := (mkF m 5 #[.val (.ref ra), .unset] [(.ref rd), (.ref ra)])) rfl (by rw [hml]; rfl) (Steps.refl _) (argsL := []) (rest := [(.ref ra)]) (lenOf pd_6 rfl) rfl (by show 2 * 0 + _ ≤ _; exact Nat.le_of_eq rfl) (hb hby d_prog_85_method_12_code_5) (fun _ _ => ⟨rfl, e51, (by decide : 0 + 0 ≤ _), (by decide : 0 + 0 ≤ _)⟩)
  dsimp only [Pt.U, Pt.locs, Pt.cells, Pt.slots] at X52 l52 y52 z52 st52 hQ52
  subst l52 y52 z52
  obtain ⟨⟨r52, rfl, hr52⟩, N52q, e52⟩ := hQ52
  have N52 := Fr.app N0 N52q
  obtain rfl : (0 : Int32) = r52 := hr52.symm
  obtain ⟨cq53, q53, q53'⟩ := E_ra.cell
  obtain ⟨_, _, ⟨T53, L53, k53, n53⟩, -, X53, ⟨Lc53, hQ53, l53, y53, z53⟩, st53⟩ := X52.privateBack hx (y := (⟨"com/example/sealwright/sealwright/io/XmlWriter", "room", "(I)V"⟩ : MethodName)) hown (mvT hZ (hw _ (List.mem_of_getElem? (i := 84) rfl))) (mvT hZ (hw _ (List.mem_of_getElem? (i := 85) rfl))) (mvT hZ (own_sel (y := (⟨"com/example/sealwright/sealwright/io/XmlWriter", "room", "(I)V"⟩ : MethodName)) (hw _ (List.mem_of_getElem? (i := 10) rfl)) (hw _ (List.mem_of_getElem? (i := 86) rfl)) (hw _ (List.mem_of_getElem? (i := 85) rfl)) (by decide))) (Cond.privateMethod_at (mvP hZ (hw _ (List.mem_of_getElem? (i := 86) rfl)) (args := #[]))) (mvT hZ (hw _ (List.mem_of_getElem? (i := 87) rfl))) (by decide) (backOf (W := 0) (rm_room l Z a0 hw [] ra (0 : Int32) rb rd kb vst ven bs h0 n0 Z0 ⟨E_ra, F_bytes, F_start, F_end, F_open, Av⟩ g_ra g_rb hro) hZ (hw _ (List.mem_of_getElem? (i := 87) rfl)) (hw _ (List.mem_of_getElem? (i := 11) rfl)) (by decide) (by decide)) (g := (mkF m 10 #[.val (.ref ra), .unset] [(.int (0 : Int32)), (.ref ra)])) rfl (by rw [hml]; rfl) (Steps.refl _) (a := ra) (by rw [e52]; exact q53) q53' (argsL := [(.int (0 : Int32))]) (rest := []) (lenOf pd_5 rfl) rfl (by show 2 * 0 + _ ≤ _; exact Nat.le_of_eq rfl) (hb hby d_prog_85_method_12_code_10) (fun _ _ => ⟨rfl, e52, (by decide : 0 + 0 ≤ _), (by decide : 0 + 0 ≤ _)⟩)
  dsimp only [Pt.U, Pt.locs, Pt.cells, Pt.slots] at X53 l53 y53 z53 st53 hQ53
  subst l53 y53 z53
  obtain ⟨rfl, N53q, e53⟩ := hQ53
  have N53 := Fr.app N52 N53q
  obtain ⟨T54, X54, e54, st54⟩ := getF X53 hx hZ hown (host := "") (Or.inl (hw _ (List.mem_of_getElem? (i := 37) rfl))) Via.refl e53 F_open (g := (mkF m 17 #[.val (.ref ra), .val (.int (0 : Int32))] [(.ref ra), (.int (0 : Int32))])) rfl rfl (hb hby d_prog_85_method_12_code_17)
  obtain ⟨cq55, kq55, q55a, q55b, q55c⟩ := isOf hZ e54 E_q
  obtain ⟨_, _, ⟨T55, L55, k55, n55⟩, -, X55, ⟨Lc55, hQ55, l55, y55, z55⟩, st55⟩ := X54.interfaceBack hx (xi := (⟨"java/util/Deque", "size", "()I"⟩ : MethodName)) (y := (⟨"java/util/ArrayDeque", "size", "()I"⟩ : MethodName)) hown (mvT hZ (hw _ (List.mem_of_getElem? (i := 131) rfl))) (mvT hZ (hw _ (List.mem_of_getElem? (i := 132) rfl))) (mvT hZ (hw _ (List.mem_of_getElem? (i := 133) rfl))) (mvT hZ (hw _ (List.mem_of_getElem? (i := 134) rfl))) (mvT hZ (hw _ (List.mem_of_getElem? (i := 135) rfl))) (mvT hZ (hw _ (List.mem_of_getElem? (i := 136) rfl))) (mvT hZ (hw _ (List.mem_of_getElem? (i := 137) rfl))) (mvT hZ (hw _ (List.mem_of_getElem? (i := 138) rfl))) (by decide) (backOf (W := 1) (rm_size l Z a0 hw [] rd re ke h0 n0 Z0 ⟨E_q, F_el, F_ta, F_he, A_el⟩) hZ (hw _ (List.mem_of_getElem? (i := 139) rfl)) (hw _ (List.mem_of_getElem? (i := 22) rfl)) (by decide) (by decide)) q55a q55b q55c (g := (mkF m 20 #[.val (.ref ra), .val (.int (0 : Int32))] [(.ref rd), (.int (0 : Int32))])) rfl (by rw [hml]; rfl) (Steps.refl _) (argsL := []) (rest := [(.int (0 : Int32))]) (lenOf pd_6 rfl) rfl (by show 2 * 0 + _ ≤ _; exact Nat.le_of_eq rfl) (hb hby d_prog_85_method_12_code_20) (fun _ _ => ⟨rfl, e54, (by decide : 0 + 0 ≤ _), (by decide : 0 + 0 ≤ _)⟩)
  dsimp only [Pt.U, Pt.locs, Pt.cells, Pt.slots] at X55 l55 y55 z55 st55 hQ55
  subst l55 y55 z55
  obtain ⟨⟨r55, rfl, hr55⟩, N55q, e55⟩ := hQ55
  have N55 := Fr.app N53 N55q
  obtain rfl : (0 : Int32) = r55 := hr55.symm
  obtain ⟨fs, hr, hrun, hended, hW, hsame⟩ := X55.leave (v := none) (fun _ => rfl)
  refine ⟨_, _, pre0 _ ?_, hrun, hended, _, _, rfl, ?_, ⟨_, rfl⟩, hW, hsame.mono (by decide) (by decide)⟩
  · show Steps p.tables e below (s₁.setTop (mkF m 0 #[.val (.ref ra), .unset] [])) _
    refine XS.aloadN X0.here hx rfl (hb hby d_prog_85_method_12_code_0) rfl rfl ?_
    show Steps p.tables e below (s₁.setTop (mkF m 1 #[.val (.ref ra), .unset] [(.ref ra)])) _
    refine XS.aloadN X0.here hx rfl (hb hby d_prog_85_method_12_code_1) rfl rfl ?_
    show Steps p.tables e below (s₁.setTop (mkF m 2 #[.val (.ref ra), .unset] [(.ref ra), (.ref ra)])) _
    refine st51 _ ?_
    show Steps p.tables e below (T51.setTop (mkF m 5 #[.val (.ref ra), .unset] [(.ref rd), (.ref ra)])) _
    refine st52.trans ?_
    show Steps p.tables e below (T52.setTop (mkF m 10 #[.val (.ref ra), .unset] [(.int (0 : Int32)), (.ref ra)])) _
    refine st53.trans ?_
    show Steps p.tables e below (T53.setTop (mkF m 13 #[.val (.ref ra), .unset] [])) _
    refine XS.iconst X53.here hx rfl (hb hby d_prog_85_method_12_code_13) ?_
    show Steps p.tables e below (T53.setTop (mkF m 14 #[.val (.ref ra), .unset] [(.int (0 : Int32))])) _
    refine XS.istoreN X53.here hx rfl (hb hby d_prog_85_method_12_code_14) rfl (l' := #[.val (.ref ra), .val (.int (0 : Int32))]) rfl ?_
    show Steps p.tables e below (T53.setTop (mkF m 15 #[.val (.ref ra), .val (.int (0 : Int32))] [])) _
    refine XS.iloadN X53.here hx rfl (hb hby d_prog_85_method_12_code_15) rfl ?_
    show Steps p.tables e below (T53.setTop (mkF m 16 #[.val (.ref ra), .val (.int (0 : Int32))] [(.int (0 : Int32))])) _
    refine XS.aloadN X53.here hx rfl (hb hby d_prog_85_method_12_code_16) rfl rfl ?_
    show Steps p.tables e below (T53.setTop (mkF m 17 #[.val (.ref ra), .val (.int (0 : Int32))] [(.ref ra), (.int (0 : Int32))])) _
    refine st54 _ ?_
    show Steps p.tables e below (T54.setTop (mkF m 20 #[.val (.ref ra), .val (.int (0 : Int32))] [(.ref rd), (.int (0 : Int32))])) _
    refine st55.trans ?_
    show Steps p.tables e below (T55.setTop (mkF m 25 #[.val (.ref ra), .val (.int (0 : Int32))] [(.int (0 : Int32)), (.int (0 : Int32))])) _
    refine XS.icmpYes X55.here hx rfl (pc0 := 25) (pc' := 52) rfl (hb hby d_prog_85_method_12_code_25) rfl (flt (by decide : ¬ ((0 : Int32) < (0 : Int32)))).2.1 (by decide) (by decide) ?_
    show Steps p.tables e below (T55.setTop (mkF m 52 #[.val (.ref ra), .val (.int (0 : Int32))] [])) _
    exact X55.returnOut hx Bd.returns (hb hby d_prog_85_method_12_code_52) hr
  · show Q_ind Z ra rb rd kb vst ven bs re ke h0 n0 _ T55.heap _
    rw [e55]
    exact ⟨rfl, N55, rfl⟩
theorem d_prog_85_method_2_code_0 : decode prog_85_method_2_code 0 = .ok (.iconst 0, 1) := by decide +kernel
theorem d_prog_85_method_2_code_1 : decode prog_85_method_2_code 1 = .ok (.istore_n 2, 1) := by decide +kernel
theorem d_prog_85_method_2_code_2 : decode prog_85_method_2_code 2 = .ok (.iload_n 2, 1) := by decide +kernel
theorem d_prog_85_method_2_code_3 : decode prog_85_method_2_code 3 = .ok (.aload_n 0, 1) := by decide +kernel
theorem d_prog_85_method_2_code_4 : decode prog_85_method_2_code 4 = .ok (.invokeinterface 26 1, 5) := by decide +kernel
theorem d_prog_85_method_2_code_9 : decode prog_85_method_2_code 9 = .ok (.if_icmp .ge 107, 3) := by decide +kernel
theorem d_prog_85_method_2_code_116 : decode prog_85_method_2_code 116 = .ok (.return_, 1) := by decide +kernel
theorem ef_rxt (m : MethodId) (sa : Addr) (s2 : Addr) : entryFrame m #[(.ref sa), (.ref s2)] 5 = mkF m 0 #[.val (.ref sa), .val (.ref s2), .unset, .unset, .unset] [] := by first | (simp [entryFrame, mkF, argsToLocals, Value.category]; done) | rfl
def Q_rxt (Z : State) (sa : Addr) (s2 : Addr) (sb : Addr) (ks : ClassId) (h0 : Heap) (n0 : Nat) (v : Option Value) (h : Heap) (L : List Loc) : Prop := v = none ∧ Fr n0 L ∧ h = h0
set_option maxRecDepth 65536 in
set_option maxHeartbeats 40000000 in
theorem rm_rxt (l : Launch) (Z : State) (a0 : Array Value) (hw : ∀ d ∈ tables_1, d.before a0 Z = true) (ws : List Jvm.Cond) (sa : Addr) (s2 : Addr) (sb : Addr) (ks : ClassId) (h0 : Heap) (n0 : Nat) (Z0 : n0 ≤ h0.size) (G : own_G Z n0 h0) (Sr : own_S Z h0 sa sb ks (0 : Int32) own_te) :
    MetFree l (⟨"com/example/sealwright/sealwright/io/XmlWriter", "requireXmlText", "(Ljava/lang/CharSequence;Ljava/lang/String;)V"⟩ : MethodName) (head1 (Jvm.Cond.code (⟨"com/example/sealwright/sealwright/io/XmlWriter", "requireXmlText", "(Ljava/lang/CharSequence;Ljava/lang/String;)V"⟩ : MethodName) prog_85_method_2_code 5 none :: ws) ({ frames := 2, cells := 0, slots := 0, locals := 26 } : Room)) (fun a U => a = #[(.ref sa), (.ref s2)] ∧ Z.Warmed39 U.vm ∧ U.heap = h0) (fun _ _ _ _ _ => True) (fun _ U o U' => ∃ v L, o = .returned v ∧ Q_rxt Z sa s2 sb ks h0 n0 v U'.heap L ∧ FrameEnd U o U' L ({ frames := 2, cells := 0, slots := 0, locals := 26 } : Room).cells ({ frames := 2, cells := 0, slots := 0, locals := 26 } : Room).slots) := by
  refine MetFree.of_bodySF (plainFor_of_name pn_4) hisR ?_
  intro p e s m args below meth c s₁ Bd hml0 hP hK
  obtain ⟨rfl, hZ, hh⟩ := hP
  have hx := Bd.exec
  have hby := Bd.bytes
  have hml : c.maxLocals = 5 := hml0
  have hown : s.vm.findClass "com/example/sealwright/sealwright/io/XmlWriter" = some m.cls := findClass_of_methodNamed Bd.named
  have hnm := (name_of_methodNamed Bd.named Bd.method).1
  have X0 : Stand p l e ({ frames := 2, cells := 0, slots := 0, locals := 26 } : Room) s m #[(.ref sa), (.ref s2)] below meth c s₁ [] 0 0 := Stand.of_body Bd
  have e0 : s₁.heap = h0 := by rw [← hh, Bd.state]; rfl
  have N0 := Fr.nil n0
  have pre0 : ∀ t, Steps p.tables e below (s₁.setTop (mkF m 0 #[.val (.ref sa), .val (.ref s2), .unset, .unset, .unset] [])) t → Steps p.tables e below (s₁.setTop (entryFrame m #[(.ref sa), (.ref s2)] 5)) t := fun t k => castTop (ef_rxt m sa s2) k
  obtain ⟨Es, Fc, Fv, As⟩ := id Sr
  obtain ⟨cq56, kq56, q56a, q56b, q56c⟩ := isOf hZ e0 Es
  obtain ⟨_, _, ⟨T56, L56, k56, n56⟩, -, X56, ⟨Lc56, hQ56, l56, y56, z56⟩, st56⟩ := X0.interfaceBack hx (xi := (⟨"java/lang/CharSequence", "length", "()I"⟩ : MethodName)) (y := (⟨"java/lang/String", "length", "()I"⟩ : MethodName)) hown (mvT hZ (hw _ (List.mem_of_getElem? (i := 160) rfl))) (mvT hZ (hw _ (List.mem_of_getElem? (i := 161) rfl))) (mvT hZ (hw _ (List.mem_of_getElem? (i := 162) rfl))) (mvT hZ (hw _ (List.mem_of_getElem? (i := 163) rfl))) (mvT hZ (hw _ (List.mem_of_getElem? (i := 46) rfl))) (mvT hZ (hw _ (List.mem_of_getElem? (i := 164) rfl))) (mvT hZ (hw _ (List.mem_of_getElem? (i := 165) rfl))) (mvT hZ (hw _ (List.mem_of_getElem? (i := 166) rfl))) (by decide) (backOf (W := 1) (rm_len l Z a0 hw [] sa sb ks (0 : Int32) own_te h0 n0 Z0 G ⟨Es, Fc, Fv, As⟩) hZ (hw _ (List.mem_of_getElem? (i := 48) rfl)) (hw _ (List.mem_of_getElem? (i := 1) rfl)) (by decide) (by decide)) q56a q56b q56c (g := (mkF m 4 #[.val (.ref sa), .val (.ref s2), .val (.int (0 : Int32)), .unset, .unset] [(.ref sa), (.int (0 : Int32))])) rfl (by rw [hml]; rfl) (Steps.refl _) (argsL := []) (rest := [(.int (0 : Int32))]) (lenOf pd_6 rfl) rfl (by show 2 * 0 + _ ≤ _; exact Nat.le_of_eq rfl) (hb hby d_prog_85_method_2_code_4) (fun _ _ => ⟨rfl, e0, (by decide : 0 + 0 ≤ _), (by decide : 0 + 0 ≤ _)⟩)
  dsimp only [Pt.U, Pt.locs, Pt.cells, Pt.slots] at X56 l56 y56 z56 st56 hQ56
  subst l56 y56 z56
  obtain ⟨⟨r56, rfl, hr56⟩, N56q, e56⟩ := hQ56
  have N56 := Fr.app N0 N56q
  obtain rfl : (0 : Int32) = r56 := hr56.symm
  obtain ⟨fs, hr, hrun, hended, hW, hsame⟩ := X56.leave (v := none) (fun _ => rfl)
  refine ⟨_, _, pre0 _ ?_, hrun, hended, _, _, rfl, ?_, ⟨_, rfl⟩, hW, hsame.mono (by decide) (by decide)⟩
  · show Steps p.tables e below (s₁.setTop (mkF m 0 #[.val (.ref sa), .val (.ref s2), .unset, .unset, .unset] [])) _
    refine XS.iconst X0.here hx rfl (hb hby d_prog_85_method_2_code_0) ?_
    show Steps p.tables e below (s₁.setTop (mkF m 1 #[.val (.ref sa), .val (.ref s2), .unset, .unset, .unset] [(.int (0 : Int32))])) _
    refine XS.istoreN X0.here hx rfl (hb hby d_prog_85_method_2_code_1) rfl (l' := #[.val (.ref sa), .val (.ref s2), .val (.int (0 : Int32)), .unset, .unset]) rfl ?_
    show Steps p.tables e below (s₁.setTop (mkF m 2 #[.val (.ref sa), .val (.ref s2), .val (.int (0 : Int32)), .unset, .unset] [])) _
    refine XS.iloadN X0.here hx rfl (hb hby d_prog_85_method_2_code_2) rfl ?_
    show Steps p.tables e below (s₁.setTop (mkF m 3 #[.val (.ref sa), .val (.ref s2), .val (.int (0 : Int32)), .unset, .unset] [(.int (0 : Int32))])) _
    refine XS.aloadN X0.here hx rfl (hb hby d_prog_85_method_2_code_3) rfl rfl ?_
    show Steps p.tables e below (s₁.setTop (mkF m 4 #[.val (.ref sa), .val (.ref s2), .val (.int (0 : Int32)), .unset, .unset] [(.ref sa), (.int (0 : Int32))])) _
    refine st56.trans ?_
    show Steps p.tables e below (T56.setTop (mkF m 9 #[.val (.ref sa), .val (.ref s2), .val (.int (0 : Int32)), .unset, .unset] [(.int (0 : Int32)), (.int (0 : Int32))])) _
    refine XS.icmpYes X56.here hx rfl (pc0 := 9) (pc' := 116) rfl (hb hby d_prog_85_method_2_code_9) rfl (flt (by decide : ¬ ((0 : Int32) < (0 : Int32)))).2.1 (by decide) (by decide) ?_
    show Steps p.tables e below (T56.setTop (mkF m 116 #[.val (.ref sa), .val (.ref s2), .val (.int (0 : Int32)), .unset, .unset] [])) _
    exact X56.returnOut hx Bd.returns (hb hby d_prog_85_method_2_code_116) hr
  · show Q_rxt Z sa s2 sb ks h0 n0 _ T56.heap _
    rw [e56]
    exact ⟨rfl, N56, rfl⟩
theorem d_prog_85_method_22_code_0 : decode prog_85_method_22_code 0 = .ok (.aload_n 1, 1) := by decide +kernel
theorem d_prog_85_method_22_code_1 : decode prog_85_method_22_code 1 = .ok (.aload_n 2, 1) := by decide +kernel
theorem d_prog_85_method_22_code_2 : decode prog_85_method_22_code 2 = .ok (.invokestatic 301, 3) := by decide +kernel
theorem pd_10 : parseMethodDescriptor "(Ljava/lang/CharSequence;Ljava/lang/String;)V" = some ⟨[(.object "java/lang/CharSequence"), (.object "java/lang/String")], none⟩ := by decide +kernel
theorem d_prog_85_method_22_code_5 : decode prog_85_method_22_code 5 = .ok (.iconst 0, 1) := by decide +kernel
theorem d_prog_85_method_22_code_6 : decode prog_85_method_22_code 6 = .ok (.istore 4, 2) := by decide +kernel
theorem d_prog_85_method_22_code_8 : decode prog_85_method_22_code 8 = .ok (.iload 4, 2) := by decide +kernel
theorem d_prog_85_method_22_code_10 : decode prog_85_method_22_code 10 = .ok (.aload_n 1, 1) := by decide +kernel
theorem d_prog_85_method_22_code_11 : decode prog_85_method_22_code 11 = .ok (.invokeinterface 26 1, 5) := by decide +kernel
theorem d_prog_85_method_22_code_16 : decode prog_85_method_22_code 16 = .ok (.if_icmp .ge 31, 3) := by decide +kernel
theorem d_prog_85_method_22_code_47 : decode prog_85_method_22_code 47 = .ok (.return_, 1) := by decide +kernel
theorem ef_esc (m : MethodId) (ra : Addr) (sa : Addr) (s2 : Addr) (vq : Int32) : entryFrame m #[(.ref ra), (.ref sa), (.ref s2), (.int vq)] 6 = mkF m 0 #[.val (.ref ra), .val (.ref sa), .val (.ref s2), .val (.int vq), .unset, .unset] [] := by first | (simp [entryFrame, mkF, argsToLocals, Value.category]; done) | rfl
def Q_esc (Z : State) (ra : Addr) (sa : Addr) (s2 : Addr) (vq : Int32) (sb : Addr) (ks : ClassId) (h0 : Heap) (n0 : Nat) (v : Option Value) (h : Heap) (L : List Loc) : Prop := v = none ∧ Fr n0 L ∧ h = h0
set_option maxRecDepth 65536 in
set_option maxHeartbeats 40000000 in
theorem rm_esc (l : Launch) (Z : State) (a0 : Array Value) (hw : ∀ d ∈ tables_1, d.before a0 Z = true) (ws : List Jvm.Cond) (ra : Addr) (sa : Addr) (s2 : Addr) (vq : Int32) (sb : Addr) (ks : ClassId) (h0 : Heap) (n0 : Nat) (Z0 : n0 ≤ h0.size) (G : own_G Z n0 h0) (Sr : own_S Z h0 sa sb ks (0 : Int32) own_te) :
    MetFree l (⟨"com/example/sealwright/sealwright/io/XmlWriter", "escape", "(Ljava/lang/CharSequence;Ljava/lang/String;Z)V"⟩ : MethodName) (head1 (Jvm.Cond.code (⟨"com/example/sealwright/sealwright/io/XmlWriter", "escape", "(Ljava/lang/CharSequence;Ljava/lang/String;Z)V"⟩ : MethodName) prog_85_method_22_code 6 none :: ws) ({ frames := 3, cells := 0, slots := 0, locals := 42 } : Room)) (fun a U => a = #[(.ref ra), (.ref sa), (.ref s2), (.int vq)] ∧ Z.Warmed39 U.vm ∧ U.heap = h0) (fun _ _ _ _ _ => True) (fun _ U o U' => ∃ v L, o = .returned v ∧ Q_esc Z ra sa s2 vq sb ks h0 n0 v U'.heap L ∧ FrameEnd U o U' L ({ frames := 3, cells := 0, slots := 0, locals := 42 } : Room).cells ({ frames := 3, cells := 0, slots := 0, locals := 42 } : Room).slots) := by
  refine MetFree.of_bodySF (plainFor_of_name pn_4) hisR ?_
  intro p e s m args below meth c s₁ Bd hml0 hP hK
  obtain ⟨rfl, hZ, hh⟩ := hP
  have hx := Bd.exec
  have hby := Bd.bytes
  have hml : c.maxLocals = 6 := hml0
  have hown : s.vm.findClass "com/example/sealwright/sealwright/io/XmlWriter" = some m.cls := findClass_of_methodNamed Bd.named
  have hnm := (name_of_methodNamed Bd.named Bd.method).1
  have X0 : Stand p l e ({ frames := 3, cells := 0, slots := 0, locals := 42 } : Room) s m #[(.ref ra), (.ref sa), (.ref s2), (.int vq)] below meth c s₁ [] 0 0 := Stand.of_body Bd
  have e0 : s₁.heap = h0 := by rw [← hh, Bd.state]; rfl
  have N0 := Fr.nil n0
  have pre0 : ∀ t, Steps p.tables e below (s₁.setTop (mkF m 0 #[.val (.ref ra), .val (.ref sa), .val (.ref s2), .val (.int vq), .unset, .unset] [])) t → Steps p.tables e below (s₁.setTop (entryFrame m #[(.ref ra), (.ref sa), (.ref s2), (.int vq)] 6)) t := fun t k => castTop (ef_esc m ra sa s2 vq) k
  obtain ⟨Es, Fc, Fv, As⟩ := id Sr
  obtain ⟨_, _, ⟨T57, L57, k57, n57⟩, -, X57, ⟨Lc57, hQ57, l57, y57, z57⟩, st57⟩ := Jvm.LawKit.callS X0 hx (y := (⟨"com/example/sealwright/sealwright/io/XmlWriter", "requireXmlText", "(Ljava/lang/CharSequence;Ljava/lang/String;)V"⟩ : MethodName)) hown (mvT hZ (hw _ (List.mem_of_getElem? (i := 157) rfl))) (mvT hZ (hw _ (List.mem_of_getElem? (i := 158) rfl))) (mvT hZ (hw _ (List.mem_of_getElem? (i := 11) rfl))) (mvT hZ (hw _ (List.mem_of_getElem? (i := 159) rfl))) (by decide) (backOf (W := 0) (rm_rxt l Z a0 hw [] sa s2 sb ks h0 n0 Z0 G ⟨Es, Fc, Fv, As⟩) hZ (hw _ (List.mem_of_getElem? (i := 159) rfl)) (hw _ (List.mem_of_getElem? (i := 11) rfl)) (by decide) (by decide)) (g := (mkF m 2 #[.val (.ref ra), .val (.ref sa), .val (.ref s2), .val (.int vq), .unset, .unset] [(.ref s2), (.ref sa)])) rfl (by rw [hml]; rfl) (argsL := [(.ref sa), (.ref s2)]) (rest := []) (lenOf pd_10 rfl) rfl (by show 2 * 0 + _ ≤ _; exact Nat.le_of_eq rfl) (hb hby d_prog_85_method_22_code_2) (fun _ _ => ⟨rfl, e0, (by decide : 0 + 0 ≤ _), (by decide : 0 + 0 ≤ _)⟩)
  dsimp only [Pt.U, Pt.locs, Pt.cells, Pt.slots] at X57 l57 y57 z57 st57 hQ57
  subst l57 y57 z57
  obtain ⟨rfl, N57q, e57⟩ := hQ57
  have N57 := Fr.app N0 N57q
  obtain ⟨cq58, kq58, q58a, q58b, q58c⟩ := isOf hZ e57 Es
  obtain ⟨_, _, ⟨T58, L58, k58, n58⟩, -, X58, ⟨Lc58, hQ58, l58, y58, z58⟩, st58⟩ := X57.interfaceBack hx (xi := (⟨"java/lang/CharSequence", "length", "()I"⟩ : MethodName)) (y := (⟨"java/lang/String", "length", "()I"⟩ : MethodName)) hown (mvT hZ (hw _ (List.mem_of_getElem? (i := 160) rfl))) (mvT hZ (hw _ (List.mem_of_getElem? (i := 161) rfl))) (mvT hZ (hw _ (List.mem_of_getElem? (i := 162) rfl))) (mvT hZ (hw _ (List.mem_of_getElem? (i := 163) rfl))) (mvT hZ (hw _ (List.mem_of_getElem? (i := 46) rfl))) (mvT hZ (hw _ (List.mem_of_getElem? (i := 164) rfl))) (mvT hZ (hw _ (List.mem_of_getElem? (i := 165) rfl))) (mvT hZ (hw _ (List.mem_of_getElem? (i := 166) rfl))) (by decide) (backOf (W := 1) (rm_len l Z a0 hw [] sa sb ks (0 : Int32) own_te h0 n0 Z0 G ⟨Es, Fc, Fv, As⟩) hZ (hw _ (List.mem_of_getElem? (i := 48) rfl)) (hw _ (List.mem_of_getElem? (i := 1) rfl)) (by decide) (by decide)) q58a q58b q58c (g := (mkF m 11 #[.val (.ref ra), .val (.ref sa), .val (.ref s2), .val (.int vq), .val (.int (0 : Int32)), .unset] [(.ref sa), (.int (0 : Int32))])) rfl (by rw [hml]; rfl) (Steps.refl _) (argsL := []) (rest := [(.int (0 : Int32))]) (lenOf pd_6 rfl) rfl (by show 2 * 0 + _ ≤ _; exact Nat.le_of_eq rfl) (hb hby d_prog_85_method_22_code_11) (fun _ _ => ⟨rfl, e57, (by decide : 0 + 0 ≤ _), (by decide : 0 + 0 ≤ _)⟩)
  dsimp only [Pt.U, Pt.locs, Pt.cells, Pt.slots] at X58 l58 y58 z58 st58 hQ58
  subst l58 y58 z58
  obtain ⟨⟨r58, rfl, hr58⟩, N58q, e58⟩ := hQ58
  have N58 := Fr.app N57 N58q
  obtain rfl : (0 : Int32) = r58 := hr58.symm
  obtain ⟨fs, hr, hrun, hended, hW, hsame⟩ := X58.leave (v := none) (fun _ => rfl)
  refine ⟨_, _, pre0 _ ?_, hrun, hended, _, _, rfl, ?_, ⟨_, rfl⟩, hW, hsame.mono (by decide) (by decide)⟩
  · show Steps p.tables e below (s₁.setTop (mkF m 0 #[.val (.ref ra), .val (.ref sa), .val (.ref s2), .val (.int vq), .unset, .unset] [])) _
    refine XS.aloadN X0.here hx rfl (hb hby d_prog_85_method_22_code_0) rfl rfl ?_
    show Steps p.tables e below (s₁.setTop (mkF m 1 #[.val (.ref ra), .val (.ref sa), .val (.ref s2), .val (.int vq), .unset, .unset] [(.ref sa)])) _
    refine XS.aloadN X0.here hx rfl (hb hby d_prog_85_method_22_code_1) rfl rfl ?_
    show Steps p.tables e below (s₁.setTop (mkF m 2 #[.val (.ref ra), .val (.ref sa), .val (.ref s2), .val (.int vq), .unset, .unset] [(.ref s2), (.ref sa)])) _
    refine st57 _ ?_
    show Steps p.tables e below (T57.setTop (mkF m 5 #[.val (.ref ra), .val (.ref sa), .val (.ref s2), .val (.int vq), .unset, .unset] [])) _
    refine XS.iconst X57.here hx rfl (hb hby d_prog_85_method_22_code_5) ?_
    show Steps p.tables e below (T57.setTop (mkF m 6 #[.val (.ref ra), .val (.ref sa), .val (.ref s2), .val (.int vq), .unset, .unset] [(.int (0 : Int32))])) _
    refine XS.istore X57.here hx rfl (hb hby d_prog_85_method_22_code_6) rfl (l' := #[.val (.ref ra), .val (.ref sa), .val (.ref s2), .val (.int vq), .val (.int (0 : Int32)), .unset]) rfl ?_
    show Steps p.tables e below (T57.setTop (mkF m 8 #[.val (.ref ra), .val (.ref sa), .val (.ref s2), .val (.int vq), .val (.int (0 : Int32)), .unset] [])) _
    refine XS.iload X57.here hx rfl (hb hby d_prog_85_method_22_code_8) rfl ?_
    show Steps p.tables e below (T57.setTop (mkF m 10 #[.val (.ref ra), .val (.ref sa), .val (.ref s2), .val (.int vq), .val (.int (0 : Int32)), .unset] [(.int (0 : Int32))])) _
    refine XS.aloadN X57.here hx rfl (hb hby d_prog_85_method_22_code_10) rfl rfl ?_
    show Steps p.tables e below (T57.setTop (mkF m 11 #[.val (.ref ra), .val (.ref sa), .val (.ref s2), .val (.int vq), .val (.int (0 : Int32)), .unset] [(.ref sa), (.int (0 : Int32))])) _
    refine st58.trans ?_
    show Steps p.tables e below (T58.setTop (mkF m 16 #[.val (.ref ra), .val (.ref sa), .val (.ref s2), .val (.int vq), .val (.int (0 : Int32)), .unset] [(.int (0 : Int32)), (.int (0 : Int32))])) _
    refine XS.icmpYes X58.here hx rfl (pc0 := 16) (pc' := 47) rfl (hb hby d_prog_85_method_22_code_16) rfl (flt (by decide : ¬ ((0 : Int32) < (0 : Int32)))).2.1 (by decide) (by decide) ?_
    show Steps p.tables e below (T58.setTop (mkF m 47 #[.val (.ref ra), .val (.ref sa), .val (.ref s2), .val (.int vq), .val (.int (0 : Int32)), .unset] [])) _
    exact X58.returnOut hx Bd.returns (hb hby d_prog_85_method_22_code_47) hr
  · show Q_esc Z ra sa s2 vq sb ks h0 n0 _ T58.heap _
    rw [e58]
    exact ⟨rfl, N58, rfl⟩
def own_B1 : List Int32 := own_wr (List.replicate 1024 (0 : Int32)) own_D 0
theorem own_B1_len : own_B1.length = 1024 := by rw [own_B1, own_wr_len, List.length_replicate]
def own_C1 : List Int32 := own_wr own_B1 own_tl 0
theorem own_C1_len : own_C1.length = 1024 := by rw [own_C1, own_wr_len]; exact own_B1_len
def own_C2 : List Int32 := own_wr own_C1 own_ta 1
theorem own_C2_len : own_C2.length = 1024 := by rw [own_C2, own_wr_len]; exact own_C1_len
def own_C3 : List Int32 := own_wr own_C2 own_tg 2
theorem own_C3_len : own_C3.length = 1024 := by rw [own_C3, own_wr_len]; exact own_C2_len
def own_C4 : List Int32 := own_wr own_C3 own_ts 3
theorem own_C4_len : own_C4.length = 1024 := by rw [own_C4, own_wr_len]; exact own_C3_len
def own_C5 : List Int32 := own_wr own_C4 own_ta 5
theorem own_C5_len : own_C5.length = 1024 := by rw [own_C5, own_wr_len]; exact own_C4_len
def own_C6 : List Int32 := own_wr own_C5 own_tg 6
theorem own_C6_len : own_C6.length = 1024 := by rw [own_C6, own_wr_len]; exact own_C5_len
def own_C7 : List Int32 := own_wr own_C6 own_tn 7
theorem own_C7_len : own_C7.length = 1024 := by rw [own_C7, own_wr_len]; exact own_C6_len
theorem own_D_a : own_asc own_D := own_asc_of _ (by decide +kernel)
theorem own_ta_a : own_asc own_ta := own_asc_of _ (by decide +kernel)
theorem own_te_a : own_asc own_te := own_asc_of _ (by decide +kernel)
theorem own_tl_a : own_asc own_tl := own_asc_of _ (by decide +kernel)
theorem own_tg_a : own_asc own_tg := own_asc_of _ (by decide +kernel)
theorem own_ts_a : own_asc own_ts := own_asc_of _ (by decide +kernel)
theorem own_tn_a : own_asc own_tn := own_asc_of _ (by decide +kernel)
theorem d_prog_85_method_1_code_0 : decode prog_85_method_1_code 0 = .ok (.aload_n 0, 1) := by decide +kernel
theorem d_prog_85_method_1_code_1 : decode prog_85_method_1_code 1 = .ok (.invokespecial 1, 3) := by decide +kernel
theorem d_prog_85_method_1_code_4 : decode prog_85_method_1_code 4 = .ok (.aload_n 0, 1) := by decide +kernel
theorem d_prog_85_method_1_code_5 : decode prog_85_method_1_code 5 = .ok (.sipush 1024, 3) := by decide +kernel
theorem d_prog_85_method_1_code_8 : decode prog_85_method_1_code 8 = .ok (.newarray .byte, 2) := by decide +kernel
theorem d_prog_85_method_1_code_10 : decode prog_85_method_1_code 10 = .ok (.putfield 7, 3) := by decide +kernel
theorem d_prog_85_method_1_code_13 : decode prog_85_method_1_code 13 = .ok (.aload_n 0, 1) := by decide +kernel
theorem d_prog_85_method_1_code_14 : decode prog_85_method_1_code 14 = .ok (.new 13, 3) := by decide +kernel
theorem d_prog_85_method_1_code_17 : decode prog_85_method_1_code 17 = .ok (.dup, 1) := by decide +kernel
theorem d_prog_85_method_1_code_18 : decode prog_85_method_1_code 18 = .ok (.invokespecial 15, 3) := by decide +kernel
theorem d_prog_85_method_1_code_21 : decode prog_85_method_1_code 21 = .ok (.putfield 16, 3) := by decide +kernel
theorem d_prog_85_method_1_code_24 : decode prog_85_method_1_code 24 = .ok (.aload_n 0, 1) := by decide +kernel
theorem d_prog_85_method_1_code_25 : decode prog_85_method_1_code 25 = .ok (.ldc 20, 2) := by decide +kernel
theorem d_prog_85_method_1_code_27 : decode prog_85_method_1_code 27 = .ok (.invokevirtual 22, 3) := by decide +kernel
theorem pd_11 : parseMethodDescriptor "(Ljava/lang/String;)V" = some ⟨[(.object "java/lang/String")], none⟩ := by decide +kernel
theorem d_prog_85_method_1_code_30 : decode prog_85_method_1_code 30 = .ok (.return_, 1) := by decide +kernel
theorem ef_xini (m : MethodId) (ra : Addr) : entryFrame m #[(.ref ra)] 1 = mkF m 0 #[.val (.ref ra)] [] := by first | (simp [entryFrame, mkF, argsToLocals, Value.category]; done) | rfl
def Q_xini (Z : State) (ra : Addr) (h0 : Heap) (n0 : Nat) (v : Option Value) (h : Heap) (L : List Loc) : Prop := v = none ∧ Fr n0 L ∧ Keep h0 h [ra] ∧ (∃ (rb rd : Addr) (kb : ClassId) (re : Addr) (ke : ClassId), own_W Z h ra rb rd kb (0 : Int32) (39 : Int32) own_B1 ∧ own_Q Z h rd re ke ∧ n0 ≤ rb ∧ h0.size ≤ rb ∧ h0.size ≤ rd ∧ h0.size ≤ re)
set_option maxRecDepth 65536 in
set_option maxHeartbeats 40000000 in
theorem rm_xini (l : Launch) (Z : State) (a0 : Array Value) (hw : ∀ d ∈ tables_1, d.before a0 Z = true) (ws : List Jvm.Cond) (ra : Addr) (h0 : Heap) (n0 : Nat) (Z0 : n0 ≤ h0.size) (E_ra : Exa Z h0 ra "com/example/sealwright/sealwright/io/XmlWriter") (F_bytes : Fld Z h0 ra "com/example/sealwright/sealwright/io/XmlWriter" "bytes" "[B" .null) (F_start : Fld Z h0 ra "com/example/sealwright/sealwright/io/XmlWriter" "start" "I" (.int (0 : Int32))) (F_end : Fld Z h0 ra "com/example/sealwright/sealwright/io/XmlWriter" "end" "I" (.int (0 : Int32))) (F_open : Fld Z h0 ra "com/example/sealwright/sealwright/io/XmlWriter" "open" "Ljava/util/Deque;" .null) (g_ra : n0 ≤ ra) (G : own_G Z n0 h0) :
    MetFree l (⟨"com/example/sealwright/sealwright/io/XmlWriter", "<init>", "()V"⟩ : MethodName) (head1 (Jvm.Cond.code (⟨"com/example/sealwright/sealwright/io/XmlWriter", "<init>", "()V"⟩ : MethodName) prog_85_method_1_code 1 none :: ws) ({ frames := 4, cells := 5, slots := 1204, locals := 56 } : Room)) (fun a U => a = #[(.ref ra)] ∧ Z.Warmed39 U.vm ∧ U.heap = h0 ∧ CHv Z consts_1 U.vm h0) (fun _ _ _ _ _ => True) (fun _ U o U' => ∃ v L, o = .returned v ∧ Q_xini Z ra h0 n0 v U'.heap L ∧ CHr Z consts_1 U.vm U.heap U'.vm U'.heap ∧ ReturnedEndW U o U' L ({ frames := 4, cells := 5, slots := 1204, locals := 56 } : Room).cells ({ frames := 4, cells := 5, slots := 1204, locals := 56 } : Room).slots) := by
  refine MetFree.of_bodySF (plainFor_of_name pn_4) hisR ?_
  intro p e s m args below meth c s₁ Bd hml0 hP hK
  obtain ⟨rfl, hZ, hh, CH0⟩ := hP
  have hx := Bd.exec
  have hby := Bd.bytes
  have hml : c.maxLocals = 1 := hml0
  have hown : s.vm.findClass "com/example/sealwright/sealwright/io/XmlWriter" = some m.cls := findClass_of_methodNamed Bd.named
  have hnm := (name_of_methodNamed Bd.named Bd.method).1
  have X0 : Stand p l e ({ frames := 4, cells := 5, slots := 1204, locals := 56 } : Room) s m #[(.ref ra)] below meth c s₁ [] 0 0 := Stand.of_body Bd
  have e0 : s₁.heap = h0 := by rw [← hh, Bd.state]; rfl
  have N0 := Fr.nil n0
  have pre0 : ∀ t, Steps p.tables e below (s₁.setTop (mkF m 0 #[.val (.ref ra)] [])) t → Steps p.tables e below (s₁.setTop (entryFrame m #[(.ref ra)] 1)) t := fun t k => castTop (ef_xini m ra) k
  have kp0 : Keep h0 h0 [ra] := Keep.refl h0 _
  have XH : Stand p l e ({ frames := 4, cells := 5, slots := 1204, locals := 56 } : Room) (s.setVm s.vm) m #[(.ref ra)] below meth c s₁ [] 0 0 := X0
  have hS0 : s.Since s.vm 0 := (State.WarmedH.refl s).since 0
  have kl0 : 0 ≤ h0.size := Nat.zero_le _
  have CR0 : CHr Z consts_1 s.vm h0 s.vm h0 := CHr.refl CH0
  obtain ⟨T59, X59, e59, st59⟩ := initO XH hx hZ hown (hw _ (List.mem_of_getElem? (i := 15) rfl)) (hw _ (List.mem_of_getElem? (i := 16) rfl)) (hw _ (List.mem_of_getElem? (i := 17) rfl)) e0 (g := (mkF m 1 #[.val (.ref ra)] [(.ref ra)])) rfl (by rw [hml]; rfl) rfl (hb hby d_prog_85_method_1_code_1) (by decide) (W := 0) (by show 2 * 0 + _ ≤ _; exact Nat.le_of_eq rfl) (by decide)
  obtain ⟨T60, h60, k60, X60, e60, E60, A60, st60⟩ := newP X59 hx hZ (hw _ (List.mem_of_getElem? (i := 3) rfl)) e59 (g := (mkF m 8 #[.val (.ref ra)] [(.int (1024 : Int32)), (.ref ra)])) rfl (hb hby d_prog_85_method_1_code_8) rfl (by decide) (cap := 1024) (by decide) (by decide) (by decide) (by decide)
  obtain ⟨b60, g60⟩ : ∃ z, z = h0.size := ⟨_, rfl⟩
  rw [← g60] at A60 st60
  have ne_ra_b60 : ra ≠ b60 := Nat.ne_of_lt (Nat.lt_of_lt_of_le E_ra.lt (Nat.le_of_eq g60.symm))
  have g_b60 : n0 ≤ b60 := Nat.le_trans Z0 (Nat.le_of_eq g60.symm)
  have sz_b60 : h0.size ≤ b60 := Nat.le_trans kp0.1 (Nat.le_of_eq g60.symm)
  have E_ra_c60 := E_ra.ext E60
  have G_c60 := own_G.ext G E60
  have F_bytes_c60 := F_bytes.ext E60
  have F_start_c60 := F_start.ext E60
  have F_end_c60 := F_end.ext E60
  have F_open_c60 := F_open.ext E60
  have CR60 := CR0.trans (CHr.ext E60 CR0.1)
  have kl60 := Nat.le_trans kl0 E60.1
  have Z60 : n0 ≤ h60.size := Nat.le_trans Z0 E60.1
  have kp60 := kp0.ext E60
  have Av_b60_60 : Arv Z h60 b60 k60 .byte (1024 : Int32) ((List.replicate 1024 (0 : Int32)).map Value.int) (.int (0 : Int32)) := by rw [List.map_replicate]; exact (Arv.new A60 (by decide)).pad (pad_rep [] (.int (0 : Int32)) 1024)
  obtain ⟨T61, h61, X61, e61, W61, st61⟩ := putF X60 hx hZ hown (host := "") (Or.inl (hw _ (List.mem_of_getElem? (i := 18) rfl))) Via.refl e60 F_bytes_c60 E_ra_c60 (Or.inl (hw _ (List.mem_of_getElem? (i := 19) rfl))) (hw _ (List.mem_of_getElem? (i := 10) rfl)) (ty := (.array .byte)) (by decide) rfl rfl (g := (mkF m 10 #[.val (.ref ra)] [(.ref b60), (.ref ra)])) rfl rfl (hb hby d_prog_85_method_1_code_10)
  have E_ra_c61 := E_ra_c60.wr W61
  have G_c61 := own_G.wr G_c60 W61 g_ra
  have F_start_c61 := F_start_c60.other W61 (Or.inr (slot_ne (Or.inl (hw _ (List.mem_of_getElem? (i := 96) rfl))) (Or.inl (hw _ (List.mem_of_getElem? (i := 19) rfl))) (by decide) (t := .int) (t' := (.array .byte)) (by decide) (by decide)))
  have F_end_c61 := F_end_c60.other W61 (Or.inr (slot_ne (Or.inl (hw _ (List.mem_of_getElem? (i := 89) rfl))) (Or.inl (hw _ (List.mem_of_getElem? (i := 19) rfl))) (by decide) (t := .int) (t' := (.array .byte)) (by decide) (by decide)))
  have F_open_c61 := F_open_c60.other W61 (Or.inr (slot_ne (Or.inr (hw _ (List.mem_of_getElem? (i := 38) rfl))) (Or.inl (hw _ (List.mem_of_getElem? (i := 19) rfl))) (by decide) (t := (.object "java/util/Deque")) (t' := (.array .byte)) (by decide) (by decide)))
  have Av_b60_60_c61 := Av_b60_60.other W61 (Ne.symm ne_ra_b60)
  have CR61 := CR60.trans (CHr.wr W61 (Safe.exa hZ.alike E_ra_c60 (by decide) (by decide)) CR60.1)
  have kl61 := Nat.le_trans kl60 (Keep.of_wr W61).1
  have Fd_bytes_ra_61 := F_bytes_c60.same W61
  have Z61 : n0 ≤ h61.size := Nat.le_trans Z60 (Keep.of_wr W61).1
  have kp61 := kp60.wr W61 (Or.inl (List.mem_of_getElem? (i := 0) rfl))
  have N61 := Fr.snoc X61 N0 g_ra
  obtain ⟨T62, h62, X62, e62, E62, A62, D62, -, st62⟩ := newO X61 hx hZ hown (hw _ (List.mem_of_getElem? (i := 20) rfl)) (hw _ (List.mem_of_getElem? (i := 21) rfl)) (hw _ (List.mem_of_getElem? (i := 22) rfl)) e61 (g := (mkF m 14 #[.val (.ref ra)] [(.ref ra)])) rfl (hb hby d_prog_85_method_1_code_14) (by decide) (by decide)
  obtain ⟨b62, g62⟩ : ∃ z, z = h61.size := ⟨_, rfl⟩
  rw [← g62] at A62 D62 st62
  have ne_ra_b62 : ra ≠ b62 := Nat.ne_of_lt (Nat.lt_of_lt_of_le E_ra_c61.lt (Nat.le_of_eq g62.symm))
  have ne_b60_b62 : b60 ≠ b62 := Nat.ne_of_lt (Nat.lt_of_lt_of_le Av_b60_60_c61.lt (Nat.le_of_eq g62.symm))
  have g_b62 : n0 ≤ b62 := Nat.le_trans Z61 (Nat.le_of_eq g62.symm)
  have sz_b62 : h0.size ≤ b62 := Nat.le_trans kp61.1 (Nat.le_of_eq g62.symm)
  have E_ra_c62 := E_ra_c61.ext E62
  have G_c62 := own_G.ext G_c61 E62
  have F_start_c62 := F_start_c61.ext E62
  have F_end_c62 := F_end_c61.ext E62
  have F_open_c62 := F_open_c61.ext E62
  have Av_b60_60_c62 := Av_b60_60_c61.ext E62
  have Fd_bytes_ra_61_c62 := Fd_bytes_ra_61.ext E62
  have CR62 := CR61.trans (CHr.ext E62 CR61.1)
  have kl62 := Nat.le_trans kl61 E62.1
  have Z62 : n0 ≤ h62.size := Nat.le_trans Z61 E62.1
  have kp62 := kp61.ext E62
  have Ex_b62_62 := A62
  have Fd_elements_b62_62 : Fld Z h62 b62 "java/util/ArrayDeque" "elements" "[Ljava/lang/Object;" .null := D62 (Or.inl (hw _ (List.mem_of_getElem? (i := 36) rfl))) (ty := (.array (.object "java/lang/Object"))) (by decide)
  have Fd_tail_b62_62 : Fld Z h62 b62 "java/util/ArrayDeque" "tail" "I" (.int (0 : Int32)) := D62 (Or.inl (hw _ (List.mem_of_getElem? (i := 141) rfl))) (ty := .int) (by decide)
  have Fd_head_b62_62 : Fld Z h62 b62 "java/util/ArrayDeque" "head" "I" (.int (0 : Int32)) := D62 (Or.inl (hw _ (List.mem_of_getElem? (i := 143) rfl))) (ty := .int) (by decide)
  obtain ⟨_, _, ⟨T63, L63, k63, n63⟩, -, X63, ⟨Lc63, hQ63, l63, y63, z63⟩, st63⟩ := X62.specialBack hx (y := (⟨"java/util/ArrayDeque", "<init>", "()V"⟩ : MethodName)) rfl hown (mvT hZ (hw _ (List.mem_of_getElem? (i := 23) rfl))) (mvT hZ (hw _ (List.mem_of_getElem? (i := 24) rfl))) (mvT hZ (hw _ (List.mem_of_getElem? (i := 25) rfl))) (by decide) (backOf (W := 2) (rm_adini l Z a0 hw [] b62 h62 n0 Z62 Ex_b62_62 Fd_elements_b62_62 Fd_tail_b62_62 Fd_head_b62_62 g_b62) hZ (hw _ (List.mem_of_getElem? (i := 25) rfl)) (hw _ (List.mem_of_getElem? (i := 22) rfl)) (by decide) (by decide)) (g := (mkF m 18 #[.val (.ref ra)] [(.ref b62), (.ref b62), (.ref ra)])) rfl (by rw [hml]; rfl) (Steps.refl _) (a := b62) (argsL := []) (rest := [(.ref b62), (.ref ra)]) (lenOf pd_8 rfl) rfl (by show 2 * 0 + _ ≤ _; exact Nat.le_of_eq rfl) (hb hby d_prog_85_method_1_code_18) (fun _ _ => ⟨rfl, e62, (by decide : 2 + 1 ≤ _), (by decide : 1027 + 17 ≤ _)⟩)
  dsimp only [Pt.U, Pt.locs, Pt.cells, Pt.slots] at X63 l63 y63 z63 st63 hQ63
  subst l63 y63 z63
  obtain ⟨rfl, N63q, K63, ⟨re63, ke63, ⟨Eq_63, Fe_63, Ft_63, Fh_63, Aq_63⟩, cg63, cs63⟩⟩ := hQ63
  have N63 := Fr.app N61 N63q
  have E_ra_c63 := E_ra_c62.keep K63
  have G_c63 := own_G.keep G_c62 K63 (allS g_b62 all0)
  have F_start_c63 := F_start_c62.keep K63 (ninS ne_ra_b62 nin0)
  have F_end_c63 := F_end_c62.keep K63 (ninS ne_ra_b62 nin0)
  have F_open_c63 := F_open_c62.keep K63 (ninS ne_ra_b62 nin0)
  have Av_b60_60_c63 := Av_b60_60_c62.keep K63 (ninS ne_b60_b62 nin0)
  have Fd_bytes_ra_61_c63 := Fd_bytes_ra_61_c62.keep K63 (ninS ne_ra_b62 nin0)
  have Ex_b62_62_c63 := Ex_b62_62.keep K63
  have CR63 := CR62.trans (CHr.keep K63 (sfS (Safe.exa hZ.alike Ex_b62_62 (by decide) (by decide)) sf0) CR62.1)
  have kl63 := Nat.le_trans kl62 K63.1
  have Z63 : n0 ≤ T63.heap.size := Nat.le_trans Z62 K63.1
  have kp63 := Keep.trans kp62 K63 (allS (Or.inr sz_b62) all0)
  have ne_ra_re63 : ra ≠ re63 := Nat.ne_of_lt (Nat.lt_of_lt_of_le E_ra_c62.lt cs63)
  have ne_b60_re63 : b60 ≠ re63 := Nat.ne_of_lt (Nat.lt_of_lt_of_le Av_b60_60_c62.lt cs63)
  have ne_b62_re63 : b62 ≠ re63 := Nat.ne_of_lt (Nat.lt_of_lt_of_le Ex_b62_62.lt cs63)
  have sz_re63 : h0.size ≤ re63 := Nat.le_trans kp62.1 cs63
  obtain ⟨T64, h64, X64, e64, W64, st64⟩ := putF X63 hx hZ hown (host := "") (Or.inl (hw _ (List.mem_of_getElem? (i := 37) rfl))) Via.refl rfl F_open_c63 E_ra_c63 (Or.inr ⟨(hw _ (List.mem_of_getElem? (i := 38) rfl)), rfl, hnm⟩) (hw _ (List.mem_of_getElem? (i := 10) rfl)) (ty := (.object "java/util/Deque")) (by decide) rfl rfl (g := (mkF m 21 #[.val (.ref ra)] [(.ref b62), (.ref ra)])) rfl rfl (hb hby d_prog_85_method_1_code_21)
  have E_ra_c64 := E_ra_c63.wr W64
  have G_c64 := own_G.wr G_c63 W64 g_ra
  have F_start_c64 := F_start_c63.other W64 (Or.inr (slot_ne (Or.inl (hw _ (List.mem_of_getElem? (i := 96) rfl))) (Or.inr (hw _ (List.mem_of_getElem? (i := 38) rfl))) (by decide) (t := .int) (t' := (.object "java/util/Deque")) (by decide) (by decide)))
  have F_end_c64 := F_end_c63.other W64 (Or.inr (slot_ne (Or.inl (hw _ (List.mem_of_getElem? (i := 89) rfl))) (Or.inr (hw _ (List.mem_of_getElem? (i := 38) rfl))) (by decide) (t := .int) (t' := (.object "java/util/Deque")) (by decide) (by decide)))
  have Av_b60_60_c64 := Av_b60_60_c63.other W64 (Ne.symm ne_ra_b60)
  have Fd_bytes_ra_61_c64 := Fd_bytes_ra_61_c63.other W64 (Or.inr (slot_ne (Or.inl (hw _ (List.mem_of_getElem? (i := 19) rfl))) (Or.inr (hw _ (List.mem_of_getElem? (i := 38) rfl))) (by decide) (t := (.array .byte)) (t' := (.object "java/util/Deque")) (by decide) (by decide)))
  have Eq_63_c64 := Eq_63.wr W64
  have Fe_63_c64 := Fe_63.other W64 (Or.inl (Ne.symm ne_ra_b62))
  have Ft_63_c64 := Ft_63.other W64 (Or.inl (Ne.symm ne_ra_b62))
  have Fh_63_c64 := Fh_63.other W64 (Or.inl (Ne.symm ne_ra_b62))
  have Aq_63_c64 := Aq_63.other W64 (Ne.symm ne_ra_re63)
  have CR64 := CR63.trans (CHr.wr W64 (Safe.exa hZ.alike E_ra_c63 (by decide) (by decide)) CR63.1)
  have kl64 := Nat.le_trans kl63 (Keep.of_wr W64).1
  have Fd_open_ra_64 := F_open_c63.same W64
  have Z64 : n0 ≤ h64.size := Nat.le_trans Z63 (Keep.of_wr W64).1
  have kp64 := kp63.wr W64 (Or.inl (List.mem_of_getElem? (i := 0) rfl))
  have N64 := Fr.snoc X64 N63 g_ra
  obtain ⟨sa65, T65, h65, k65, sb65, ks65, X65, e65, E65, hS65, kq65, hZ65, hown65, Es_65, Fc_65, Fv_65, As_65, la65, lb65, CL65, Lt65, SF65, st65⟩ := ldcCH X64 hx hZ hown (hw _ (List.mem_of_getElem? (i := 39) rfl)) (own_wS hw) e64 hS0 kl64 (own_EW hw) (List.mem_of_getElem? (i := 0) rfl) CR64.1 (vs := own_D.map Value.int) (z := (39 : Int32)) own_D_t (by decide) (by decide) (g := (mkF m 25 #[.val (.ref ra)] [(.ref ra)])) rfl (hb hby d_prog_85_method_1_code_25) (n := 156) (by decide) (by decide) (by decide) (by decide)
  have E_ra_c65 := E_ra_c64.ext E65
  have G_c65 := own_G.ext G_c64 E65
  have F_start_c65 := F_start_c64.ext E65
  have F_end_c65 := F_end_c64.ext E65
  have Av_b60_60_c65 := Av_b60_60_c64.ext E65
  have Fd_bytes_ra_61_c65 := Fd_bytes_ra_61_c64.ext E65
  have Eq_63_c65 := Eq_63_c64.ext E65
  have Fe_63_c65 := Fe_63_c64.ext E65
  have Ft_63_c65 := Ft_63_c64.ext E65
  have Fh_63_c65 := Fh_63_c64.ext E65
  have Aq_63_c65 := Aq_63_c64.ext E65
  have Fd_open_ra_64_c65 := Fd_open_ra_64.ext E65
  have CR65 := CR64.trans (CHr.ext E65 CR64.1)
  have kl65 := Nat.le_trans kl64 E65.1
  have CX65 := CR64.trans CL65
  have Z65 : n0 ≤ h65.size := Nat.le_trans Z64 E65.1
  have kp65 := kp64.ext E65
  obtain ⟨cq66, q66, q66'⟩ := E_ra_c65.cell
  obtain ⟨_, _, ⟨T66, L66, k66, n66⟩, -, X66, ⟨Lc66, hQ66, l66, y66, z66⟩, st66⟩ := X65.privateBack hx (y := (⟨"com/example/sealwright/sealwright/io/XmlWriter", "write", "(Ljava/lang/String;)V"⟩ : MethodName)) hown65 (mvT hZ65 (hw _ (List.mem_of_getElem? (i := 40) rfl))) (mvT hZ65 (hw _ (List.mem_of_getElem? (i := 41) rfl))) (mvT hZ65 (own_sel (y := (⟨"com/example/sealwright/sealwright/io/XmlWriter", "write", "(Ljava/lang/String;)V"⟩ : MethodName)) (hw _ (List.mem_of_getElem? (i := 10) rfl)) (hw _ (List.mem_of_getElem? (i := 42) rfl)) (hw _ (List.mem_of_getElem? (i := 41) rfl)) (by decide))) (Cond.privateMethod_at (mvP hZ65 (hw _ (List.mem_of_getElem? (i := 42) rfl)) (args := #[]))) (mvT hZ65 (hw _ (List.mem_of_getElem? (i := 43) rfl))) (by decide) (backOf (W := 0) (rm_wri l Z a0 hw [] ra sa65 b60 b62 k60 (0 : Int32) (0 : Int32) (List.replicate 1024 (0 : Int32)) sb65 ks65 (39 : Int32) own_D h65 n0 Z65 ⟨E_ra_c65, Fd_bytes_ra_61_c65, F_start_c65, F_end_c65, Fd_open_ra_64_c65, Av_b60_60_c65⟩ g_ra g_b60 G_c65 ⟨Es_65, Fc_65, Fv_65, As_65⟩ (arv_ne As_65 Av_b60_60_c65 (Or.inl (by decide))) ⟨by decide, by decide⟩ (by rw [List.length_replicate]) ⟨by decide, by decide⟩ (by decide) own_D_a) hZ65 (hw _ (List.mem_of_getElem? (i := 43) rfl)) (hw _ (List.mem_of_getElem? (i := 11) rfl)) (by decide) (by decide)) (g := (mkF m 27 #[.val (.ref ra)] [(.ref sa65), (.ref ra)])) rfl (by rw [hml]; rfl) (Steps.refl _) (a := ra) (by rw [e65]; exact q66) q66' (argsL := [(.ref sa65)]) (rest := []) (lenOf pd_11 rfl) rfl (by show 2 * 0 + _ ≤ _; exact Nat.le_of_eq rfl) (hb hby d_prog_85_method_1_code_27) (fun _ _ => ⟨rfl, e65, (by decide : 5 + 0 ≤ _), (by decide : 1204 + 0 ≤ _)⟩)
  dsimp only [Pt.U, Pt.locs, Pt.cells, Pt.slots] at X66 l66 y66 z66 st66 hQ66
  subst l66 y66 z66
  obtain ⟨rfl, N66q, K66, ⟨Eq_66, Fb_66, Fs_66, Fe_66, Fo_66, Aq_66⟩⟩ := hQ66
  have N66 := Fr.app N64 N66q
  have E_ra_c66 := E_ra_c65.keep K66
  have G_c66 := own_G.keep G_c65 K66 (allS g_ra (allS g_b60 all0))
  have Eq_63_c66 := Eq_63_c65.keep K66
  have Fe_63_c66 := Fe_63_c65.keep K66 (ninS (Ne.symm ne_ra_b62) (ninS (Ne.symm ne_b60_b62) nin0))
  have Ft_63_c66 := Ft_63_c65.keep K66 (ninS (Ne.symm ne_ra_b62) (ninS (Ne.symm ne_b60_b62) nin0))
  have Fh_63_c66 := Fh_63_c65.keep K66 (ninS (Ne.symm ne_ra_b62) (ninS (Ne.symm ne_b60_b62) nin0))
  have Aq_63_c66 := Aq_63_c65.keep K66 (ninS (Ne.symm ne_ra_re63) (ninS (Ne.symm ne_b60_re63) nin0))
  have Es_65_c66 := Es_65.keep K66
  have Fc_65_c66 := Fc_65.keep K66 (ninS (Exa.ne Es_65 E_ra_c65 (by decide)) (ninS (Exa.neArv Es_65 Av_b60_60_c65 (hw _ (List.mem_of_getElem? (i := 2) rfl))) nin0))
  have Fv_65_c66 := Fv_65.keep K66 (ninS (Exa.ne Es_65 E_ra_c65 (by decide)) (ninS (Exa.neArv Es_65 Av_b60_60_c65 (hw _ (List.mem_of_getElem? (i := 2) rfl))) nin0))
  have As_65_c66 := As_65.keep K66 (ninS (Ne.symm (Exa.neArv E_ra_c65 As_65 (hw _ (List.mem_of_getElem? (i := 10) rfl)))) (ninS (arv_ne As_65 Av_b60_60_c65 (Or.inl (by decide))) nin0))
  have CR66 := CX65.trans (CHr.keep K66 (sfS (Safe.exa hZ65.alike E_ra_c65 (by decide) (by decide)) (sfS (own_safe hZ65 (own_EWl hw) Av_b60_60_c65 (by decide)) sf0)) CX65.1)
  have kl66 := Nat.le_trans kq65 K66.1
  have Z66 : n0 ≤ T66.heap.size := Nat.le_trans Z65 K66.1
  have kp66 := Keep.trans kp65 K66 (allS (Or.inl (List.mem_of_getElem? (i := 0) rfl)) (allS (Or.inr sz_b60) all0))
  have Fe_66_k : Fld Z T66.heap ra "com/example/sealwright/sealwright/io/XmlWriter" "end" "I" (.int (39 : Int32)) := Fe_66
  have Aq_66_k : Arv Z T66.heap b60 k60 .byte (1024 : Int32) (own_B1.map Value.int) (.int (0 : Int32)) := Aq_66
  obtain ⟨fs, hr, hrun, hended, hRE⟩ := X66.leaveW hS65 (by rw [show T66.heap = T66.heap from rfl]; exact kl66) (v := none) (fun _ => rfl)
  refine ⟨_, _, pre0 _ ?_, hrun, hended, _, _, rfl, ?_, ?_, hRE.1, hRE.2.1, hRE.2.2.1, hRE.2.2.2.mono (by decide) (by decide)⟩
  · show Steps p.tables e below (s₁.setTop (mkF m 0 #[.val (.ref ra)] [])) _
    refine XS.aloadN XH.here hx rfl (hb hby d_prog_85_method_1_code_0) rfl rfl ?_
    show Steps p.tables e below (s₁.setTop (mkF m 1 #[.val (.ref ra)] [(.ref ra)])) _
    refine st59 _ ?_
    show Steps p.tables e below (T59.setTop (mkF m 4 #[.val (.ref ra)] [])) _
    refine XS.aloadN X59.here hx rfl (hb hby d_prog_85_method_1_code_4) rfl rfl ?_
    show Steps p.tables e below (T59.setTop (mkF m 5 #[.val (.ref ra)] [(.ref ra)])) _
    refine XS.sipush X59.here hx rfl (hb hby d_prog_85_method_1_code_5) ?_
    show Steps p.tables e below (T59.setTop (mkF m 8 #[.val (.ref ra)] [(.int (1024 : Int32)), (.ref ra)])) _
    refine st60 _ ?_
    show Steps p.tables e below (T60.setTop (mkF m 10 #[.val (.ref ra)] [(.ref b60), (.ref ra)])) _
    refine st61 _ ?_
    show Steps p.tables e below (T61.setTop (mkF m 13 #[.val (.ref ra)] [])) _
    refine XS.aloadN X61.here hx rfl (hb hby d_prog_85_method_1_code_13) rfl rfl ?_
    show Steps p.tables e below (T61.setTop (mkF m 14 #[.val (.ref ra)] [(.ref ra)])) _
    refine st62 _ ?_
    show Steps p.tables e below (T62.setTop (mkF m 17 #[.val (.ref ra)] [(.ref b62), (.ref ra)])) _
    refine XS.dup X62.here hx rfl (hb hby d_prog_85_method_1_code_17) rfl rfl ?_
    show Steps p.tables e below (T62.setTop (mkF m 18 #[.val (.ref ra)] [(.ref b62), (.ref b62), (.ref ra)])) _
    refine st63.trans ?_
    show Steps p.tables e below (T63.setTop (mkF m 21 #[.val (.ref ra)] [(.ref b62), (.ref ra)])) _
    refine st64 _ ?_
    show Steps p.tables e below (T64.setTop (mkF m 24 #[.val (.ref ra)] [])) _
    refine XS.aloadN X64.here hx rfl (hb hby d_prog_85_method_1_code_24) rfl rfl ?_
    show Steps p.tables e below (T64.setTop (mkF m 25 #[.val (.ref ra)] [(.ref ra)])) _
    refine st65 _ ?_
    show Steps p.tables e below (T65.setTop (mkF m 27 #[.val (.ref ra)] [(.ref sa65), (.ref ra)])) _
    refine st66.trans ?_
    show Steps p.tables e below (T66.setTop (mkF m 30 #[.val (.ref ra)] [])) _
    exact X66.returnOut hx Bd.returns (hb hby d_prog_85_method_1_code_30) hr
  · show Q_xini Z ra h0 n0 _ T66.heap _
    exact ⟨rfl, N66, kp66, b60, b62, k60, re63, ke63, ⟨Eq_66, Fb_66, Fs_66, Fe_66_k, Fo_66, Aq_66_k⟩, ⟨Eq_63_c66, Fe_63_c66, Ft_63_c66, Fh_63_c66, Aq_63_c66⟩, g_b60, sz_b60, sz_b62, sz_re63⟩
  · show CHr Z consts_1 s.vm s.heap T66.vm T66.heap
    rw [hh]
    exact CR66.trans (CHv.at X66 hZ65 (own_EW hw) CR66.1)
theorem d_prog_85_method_13_code_0 : decode prog_85_method_13_code 0 = .ok (.aload_n 0, 1) := by decide +kernel
theorem d_prog_85_method_13_code_1 : decode prog_85_method_13_code 1 = .ok (.ldc 78, 2) := by decide +kernel
theorem d_prog_85_method_13_code_3 : decode prog_85_method_13_code 3 = .ok (.invokevirtual 22, 3) := by decide +kernel
theorem d_prog_85_method_13_code_6 : decode prog_85_method_13_code 6 = .ok (.aload_n 0, 1) := by decide +kernel
theorem d_prog_85_method_13_code_7 : decode prog_85_method_13_code 7 = .ok (.aload_n 1, 1) := by decide +kernel
theorem d_prog_85_method_13_code_8 : decode prog_85_method_13_code 8 = .ok (.invokevirtual 22, 3) := by decide +kernel
theorem d_prog_85_method_13_code_11 : decode prog_85_method_13_code 11 = .ok (.aload_n 0, 1) := by decide +kernel
theorem d_prog_85_method_13_code_12 : decode prog_85_method_13_code 12 = .ok (.ldc 154, 2) := by decide +kernel
theorem d_prog_85_method_13_code_14 : decode prog_85_method_13_code 14 = .ok (.invokevirtual 22, 3) := by decide +kernel
theorem d_prog_85_method_13_code_17 : decode prog_85_method_13_code 17 = .ok (.return_, 1) := by decide +kernel
theorem ef_stag (m : MethodId) (ra : Addr) (sa : Addr) : entryFrame m #[(.ref ra), (.ref sa)] 2 = mkF m 0 #[.val (.ref ra), .val (.ref sa)] [] := by first | (simp [entryFrame, mkF, argsToLocals, Value.category]; done) | rfl
def Q_stag (Z : State) (ra : Addr) (sa : Addr) (rb : Addr) (rd : Addr) (kb : ClassId) (sb : Addr) (ks : ClassId) (h0 : Heap) (n0 : Nat) (v : Option Value) (h : Heap) (L : List Loc) : Prop := v = none ∧ Fr n0 L ∧ Keep h0 h [ra, rb] ∧ (own_W Z h ra rb rd kb (0 : Int32) (3 : Int32) own_C3)
set_option maxRecDepth 65536 in
set_option maxHeartbeats 40000000 in
theorem rm_stag (l : Launch) (Z : State) (a0 : Array Value) (hw : ∀ d ∈ tables_1, d.before a0 Z = true) (ws : List Jvm.Cond) (ra : Addr) (sa : Addr) (rb : Addr) (rd : Addr) (kb : ClassId) (sb : Addr) (ks : ClassId) (h0 : Heap) (n0 : Nat) (Z0 : n0 ≤ h0.size) (Wr0 : own_W Z h0 ra rb rd kb (0 : Int32) (0 : Int32) own_B1) (g_ra : n0 ≤ ra) (g_rb : n0 ≤ rb) (G : own_G Z n0 h0) (Sr : own_S Z h0 sa sb ks (1 : Int32) own_ta) :
    MetFree l (⟨"com/example/sealwright/sealwright/io/XmlWriter", "startTag", "(Ljava/lang/String;)V"⟩ : MethodName) (head1 (Jvm.Cond.code (⟨"com/example/sealwright/sealwright/io/XmlWriter", "startTag", "(Ljava/lang/String;)V"⟩ : MethodName) prog_85_method_13_code 2 none :: ws) ({ frames := 4, cells := 4, slots := 16, locals := 56 } : Room)) (fun a U => a = #[(.ref ra), (.ref sa)] ∧ Z.Warmed39 U.vm ∧ U.heap = h0 ∧ CHv Z consts_1 U.vm h0) (fun _ _ _ _ _ => True) (fun _ U o U' => ∃ v L, o = .returned v ∧ Q_stag Z ra sa rb rd kb sb ks h0 n0 v U'.heap L ∧ CHr Z consts_1 U.vm U.heap U'.vm U'.heap ∧ ReturnedEndW U o U' L ({ frames := 4, cells := 4, slots := 16, locals := 56 } : Room).cells ({ frames := 4, cells := 4, slots := 16, locals := 56 } : Room).slots) := by
  refine MetFree.of_bodySF (plainFor_of_name pn_4) hisR ?_
  intro p e s m args below meth c s₁ Bd hml0 hP hK
  obtain ⟨rfl, hZ, hh, CH0⟩ := hP
  have hx := Bd.exec
  have hby := Bd.bytes
  have hml : c.maxLocals = 2 := hml0
  have hown : s.vm.findClass "com/example/sealwright/sealwright/io/XmlWriter" = some m.cls := findClass_of_methodNamed Bd.named
  have hnm := (name_of_methodNamed Bd.named Bd.method).1
  have X0 : Stand p l e ({ frames := 4, cells := 4, slots := 16, locals := 56 } : Room) s m #[(.ref ra), (.ref sa)] below meth c s₁ [] 0 0 := Stand.of_body Bd
  have e0 : s₁.heap = h0 := by rw [← hh, Bd.state]; rfl
  have N0 := Fr.nil n0
  have pre0 : ∀ t, Steps p.tables e below (s₁.setTop (mkF m 0 #[.val (.ref ra), .val (.ref sa)] [])) t → Steps p.tables e below (s₁.setTop (entryFrame m #[(.ref ra), (.ref sa)] 2)) t := fun t k => castTop (ef_stag m ra sa) k
  have kp0 : Keep h0 h0 [ra, rb] := Keep.refl h0 _
  have XH : Stand p l e ({ frames := 4, cells := 4, slots := 16, locals := 56 } : Room) (s.setVm s.vm) m #[(.ref ra), (.ref sa)] below meth c s₁ [] 0 0 := X0
  have hS0 : s.Since s.vm 0 := (State.WarmedH.refl s).since 0
  have kl0 : 0 ≤ h0.size := Nat.zero_le _
  have CR0 : CHr Z consts_1 s.vm h0 s.vm h0 := CHr.refl CH0
  obtain ⟨E_ra, F_bytes, F_start, F_end, F_open, Av⟩ := id Wr0
  obtain ⟨Es, Fc, Fv, As⟩ := id Sr
  obtain ⟨sa67, T67, h67, k67, sb67, ks67, X67, e67, E67, hS67, kq67, hZ67, hown67, Es_67, Fc_67, Fv_67, As_67, la67, lb67, CL67, Lt67, SF67, st67⟩ := ldcCH XH hx hZ hown (hw _ (List.mem_of_getElem? (i := 151) rfl)) (own_wS hw) e0 hS0 kl0 (own_EW hw) (List.mem_of_getElem? (i := 2) rfl) CR0.1 (vs := own_tl.map Value.int) (z := (1 : Int32)) own_tl_t (by decide) (by decide) (g := (mkF m 1 #[.val (.ref ra), .val (.ref sa)] [(.ref ra)])) rfl (hb hby d_prog_85_method_13_code_1) (n := 4) (by decide) (by decide) (by decide) (by decide)
  have E_ra_c67 := E_ra.ext E67
  have Av_c67 := Av.ext E67
  have F_bytes_c67 := F_bytes.ext E67
  have F_start_c67 := F_start.ext E67
  have F_end_c67 := F_end.ext E67
  have F_open_c67 := F_open.ext E67
  have G_c67 := own_G.ext G E67
  have Es_c67 := Es.ext E67
  have Fc_c67 := Fc.ext E67
  have Fv_c67 := Fv.ext E67
  have As_c67 := As.ext E67
  have CR67 := CR0.trans (CHr.ext E67 CR0.1)
  have kl67 := Nat.le_trans kl0 E67.1
  have CX67 := CR0.trans CL67
  have Z67 : n0 ≤ h67.size := Nat.le_trans Z0 E67.1
  have kp67 := kp0.ext E67
  obtain ⟨cq68, q68, q68'⟩ := E_ra_c67.cell
  obtain ⟨_, _, ⟨T68, L68, k68, n68⟩, -, X68, ⟨Lc68, hQ68, l68, y68, z68⟩, st68⟩ := X67.privateBack hx (y := (⟨"com/example/sealwright/sealwright/io/XmlWriter", "write", "(Ljava/lang/String;)V"⟩ : MethodName)) hown67 (mvT hZ67 (hw _ (List.mem_of_getElem? (i := 40) rfl))) (mvT hZ67 (hw _ (List.mem_of_getElem? (i := 41) rfl))) (mvT hZ67 (own_sel (y := (⟨"com/example/sealwright/sealwright/io/XmlWriter", "write", "(Ljava/lang/String;)V"⟩ : MethodName)) (hw _ (List.mem_of_getElem? (i := 10) rfl)) (hw _ (List.mem_of_getElem? (i := 42) rfl)) (hw _ (List.mem_of_getElem? (i := 41) rfl)) (by decide))) (Cond.privateMethod_at (mvP hZ67 (hw _ (List.mem_of_getElem? (i := 42) rfl)) (args := #[]))) (mvT hZ67 (hw _ (List.mem_of_getElem? (i := 43) rfl))) (by decide) (backOf (W := 0) (rm_wri l Z a0 hw [] ra sa67 rb rd kb (0 : Int32) (0 : Int32) own_B1 sb67 ks67 (1 : Int32) own_tl h67 n0 Z67 ⟨E_ra_c67, F_bytes_c67, F_start_c67, F_end_c67, F_open_c67, Av_c67⟩ g_ra g_rb G_c67 ⟨Es_67, Fc_67, Fv_67, As_67⟩ (arv_ne As_67 Av_c67 (Or.inl (by decide))) ⟨by decide, by decide⟩ own_B1_len ⟨by decide, by decide⟩ (by decide) own_tl_a) hZ67 (hw _ (List.mem_of_getElem? (i := 43) rfl)) (hw _ (List.mem_of_getElem? (i := 11) rfl)) (by decide) (by decide)) (g := (mkF m 3 #[.val (.ref ra), .val (.ref sa)] [(.ref sa67), (.ref ra)])) rfl (by rw [hml]; rfl) (Steps.refl _) (a := ra) (by rw [e67]; exact q68) q68' (argsL := [(.ref sa67)]) (rest := []) (lenOf pd_11 rfl) rfl (by show 2 * 0 + _ ≤ _; exact Nat.le_of_eq rfl) (hb hby d_prog_85_method_13_code_3) (fun _ _ => ⟨rfl, e67, (by decide : 2 + 0 ≤ _), (by decide : 8 + 0 ≤ _)⟩)
  dsimp only [Pt.U, Pt.locs, Pt.cells, Pt.slots] at X68 l68 y68 z68 st68 hQ68
  subst l68 y68 z68
  obtain ⟨rfl, N68q, K68, ⟨Eq_68, Fb_68, Fs_68, Fe_68, Fo_68, Aq_68⟩⟩ := hQ68
  have N68 := Fr.app N0 N68q
  have E_ra_c68 := E_ra_c67.keep K68
  have G_c68 := own_G.keep G_c67 K68 (allS g_ra (allS g_rb all0))
  have Es_c68 := Es_c67.keep K68
  have Fc_c68 := Fc_c67.keep K68 (ninS (Exa.ne Es_c67 E_ra_c67 (by decide)) (ninS (Exa.neArv Es_c67 Av_c67 (hw _ (List.mem_of_getElem? (i := 2) rfl))) nin0))
  have Fv_c68 := Fv_c67.keep K68 (ninS (Exa.ne Es_c67 E_ra_c67 (by decide)) (ninS (Exa.neArv Es_c67 Av_c67 (hw _ (List.mem_of_getElem? (i := 2) rfl))) nin0))
  have As_c68 := As_c67.keep K68 (ninS (Ne.symm (Exa.neArv E_ra_c67 As_c67 (hw _ (List.mem_of_getElem? (i := 10) rfl)))) (ninS (arv_ne As_c67 Av_c67 (Or.inl (by decide))) nin0))
  have Es_67_c68 := Es_67.keep K68
  have Fc_67_c68 := Fc_67.keep K68 (ninS (Exa.ne Es_67 E_ra_c67 (by decide)) (ninS (Exa.neArv Es_67 Av_c67 (hw _ (List.mem_of_getElem? (i := 2) rfl))) nin0))
  have Fv_67_c68 := Fv_67.keep K68 (ninS (Exa.ne Es_67 E_ra_c67 (by decide)) (ninS (Exa.neArv Es_67 Av_c67 (hw _ (List.mem_of_getElem? (i := 2) rfl))) nin0))
  have As_67_c68 := As_67.keep K68 (ninS (Ne.symm (Exa.neArv E_ra_c67 As_67 (hw _ (List.mem_of_getElem? (i := 10) rfl)))) (ninS (arv_ne As_67 Av_c67 (Or.inl (by decide))) nin0))
  have CR68 := CX67.trans (CHr.keep K68 (sfS (Safe.exa hZ67.alike E_ra_c67 (by decide) (by decide)) (sfS (own_safe hZ67 (own_EWl hw) Av_c67 (by decide)) sf0)) CX67.1)
  have kl68 := Nat.le_trans kq67 K68.1
  have Z68 : n0 ≤ T68.heap.size := Nat.le_trans Z67 K68.1
  have kp68 := Keep.trans kp67 K68 (allS (Or.inl (List.mem_of_getElem? (i := 0) rfl)) (allS (Or.inl (List.mem_of_getElem? (i := 1) rfl)) all0))
  have Fe_68_k : Fld Z T68.heap ra "com/example/sealwright/sealwright/io/XmlWriter" "end" "I" (.int (1 : Int32)) := Fe_68
  have Aq_68_k : Arv Z T68.heap rb kb .byte (1024 : Int32) (own_C1.map Value.int) (.int (0 : Int32)) := Aq_68
  obtain ⟨cq69, q69, q69'⟩ := Eq_68.cell
  obtain ⟨_, _, ⟨T69, L69, k69, n69⟩, -, X69, ⟨Lc69, hQ69, l69, y69, z69⟩, st69⟩ := X68.privateBack hx (y := (⟨"com/example/sealwright/sealwright/io/XmlWriter", "write", "(Ljava/lang/String;)V"⟩ : MethodName)) hown67 (mvT hZ67 (hw _ (List.mem_of_getElem? (i := 40) rfl))) (mvT hZ67 (hw _ (List.mem_of_getElem? (i := 41) rfl))) (mvT hZ67 (own_sel (y := (⟨"com/example/sealwright/sealwright/io/XmlWriter", "write", "(Ljava/lang/String;)V"⟩ : MethodName)) (hw _ (List.mem_of_getElem? (i := 10) rfl)) (hw _ (List.mem_of_getElem? (i := 42) rfl)) (hw _ (List.mem_of_getElem? (i := 41) rfl)) (by decide))) (Cond.privateMethod_at (mvP hZ67 (hw _ (List.mem_of_getElem? (i := 42) rfl)) (args := #[]))) (mvT hZ67 (hw _ (List.mem_of_getElem? (i := 43) rfl))) (by decide) (backOf (W := 0) (rm_wri l Z a0 hw [] ra sa rb rd kb (0 : Int32) (1 : Int32) own_C1 sb ks (1 : Int32) own_ta T68.heap n0 Z68 ⟨Eq_68, Fb_68, Fs_68, Fe_68_k, Fo_68, Aq_68_k⟩ g_ra g_rb G_c68 ⟨Es_c68, Fc_c68, Fv_c68, As_c68⟩ (arv_ne As_c68 Aq_68_k (Or.inl (by decide))) ⟨by decide, by decide⟩ own_C1_len ⟨by decide, by decide⟩ (by decide) own_ta_a) hZ67 (hw _ (List.mem_of_getElem? (i := 43) rfl)) (hw _ (List.mem_of_getElem? (i := 11) rfl)) (by decide) (by decide)) (g := (mkF m 8 #[.val (.ref ra), .val (.ref sa)] [(.ref sa), (.ref ra)])) rfl (by rw [hml]; rfl) (Steps.refl _) (a := ra) q69 q69' (argsL := [(.ref sa)]) (rest := []) (lenOf pd_11 rfl) rfl (by show 2 * 0 + _ ≤ _; exact Nat.le_of_eq rfl) (hb hby d_prog_85_method_13_code_8) (fun _ _ => ⟨rfl, rfl, (by decide : 2 + 0 ≤ _), (by decide : 8 + 0 ≤ _)⟩)
  dsimp only [Pt.U, Pt.locs, Pt.cells, Pt.slots] at X69 l69 y69 z69 st69 hQ69
  subst l69 y69 z69
  obtain ⟨rfl, N69q, K69, ⟨Eq_69, Fb_69, Fs_69, Fe_69, Fo_69, Aq_69⟩⟩ := hQ69
  have N69 := Fr.app N68 N69q
  have Eq_68_c69 := Eq_68.keep K69
  have G_c69 := own_G.keep G_c68 K69 (allS g_ra (allS g_rb all0))
  have Es_c69 := Es_c68.keep K69
  have Fc_c69 := Fc_c68.keep K69 (ninS (Exa.ne Es_c68 Eq_68 (by decide)) (ninS (Exa.neArv Es_c68 Aq_68_k (hw _ (List.mem_of_getElem? (i := 2) rfl))) nin0))
  have Fv_c69 := Fv_c68.keep K69 (ninS (Exa.ne Es_c68 Eq_68 (by decide)) (ninS (Exa.neArv Es_c68 Aq_68_k (hw _ (List.mem_of_getElem? (i := 2) rfl))) nin0))
  have As_c69 := As_c68.keep K69 (ninS (Ne.symm (Exa.neArv Eq_68 As_c68 (hw _ (List.mem_of_getElem? (i := 10) rfl)))) (ninS (arv_ne As_c68 Aq_68_k (Or.inl (by decide))) nin0))
  have Es_67_c69 := Es_67_c68.keep K69
  have Fc_67_c69 := Fc_67_c68.keep K69 (ninS (Exa.ne Es_67_c68 Eq_68 (by decide)) (ninS (Exa.neArv Es_67_c68 Aq_68_k (hw _ (List.mem_of_getElem? (i := 2) rfl))) nin0))
  have Fv_67_c69 := Fv_67_c68.keep K69 (ninS (Exa.ne Es_67_c68 Eq_68 (by decide)) (ninS (Exa.neArv Es_67_c68 Aq_68_k (hw _ (List.mem_of_getElem? (i := 2) rfl))) nin0))
  have As_67_c69 := As_67_c68.keep K69 (ninS (Ne.symm (Exa.neArv Eq_68 As_67_c68 (hw _ (List.mem_of_getElem? (i := 10) rfl)))) (ninS (arv_ne As_67_c68 Aq_68_k (Or.inl (by decide))) nin0))
  have CR69 := CR68.trans (CHr.keep K69 (sfS (Safe.exa hZ67.alike Eq_68 (by decide) (by decide)) (sfS (own_safe hZ67 (own_EWl hw) Aq_68_k (by decide)) sf0)) CR68.1)
  have kl69 := Nat.le_trans kl68 K69.1
  have Z69 : n0 ≤ T69.heap.size := Nat.le_trans Z68 K69.1
  have kp69 := Keep.trans kp68 K69 (allS (Or.inl (List.mem_of_getElem? (i := 0) rfl)) (allS (Or.inl (List.mem_of_getElem? (i := 1) rfl)) all0))
  have Fe_69_k : Fld Z T69.heap ra "com/example/sealwright/sealwright/io/XmlWriter" "end" "I" (.int (2 : Int32)) := Fe_69
  have Aq_69_k : Arv Z T69.heap rb kb .byte (1024 : Int32) (own_C2.map Value.int) (.int (0 : Int32)) := Aq_69
  obtain ⟨sa70, T70, h70, k70, sb70, ks70, X70, e70, E70, hS70, kq70, hZ70, hown70, Es_70, Fc_70, Fv_70, As_70, la70, lb70, CL70, Lt70, SF70, st70⟩ := ldcCH X69 hx hZ67 hown67 (hw _ (List.mem_of_getElem? (i := 152) rfl)) (own_wS hw) rfl hS67 kl69 (own_EW hw) (List.mem_of_getElem? (i := 3) rfl) CR69.1 (vs := own_tg.map Value.int) (z := (1 : Int32)) own_tg_t (by decide) (by decide) (g := (mkF m 12 #[.val (.ref ra), .val (.ref sa)] [(.ref ra)])) rfl (hb hby d_prog_85_method_13_code_12) (n := 4) (by decide) (by decide) (by decide) (by decide)
  have Eq_69_c70 := Eq_69.ext E70
  have G_c70 := own_G.ext G_c69 E70
  have Es_c70 := Es_c69.ext E70
  have Fc_c70 := Fc_c69.ext E70
  have Fv_c70 := Fv_c69.ext E70
  have As_c70 := As_c69.ext E70
  have Es_67_c70 := Es_67_c69.ext E70
  have Fc_67_c70 := Fc_67_c69.ext E70
  have Fv_67_c70 := Fv_67_c69.ext E70
  have As_67_c70 := As_67_c69.ext E70
  have Fb_69_c70 := Fb_69.ext E70
  have Fs_69_c70 := Fs_69.ext E70
  have Fe_69_k_c70 := Fe_69_k.ext E70
  have Fo_69_c70 := Fo_69.ext E70
  have Aq_69_k_c70 := Aq_69_k.ext E70
  have CR70 := CR69.trans (CHr.ext E70 CR69.1)
  have kl70 := Nat.le_trans kl69 E70.1
  have CX70 := CR69.trans CL70
  have Z70 : n0 ≤ h70.size := Nat.le_trans Z69 E70.1
  have kp70 := kp69.ext E70
  obtain ⟨cq71, q71, q71'⟩ := Eq_69_c70.cell
  obtain ⟨_, _, ⟨T71, L71, k71, n71⟩, -, X71, ⟨Lc71, hQ71, l71, y71, z71⟩, st71⟩ := X70.privateBack hx (y := (⟨"com/example/sealwright/sealwright/io/XmlWriter", "write", "(Ljava/lang/String;)V"⟩ : MethodName)) hown70 (mvT hZ70 (hw _ (List.mem_of_getElem? (i := 40) rfl))) (mvT hZ70 (hw _ (List.mem_of_getElem? (i := 41) rfl))) (mvT hZ70 (own_sel (y := (⟨"com/example/sealwright/sealwright/io/XmlWriter", "write", "(Ljava/lang/String;)V"⟩ : MethodName)) (hw _ (List.mem_of_getElem? (i := 10) rfl)) (hw _ (List.mem_of_getElem? (i := 42) rfl)) (hw _ (List.mem_of_getElem? (i := 41) rfl)) (by decide))) (Cond.privateMethod_at (mvP hZ70 (hw _ (List.mem_of_getElem? (i := 42) rfl)) (args := #[]))) (mvT hZ70 (hw _ (List.mem_of_getElem? (i := 43) rfl))) (by decide) (backOf (W := 0) (rm_wri l Z a0 hw [] ra sa70 rb rd kb (0 : Int32) (2 : Int32) own_C2 sb70 ks70 (1 : Int32) own_tg h70 n0 Z70 ⟨Eq_69_c70, Fb_69_c70, Fs_69_c70, Fe_69_k_c70, Fo_69_c70, Aq_69_k_c70⟩ g_ra g_rb G_c70 ⟨Es_70, Fc_70, Fv_70, As_70⟩ (arv_ne As_70 Aq_69_k_c70 (Or.inl (by decide))) ⟨by decide, by decide⟩ own_C2_len ⟨by decide, by decide⟩ (by decide) own_tg_a) hZ70 (hw _ (List.mem_of_getElem? (i := 43) rfl)) (hw _ (List.mem_of_getElem? (i := 11) rfl)) (by decide) (by decide)) (g := (mkF m 14 #[.val (.ref ra), .val (.ref sa)] [(.ref sa70), (.ref ra)])) rfl (by rw [hml]; rfl) (Steps.refl _) (a := ra) (by rw [e70]; exact q71) q71' (argsL := [(.ref sa70)]) (rest := []) (lenOf pd_11 rfl) rfl (by show 2 * 0 + _ ≤ _; exact Nat.le_of_eq rfl) (hb hby d_prog_85_method_13_code_14) (fun _ _ => ⟨rfl, e70, (by decide : 4 + 0 ≤ _), (by decide : 16 + 0 ≤ _)⟩)
  dsimp only [Pt.U, Pt.locs, Pt.cells, Pt.slots] at X71 l71 y71 z71 st71 hQ71
  subst l71 y71 z71
  obtain ⟨rfl, N71q, K71, ⟨Eq_71, Fb_71, Fs_71, Fe_71, Fo_71, Aq_71⟩⟩ := hQ71
  have N71 := Fr.app N69 N71q
  have Eq_69_c71 := Eq_69_c70.keep K71
  have G_c71 := own_G.keep G_c70 K71 (allS g_ra (allS g_rb all0))
  have Es_c71 := Es_c70.keep K71
  have Fc_c71 := Fc_c70.keep K71 (ninS (Exa.ne Es_c70 Eq_69_c70 (by decide)) (ninS (Exa.neArv Es_c70 Aq_69_k_c70 (hw _ (List.mem_of_getElem? (i := 2) rfl))) nin0))
  have Fv_c71 := Fv_c70.keep K71 (ninS (Exa.ne Es_c70 Eq_69_c70 (by decide)) (ninS (Exa.neArv Es_c70 Aq_69_k_c70 (hw _ (List.mem_of_getElem? (i := 2) rfl))) nin0))
  have As_c71 := As_c70.keep K71 (ninS (Ne.symm (Exa.neArv Eq_69_c70 As_c70 (hw _ (List.mem_of_getElem? (i := 10) rfl)))) (ninS (arv_ne As_c70 Aq_69_k_c70 (Or.inl (by decide))) nin0))
  have Es_67_c71 := Es_67_c70.keep K71
  have Fc_67_c71 := Fc_67_c70.keep K71 (ninS (Exa.ne Es_67_c70 Eq_69_c70 (by decide)) (ninS (Exa.neArv Es_67_c70 Aq_69_k_c70 (hw _ (List.mem_of_getElem? (i := 2) rfl))) nin0))
  have Fv_67_c71 := Fv_67_c70.keep K71 (ninS (Exa.ne Es_67_c70 Eq_69_c70 (by decide)) (ninS (Exa.neArv Es_67_c70 Aq_69_k_c70 (hw _ (List.mem_of_getElem? (i := 2) rfl))) nin0))
  have As_67_c71 := As_67_c70.keep K71 (ninS (Ne.symm (Exa.neArv Eq_69_c70 As_67_c70 (hw _ (List.mem_of_getElem? (i := 10) rfl)))) (ninS (arv_ne As_67_c70 Aq_69_k_c70 (Or.inl (by decide))) nin0))
  have Es_70_c71 := Es_70.keep K71
  have Fc_70_c71 := Fc_70.keep K71 (ninS (Exa.ne Es_70 Eq_69_c70 (by decide)) (ninS (Exa.neArv Es_70 Aq_69_k_c70 (hw _ (List.mem_of_getElem? (i := 2) rfl))) nin0))
  have Fv_70_c71 := Fv_70.keep K71 (ninS (Exa.ne Es_70 Eq_69_c70 (by decide)) (ninS (Exa.neArv Es_70 Aq_69_k_c70 (hw _ (List.mem_of_getElem? (i := 2) rfl))) nin0))
  have As_70_c71 := As_70.keep K71 (ninS (Ne.symm (Exa.neArv Eq_69_c70 As_70 (hw _ (List.mem_of_getElem? (i := 10) rfl)))) (ninS (arv_ne As_70 Aq_69_k_c70 (Or.inl (by decide))) nin0))
  have CR71 := CX70.trans (CHr.keep K71 (sfS (Safe.exa hZ70.alike Eq_69_c70 (by decide) (by decide)) (sfS (own_safe hZ70 (own_EWl hw) Aq_69_k_c70 (by decide)) sf0)) CX70.1)
  have kl71 := Nat.le_trans kq70 K71.1
  have Z71 : n0 ≤ T71.heap.size := Nat.le_trans Z70 K71.1
  have kp71 := Keep.trans kp70 K71 (allS (Or.inl (List.mem_of_getElem? (i := 0) rfl)) (allS (Or.inl (List.mem_of_getElem? (i := 1) rfl)) all0))
  have Fe_71_k : Fld Z T71.heap ra "com/example/sealwright/sealwright/io/XmlWriter" "end" "I" (.int (3 : Int32)) := Fe_71
  have Aq_71_k : Arv Z T71.heap rb kb .byte (1024 : Int32) (own_C3.map Value.int) (.int (0 : Int32)) := Aq_71
  obtain ⟨fs, hr, hrun, hended, hRE⟩ := X71.leaveW hS70 (by rw [show T71.heap = T71.heap from rfl]; exact kl71) (v := none) (fun _ => rfl)
  refine ⟨_, _, pre0 _ ?_, hrun, hended, _, _, rfl, ?_, ?_, hRE.1, hRE.2.1, hRE.2.2.1, hRE.2.2.2.mono (by decide) (by decide)⟩
  · show Steps p.tables e below (s₁.setTop (mkF m 0 #[.val (.ref ra), .val (.ref sa)] [])) _
    refine XS.aloadN XH.here hx rfl (hb hby d_prog_85_method_13_code_0) rfl rfl ?_
    show Steps p.tables e below (s₁.setTop (mkF m 1 #[.val (.ref ra), .val (.ref sa)] [(.ref ra)])) _
    refine st67 _ ?_
    show Steps p.tables e below (T67.setTop (mkF m 3 #[.val (.ref ra), .val (.ref sa)] [(.ref sa67), (.ref ra)])) _
    refine st68.trans ?_
    show Steps p.tables e below (T68.setTop (mkF m 6 #[.val (.ref ra), .val (.ref sa)] [])) _
    refine XS.aloadN X68.here hx rfl (hb hby d_prog_85_method_13_code_6) rfl rfl ?_
    show Steps p.tables e below (T68.setTop (mkF m 7 #[.val (.ref ra), .val (.ref sa)] [(.ref ra)])) _
    refine XS.aloadN X68.here hx rfl (hb hby d_prog_85_method_13_code_7) rfl rfl ?_
    show Steps p.tables e below (T68.setTop (mkF m 8 #[.val (.ref ra), .val (.ref sa)] [(.ref sa), (.ref ra)])) _
    refine st69.trans ?_
    show Steps p.tables e below (T69.setTop (mkF m 11 #[.val (.ref ra), .val (.ref sa)] [])) _
    refine XS.aloadN X69.here hx rfl (hb hby d_prog_85_method_13_code_11) rfl rfl ?_
    show Steps p.tables e below (T69.setTop (mkF m 12 #[.val (.ref ra), .val (.ref sa)] [(.ref ra)])) _
    refine st70 _ ?_
    show Steps p.tables e below (T70.setTop (mkF m 14 #[.val (.ref ra), .val (.ref sa)] [(.ref sa70), (.ref ra)])) _
    refine st71.trans ?_
    show Steps p.tables e below (T71.setTop (mkF m 17 #[.val (.ref ra), .val (.ref sa)] [])) _
    exact X71.returnOut hx Bd.returns (hb hby d_prog_85_method_13_code_17) hr
  · show Q_stag Z ra sa rb rd kb sb ks h0 n0 _ T71.heap _
    exact ⟨rfl, N71, kp71, ⟨Eq_71, Fb_71, Fs_71, Fe_71_k, Fo_71, Aq_71_k⟩⟩
  · show CHr Z consts_1 s.vm s.heap T71.vm T71.heap
    rw [hh]
    exact CR71.trans (CHv.at X71 hZ70 (own_EW hw) CR71.1)
theorem d_prog_85_method_14_code_0 : decode prog_85_method_14_code 0 = .ok (.aload_n 0, 1) := by decide +kernel
theorem d_prog_85_method_14_code_1 : decode prog_85_method_14_code 1 = .ok (.ldc 156, 2) := by decide +kernel
theorem d_prog_85_method_14_code_3 : decode prog_85_method_14_code 3 = .ok (.invokevirtual 22, 3) := by decide +kernel
theorem d_prog_85_method_14_code_6 : decode prog_85_method_14_code 6 = .ok (.aload_n 0, 1) := by decide +kernel
theorem d_prog_85_method_14_code_7 : decode prog_85_method_14_code 7 = .ok (.aload_n 1, 1) := by decide +kernel
theorem d_prog_85_method_14_code_8 : decode prog_85_method_14_code 8 = .ok (.invokevirtual 22, 3) := by decide +kernel
theorem d_prog_85_method_14_code_11 : decode prog_85_method_14_code 11 = .ok (.aload_n 0, 1) := by decide +kernel
theorem d_prog_85_method_14_code_12 : decode prog_85_method_14_code 12 = .ok (.ldc 154, 2) := by decide +kernel
theorem d_prog_85_method_14_code_14 : decode prog_85_method_14_code 14 = .ok (.invokevirtual 22, 3) := by decide +kernel
theorem d_prog_85_method_14_code_17 : decode prog_85_method_14_code 17 = .ok (.return_, 1) := by decide +kernel
theorem ef_etag (m : MethodId) (ra : Addr) (sa : Addr) : entryFrame m #[(.ref ra), (.ref sa)] 2 = mkF m 0 #[.val (.ref ra), .val (.ref sa)] [] := by first | (simp [entryFrame, mkF, argsToLocals, Value.category]; done) | rfl
def Q_etag (Z : State) (ra : Addr) (sa : Addr) (rb : Addr) (rd : Addr) (kb : ClassId) (sb : Addr) (ks : ClassId) (h0 : Heap) (n0 : Nat) (v : Option Value) (h : Heap) (L : List Loc) : Prop := v = none ∧ Fr n0 L ∧ Keep h0 h [ra, rb] ∧ (own_W Z h ra rb rd kb (0 : Int32) (7 : Int32) own_C6)
set_option maxRecDepth 65536 in
set_option maxHeartbeats 40000000 in
theorem rm_etag (l : Launch) (Z : State) (a0 : Array Value) (hw : ∀ d ∈ tables_1, d.before a0 Z = true) (ws : List Jvm.Cond) (ra : Addr) (sa : Addr) (rb : Addr) (rd : Addr) (kb : ClassId) (sb : Addr) (ks : ClassId) (h0 : Heap) (n0 : Nat) (Z0 : n0 ≤ h0.size) (Wr0 : own_W Z h0 ra rb rd kb (0 : Int32) (3 : Int32) own_C3) (g_ra : n0 ≤ ra) (g_rb : n0 ≤ rb) (G : own_G Z n0 h0) (Sr : own_S Z h0 sa sb ks (1 : Int32) own_ta) :
    MetFree l (⟨"com/example/sealwright/sealwright/io/XmlWriter", "endTag", "(Ljava/lang/String;)V"⟩ : MethodName) (head1 (Jvm.Cond.code (⟨"com/example/sealwright/sealwright/io/XmlWriter", "endTag", "(Ljava/lang/String;)V"⟩ : MethodName) prog_85_method_14_code 2 none :: ws) ({ frames := 4, cells := 4, slots := 20, locals := 56 } : Room)) (fun a U => a = #[(.ref ra), (.ref sa)] ∧ Z.Warmed39 U.vm ∧ U.heap = h0 ∧ CHv Z consts_1 U.vm h0) (fun _ _ _ _ _ => True) (fun _ U o U' => ∃ v L, o = .returned v ∧ Q_etag Z ra sa rb rd kb sb ks h0 n0 v U'.heap L ∧ CHr Z consts_1 U.vm U.heap U'.vm U'.heap ∧ ReturnedEndW U o U' L ({ frames := 4, cells := 4, slots := 20, locals := 56 } : Room).cells ({ frames := 4, cells := 4, slots := 20, locals := 56 } : Room).slots) := by
  refine MetFree.of_bodySF (plainFor_of_name pn_4) hisR ?_
  intro p e s m args below meth c s₁ Bd hml0 hP hK
  obtain ⟨rfl, hZ, hh, CH0⟩ := hP
  have hx := Bd.exec
  have hby := Bd.bytes
  have hml : c.maxLocals = 2 := hml0
  have hown : s.vm.findClass "com/example/sealwright/sealwright/io/XmlWriter" = some m.cls := findClass_of_methodNamed Bd.named
  have hnm := (name_of_methodNamed Bd.named Bd.method).1
  have X0 : Stand p l e ({ frames := 4, cells := 4, slots := 20, locals := 56 } : Room) s m #[(.ref ra), (.ref sa)] below meth c s₁ [] 0 0 := Stand.of_body Bd
  have e0 : s₁.heap = h0 := by rw [← hh, Bd.state]; rfl
  have N0 := Fr.nil n0
  have pre0 : ∀ t, Steps p.tables e below (s₁.setTop (mkF m 0 #[.val (.ref ra), .val (.ref sa)] [])) t → Steps p.tables e below (s₁.setTop (entryFrame m #[(.ref ra), (.ref sa)] 2)) t := fun t k => castTop (ef_etag m ra sa) k
  have kp0 : Keep h0 h0 [ra, rb] := Keep.refl h0 _
  have XH : Stand p l e ({ frames := 4, cells := 4, slots := 20, locals := 56 } : Room) (s.setVm s.vm) m #[(.ref ra), (.ref sa)] below meth c s₁ [] 0 0 := X0
  have hS0 : s.Since s.vm 0 := (State.WarmedH.refl s).since 0
  have kl0 : 0 ≤ h0.size := Nat.zero_le _
  have CR0 : CHr Z consts_1 s.vm h0 s.vm h0 := CHr.refl CH0
  obtain ⟨E_ra, F_bytes, F_start, F_end, F_open, Av⟩ := id Wr0
  obtain ⟨Es, Fc, Fv, As⟩ := id Sr
  obtain ⟨sa72, T72, h72, k72, sb72, ks72, X72, e72, E72, hS72, kq72, hZ72, hown72, Es_72, Fc_72, Fv_72, As_72, la72, lb72, CL72, Lt72, SF72, st72⟩ := ldcCH XH hx hZ hown (hw _ (List.mem_of_getElem? (i := 171) rfl)) (own_wS hw) e0 hS0 kl0 (own_EW hw) (List.mem_of_getElem? (i := 4) rfl) CR0.1 (vs := own_ts.map Value.int) (z := (2 : Int32)) own_ts_t (by decide) (by decide) (g := (mkF m 1 #[.val (.ref ra), .val (.ref sa)] [(.ref ra)])) rfl (hb hby d_prog_85_method_14_code_1) (n := 8) (by decide) (by decide) (by decide) (by decide)
  have E_ra_c72 := E_ra.ext E72
  have Av_c72 := Av.ext E72
  have F_bytes_c72 := F_bytes.ext E72
  have F_start_c72 := F_start.ext E72
  have F_end_c72 := F_end.ext E72
  have F_open_c72 := F_open.ext E72
  have G_c72 := own_G.ext G E72
  have Es_c72 := Es.ext E72
  have Fc_c72 := Fc.ext E72
  have Fv_c72 := Fv.ext E72
  have As_c72 := As.ext E72
  have CR72 := CR0.trans (CHr.ext E72 CR0.1)
  have kl72 := Nat.le_trans kl0 E72.1
  have CX72 := CR0.trans CL72
  have Z72 : n0 ≤ h72.size := Nat.le_trans Z0 E72.1
  have kp72 := kp0.ext E72
  obtain ⟨cq73, q73, q73'⟩ := E_ra_c72.cell
  obtain ⟨_, _, ⟨T73, L73, k73, n73⟩, -, X73, ⟨Lc73, hQ73, l73, y73, z73⟩, st73⟩ := X72.privateBack hx (y := (⟨"com/example/sealwright/sealwright/io/XmlWriter", "write", "(Ljava/lang/String;)V"⟩ : MethodName)) hown72 (mvT hZ72 (hw _ (List.mem_of_getElem? (i := 40) rfl))) (mvT hZ72 (hw _ (List.mem_of_getElem? (i := 41) rfl))) (mvT hZ72 (own_sel (y := (⟨"com/example/sealwright/sealwright/io/XmlWriter", "write", "(Ljava/lang/String;)V"⟩ : MethodName)) (hw _ (List.mem_of_getElem? (i := 10) rfl)) (hw _ (List.mem_of_getElem? (i := 42) rfl)) (hw _ (List.mem_of_getElem? (i := 41) rfl)) (by decide))) (Cond.privateMethod_at (mvP hZ72 (hw _ (List.mem_of_getElem? (i := 42) rfl)) (args := #[]))) (mvT hZ72 (hw _ (List.mem_of_getElem? (i := 43) rfl))) (by decide) (backOf (W := 0) (rm_wri l Z a0 hw [] ra sa72 rb rd kb (0 : Int32) (3 : Int32) own_C3 sb72 ks72 (2 : Int32) own_ts h72 n0 Z72 ⟨E_ra_c72, F_bytes_c72, F_start_c72, F_end_c72, F_open_c72, Av_c72⟩ g_ra g_rb G_c72 ⟨Es_72, Fc_72, Fv_72, As_72⟩ (arv_ne As_72 Av_c72 (Or.inl (by decide))) ⟨by decide, by decide⟩ own_C3_len ⟨by decide, by decide⟩ (by decide) own_ts_a) hZ72 (hw _ (List.mem_of_getElem? (i := 43) rfl)) (hw _ (List.mem_of_getElem? (i := 11) rfl)) (by decide) (by decide)) (g := (mkF m 3 #[.val (.ref ra), .val (.ref sa)] [(.ref sa72), (.ref ra)])) rfl (by rw [hml]; rfl) (Steps.refl _) (a := ra) (by rw [e72]; exact q73) q73' (argsL := [(.ref sa72)]) (rest := []) (lenOf pd_11 rfl) rfl (by show 2 * 0 + _ ≤ _; exact Nat.le_of_eq rfl) (hb hby d_prog_85_method_14_code_3) (fun _ _ => ⟨rfl, e72, (by decide : 2 + 0 ≤ _), (by decide : 12 + 0 ≤ _)⟩)
  dsimp only [Pt.U, Pt.locs, Pt.cells, Pt.slots] at X73 l73 y73 z73 st73 hQ73
  subst l73 y73 z73
  obtain ⟨rfl, N73q, K73, ⟨Eq_73, Fb_73, Fs_73, Fe_73, Fo_73, Aq_73⟩⟩ := hQ73
  have N73 := Fr.app N0 N73q
  have E_ra_c73 := E_ra_c72.keep K73
  have G_c73 := own_G.keep G_c72 K73 (allS g_ra (allS g_rb all0))
  have Es_c73 := Es_c72.keep K73
  have Fc_c73 := Fc_c72.keep K73 (ninS (Exa.ne Es_c72 E_ra_c72 (by decide)) (ninS (Exa.neArv Es_c72 Av_c72 (hw _ (List.mem_of_getElem? (i := 2) rfl))) nin0))
  have Fv_c73 := Fv_c72.keep K73 (ninS (Exa.ne Es_c72 E_ra_c72 (by decide)) (ninS (Exa.neArv Es_c72 Av_c72 (hw _ (List.mem_of_getElem? (i := 2) rfl))) nin0))
  have As_c73 := As_c72.keep K73 (ninS (Ne.symm (Exa.neArv E_ra_c72 As_c72 (hw _ (List.mem_of_getElem? (i := 10) rfl)))) (ninS (arv_ne As_c72 Av_c72 (Or.inl (by decide))) nin0))
  have Es_72_c73 := Es_72.keep K73
  have Fc_72_c73 := Fc_72.keep K73 (ninS (Exa.ne Es_72 E_ra_c72 (by decide)) (ninS (Exa.neArv Es_72 Av_c72 (hw _ (List.mem_of_getElem? (i := 2) rfl))) nin0))
  have Fv_72_c73 := Fv_72.keep K73 (ninS (Exa.ne Es_72 E_ra_c72 (by decide)) (ninS (Exa.neArv Es_72 Av_c72 (hw _ (List.mem_of_getElem? (i := 2) rfl))) nin0))
  have As_72_c73 := As_72.keep K73 (ninS (Ne.symm (Exa.neArv E_ra_c72 As_72 (hw _ (List.mem_of_getElem? (i := 10) rfl)))) (ninS (arv_ne As_72 Av_c72 (Or.inl (by decide))) nin0))
  have CR73 := CX72.trans (CHr.keep K73 (sfS (Safe.exa hZ72.alike E_ra_c72 (by decide) (by decide)) (sfS (own_safe hZ72 (own_EWl hw) Av_c72 (by decide)) sf0)) CX72.1)
  have kl73 := Nat.le_trans kq72 K73.1
  have Z73 : n0 ≤ T73.heap.size := Nat.le_trans Z72 K73.1
  have kp73 := Keep.trans kp72 K73 (allS (Or.inl (List.mem_of_getElem? (i := 0) rfl)) (allS (Or.inl (List.mem_of_getElem? (i := 1) rfl)) all0))
  have Fe_73_k : Fld Z T73.heap ra "com/example/sealwright/sealwright/io/XmlWriter" "end" "I" (.int (5 : Int32)) := Fe_73
  have Aq_73_k : Arv Z T73.heap rb kb .byte (1024 : Int32) (own_C4.map Value.int) (.int (0 : Int32)) := Aq_73
  obtain ⟨cq74, q74, q74'⟩ := Eq_73.cell
  obtain ⟨_, _, ⟨T74, L74, k74, n74⟩, -, X74, ⟨Lc74, hQ74, l74, y74, z74⟩, st74⟩ := X73.privateBack hx (y := (⟨"com/example/sealwright/sealwright/io/XmlWriter", "write", "(Ljava/lang/String;)V"⟩ : MethodName)) hown72 (mvT hZ72 (hw _ (List.mem_of_getElem? (i := 40) rfl))) (mvT hZ72 (hw _ (List.mem_of_getElem? (i := 41) rfl))) (mvT hZ72 (own_sel (y := (⟨"com/example/sealwright/sealwright/io/XmlWriter", "write", "(Ljava/lang/String;)V"⟩ : MethodName)) (hw _ (List.mem_of_getElem? (i := 10) rfl)) (hw _ (List.mem_of_getElem? (i := 42) rfl)) (hw _ (List.mem_of_getElem? (i := 41) rfl)) (by decide))) (Cond.privateMethod_at (mvP hZ72 (hw _ (List.mem_of_getElem? (i := 42) rfl)) (args := #[]))) (mvT hZ72 (hw _ (List.mem_of_getElem? (i := 43) rfl))) (by decide) (backOf (W := 0) (rm_wri l Z a0 hw [] ra sa rb rd kb (0 : Int32) (5 : Int32) own_C4 sb ks (1 : Int32) own_ta T73.heap n0 Z73 ⟨Eq_73, Fb_73, Fs_73, Fe_73_k, Fo_73, Aq_73_k⟩ g_ra g_rb G_c73 ⟨Es_c73, Fc_c73, Fv_c73, As_c73⟩ (arv_ne As_c73 Aq_73_k (Or.inl (by decide))) ⟨by decide, by decide⟩ own_C4_len ⟨by decide, by decide⟩ (by decide) own_ta_a) hZ72 (hw _ (List.mem_of_getElem? (i := 43) rfl)) (hw _ (List.mem_of_getElem? (i := 11) rfl)) (by decide) (by decide)) (g := (mkF m 8 #[.val (.ref ra), .val (.ref sa)] [(.ref sa), (.ref ra)])) rfl (by rw [hml]; rfl) (Steps.refl _) (a := ra) q74 q74' (argsL := [(.ref sa)]) (rest := []) (lenOf pd_11 rfl) rfl (by show 2 * 0 + _ ≤ _; exact Nat.le_of_eq rfl) (hb hby d_prog_85_method_14_code_8) (fun _ _ => ⟨rfl, rfl, (by decide : 2 + 0 ≤ _), (by decide : 12 + 0 ≤ _)⟩)
  dsimp only [Pt.U, Pt.locs, Pt.cells, Pt.slots] at X74 l74 y74 z74 st74 hQ74
  subst l74 y74 z74
  obtain ⟨rfl, N74q, K74, ⟨Eq_74, Fb_74, Fs_74, Fe_74, Fo_74, Aq_74⟩⟩ := hQ74
  have N74 := Fr.app N73 N74q
  have Eq_73_c74 := Eq_73.keep K74
  have G_c74 := own_G.keep G_c73 K74 (allS g_ra (allS g_rb all0))
  have Es_c74 := Es_c73.keep K74
  have Fc_c74 := Fc_c73.keep K74 (ninS (Exa.ne Es_c73 Eq_73 (by decide)) (ninS (Exa.neArv Es_c73 Aq_73_k (hw _ (List.mem_of_getElem? (i := 2) rfl))) nin0))
  have Fv_c74 := Fv_c73.keep K74 (ninS (Exa.ne Es_c73 Eq_73 (by decide)) (ninS (Exa.neArv Es_c73 Aq_73_k (hw _ (List.mem_of_getElem? (i := 2) rfl))) nin0))
  have As_c74 := As_c73.keep K74 (ninS (Ne.symm (Exa.neArv Eq_73 As_c73 (hw _ (List.mem_of_getElem? (i := 10) rfl)))) (ninS (arv_ne As_c73 Aq_73_k (Or.inl (by decide))) nin0))
  have Es_72_c74 := Es_72_c73.keep K74
  have Fc_72_c74 := Fc_72_c73.keep K74 (ninS (Exa.ne Es_72_c73 Eq_73 (by decide)) (ninS (Exa.neArv Es_72_c73 Aq_73_k (hw _ (List.mem_of_getElem? (i := 2) rfl))) nin0))
  have Fv_72_c74 := Fv_72_c73.keep K74 (ninS (Exa.ne Es_72_c73 Eq_73 (by decide)) (ninS (Exa.neArv Es_72_c73 Aq_73_k (hw _ (List.mem_of_getElem? (i := 2) rfl))) nin0))
  have As_72_c74 := As_72_c73.keep K74 (ninS (Ne.symm (Exa.neArv Eq_73 As_72_c73 (hw _ (List.mem_of_getElem? (i := 10) rfl)))) (ninS (arv_ne As_72_c73 Aq_73_k (Or.inl (by decide))) nin0))
  have CR74 := CR73.trans (CHr.keep K74 (sfS (Safe.exa hZ72.alike Eq_73 (by decide) (by decide)) (sfS (own_safe hZ72 (own_EWl hw) Aq_73_k (by decide)) sf0)) CR73.1)
  have kl74 := Nat.le_trans kl73 K74.1
  have Z74 : n0 ≤ T74.heap.size := Nat.le_trans Z73 K74.1
  have kp74 := Keep.trans kp73 K74 (allS (Or.inl (List.mem_of_getElem? (i := 0) rfl)) (allS (Or.inl (List.mem_of_getElem? (i := 1) rfl)) all0))
  have Fe_74_k : Fld Z T74.heap ra "com/example/sealwright/sealwright/io/XmlWriter" "end" "I" (.int (6 : Int32)) := Fe_74
  have Aq_74_k : Arv Z T74.heap rb kb .byte (1024 : Int32) (own_C5.map Value.int) (.int (0 : Int32)) := Aq_74
  obtain ⟨sa75, T75, h75, k75, sb75, ks75, X75, e75, E75, hS75, kq75, hZ75, hown75, Es_75, Fc_75, Fv_75, As_75, la75, lb75, CL75, Lt75, SF75, st75⟩ := ldcCH X74 hx hZ72 hown72 (hw _ (List.mem_of_getElem? (i := 152) rfl)) (own_wS hw) rfl hS72 kl74 (own_EW hw) (List.mem_of_getElem? (i := 3) rfl) CR74.1 (vs := own_tg.map Value.int) (z := (1 : Int32)) own_tg_t (by decide) (by decide) (g := (mkF m 12 #[.val (.ref ra), .val (.ref sa)] [(.ref ra)])) rfl (hb hby d_prog_85_method_14_code_12) (n := 4) (by decide) (by decide) (by decide) (by decide)
  have Eq_74_c75 := Eq_74.ext E75
  have G_c75 := own_G.ext G_c74 E75
  have Es_c75 := Es_c74.ext E75
  have Fc_c75 := Fc_c74.ext E75
  have Fv_c75 := Fv_c74.ext E75
  have As_c75 := As_c74.ext E75
  have Es_72_c75 := Es_72_c74.ext E75
  have Fc_72_c75 := Fc_72_c74.ext E75
  have Fv_72_c75 := Fv_72_c74.ext E75
  have As_72_c75 := As_72_c74.ext E75
  have Fb_74_c75 := Fb_74.ext E75
  have Fs_74_c75 := Fs_74.ext E75
  have Fe_74_k_c75 := Fe_74_k.ext E75
  have Fo_74_c75 := Fo_74.ext E75
  have Aq_74_k_c75 := Aq_74_k.ext E75
  have CR75 := CR74.trans (CHr.ext E75 CR74.1)
  have kl75 := Nat.le_trans kl74 E75.1
  have CX75 := CR74.trans CL75
  have Z75 : n0 ≤ h75.size := Nat.le_trans Z74 E75.1
  have kp75 := kp74.ext E75
  obtain ⟨cq76, q76, q76'⟩ := Eq_74_c75.cell
  obtain ⟨_, _, ⟨T76, L76, k76, n76⟩, -, X76, ⟨Lc76, hQ76, l76, y76, z76⟩, st76⟩ := X75.privateBack hx (y := (⟨"com/example/sealwright/sealwright/io/XmlWriter", "write", "(Ljava/lang/String;)V"⟩ : MethodName)) hown75 (mvT hZ75 (hw _ (List.mem_of_getElem? (i := 40) rfl))) (mvT hZ75 (hw _ (List.mem_of_getElem? (i := 41) rfl))) (mvT hZ75 (own_sel (y := (⟨"com/example/sealwright/sealwright/io/XmlWriter", "write", "(Ljava/lang/String;)V"⟩ : MethodName)) (hw _ (List.mem_of_getElem? (i := 10) rfl)) (hw _ (List.mem_of_getElem? (i := 42) rfl)) (hw _ (List.mem_of_getElem? (i := 41) rfl)) (by decide))) (Cond.privateMethod_at (mvP hZ75 (hw _ (List.mem_of_getElem? (i := 42) rfl)) (args := #[]))) (mvT hZ75 (hw _ (List.mem_of_getElem? (i := 43) rfl))) (by decide) (backOf (W := 0) (rm_wri l Z a0 hw [] ra sa75 rb rd kb (0 : Int32) (6 : Int32) own_C5 sb75 ks75 (1 : Int32) own_tg h75 n0 Z75 ⟨Eq_74_c75, Fb_74_c75, Fs_74_c75, Fe_74_k_c75, Fo_74_c75, Aq_74_k_c75⟩ g_ra g_rb G_c75 ⟨Es_75, Fc_75, Fv_75, As_75⟩ (arv_ne As_75 Aq_74_k_c75 (Or.inl (by decide))) ⟨by decide, by decide⟩ own_C5_len ⟨by decide, by decide⟩ (by decide) own_tg_a) hZ75 (hw _ (List.mem_of_getElem? (i := 43) rfl)) (hw _ (List.mem_of_getElem? (i := 11) rfl)) (by decide) (by decide)) (g := (mkF m 14 #[.val (.ref ra), .val (.ref sa)] [(.ref sa75), (.ref ra)])) rfl (by rw [hml]; rfl) (Steps.refl _) (a := ra) (by rw [e75]; exact q76) q76' (argsL := [(.ref sa75)]) (rest := []) (lenOf pd_11 rfl) rfl (by show 2 * 0 + _ ≤ _; exact Nat.le_of_eq rfl) (hb hby d_prog_85_method_14_code_14) (fun _ _ => ⟨rfl, e75, (by decide : 4 + 0 ≤ _), (by decide : 20 + 0 ≤ _)⟩)
  dsimp only [Pt.U, Pt.locs, Pt.cells, Pt.slots] at X76 l76 y76 z76 st76 hQ76
  subst l76 y76 z76
  obtain ⟨rfl, N76q, K76, ⟨Eq_76, Fb_76, Fs_76, Fe_76, Fo_76, Aq_76⟩⟩ := hQ76
  have N76 := Fr.app N74 N76q
  have Eq_74_c76 := Eq_74_c75.keep K76
  have G_c76 := own_G.keep G_c75 K76 (allS g_ra (allS g_rb all0))
  have Es_c76 := Es_c75.keep K76
  have Fc_c76 := Fc_c75.keep K76 (ninS (Exa.ne Es_c75 Eq_74_c75 (by decide)) (ninS (Exa.neArv Es_c75 Aq_74_k_c75 (hw _ (List.mem_of_getElem? (i := 2) rfl))) nin0))
  have Fv_c76 := Fv_c75.keep K76 (ninS (Exa.ne Es_c75 Eq_74_c75 (by decide)) (ninS (Exa.neArv Es_c75 Aq_74_k_c75 (hw _ (List.mem_of_getElem? (i := 2) rfl))) nin0))
  have As_c76 := As_c75.keep K76 (ninS (Ne.symm (Exa.neArv Eq_74_c75 As_c75 (hw _ (List.mem_of_getElem? (i := 10) rfl)))) (ninS (arv_ne As_c75 Aq_74_k_c75 (Or.inl (by decide))) nin0))
  have Es_72_c76 := Es_72_c75.keep K76
  have Fc_72_c76 := Fc_72_c75.keep K76 (ninS (Exa.ne Es_72_c75 Eq_74_c75 (by decide)) (ninS (Exa.neArv Es_72_c75 Aq_74_k_c75 (hw _ (List.mem_of_getElem? (i := 2) rfl))) nin0))
  have Fv_72_c76 := Fv_72_c75.keep K76 (ninS (Exa.ne Es_72_c75 Eq_74_c75 (by decide)) (ninS (Exa.neArv Es_72_c75 Aq_74_k_c75 (hw _ (List.mem_of_getElem? (i := 2) rfl))) nin0))
  have As_72_c76 := As_72_c75.keep K76 (ninS (Ne.symm (Exa.neArv Eq_74_c75 As_72_c75 (hw _ (List.mem_of_getElem? (i := 10) rfl)))) (ninS (arv_ne As_72_c75 Aq_74_k_c75 (Or.inl (by decide))) nin0))
  have Es_75_c76 := Es_75.keep K76
  have Fc_75_c76 := Fc_75.keep K76 (ninS (Exa.ne Es_75 Eq_74_c75 (by decide)) (ninS (Exa.neArv Es_75 Aq_74_k_c75 (hw _ (List.mem_of_getElem? (i := 2) rfl))) nin0))
  have Fv_75_c76 := Fv_75.keep K76 (ninS (Exa.ne Es_75 Eq_74_c75 (by decide)) (ninS (Exa.neArv Es_75 Aq_74_k_c75 (hw _ (List.mem_of_getElem? (i := 2) rfl))) nin0))
  have As_75_c76 := As_75.keep K76 (ninS (Ne.symm (Exa.neArv Eq_74_c75 As_75 (hw _ (List.mem_of_getElem? (i := 10) rfl)))) (ninS (arv_ne As_75 Aq_74_k_c75 (Or.inl (by decide))) nin0))
  have CR76 := CX75.trans (CHr.keep K76 (sfS (Safe.exa hZ75.alike Eq_74_c75 (by decide) (by decide)) (sfS (own_safe hZ75 (own_EWl hw) Aq_74_k_c75 (by decide)) sf0)) CX75.1)
  have kl76 := Nat.le_trans kq75 K76.1
  have Z76 : n0 ≤ T76.heap.size := Nat.le_trans Z75 K76.1
  have kp76 := Keep.trans kp75 K76 (allS (Or.inl (List.mem_of_getElem? (i := 0) rfl)) (allS (Or.inl (List.mem_of_getElem? (i := 1) rfl)) all0))
  have Fe_76_k : Fld Z T76.heap ra "com/example/sealwright/sealwright/io/XmlWriter" "end" "I" (.int (7 : Int32)) := Fe_76
  have Aq_76_k : Arv Z T76.heap rb kb .byte (1024 : Int32) (own_C6.map Value.int) (.int (0 : Int32)) := Aq_76
  obtain ⟨fs, hr, hrun, hended, hRE⟩ := X76.leaveW hS75 (by rw [show T76.heap = T76.heap from rfl]; exact kl76) (v := none) (fun _ => rfl)
  refine ⟨_, _, pre0 _ ?_, hrun, hended, _, _, rfl, ?_, ?_, hRE.1, hRE.2.1, hRE.2.2.1, hRE.2.2.2.mono (by decide) (by decide)⟩
  · show Steps p.tables e below (s₁.setTop (mkF m 0 #[.val (.ref ra), .val (.ref sa)] [])) _
    refine XS.aloadN XH.here hx rfl (hb hby d_prog_85_method_14_code_0) rfl rfl ?_
    show Steps p.tables e below (s₁.setTop (mkF m 1 #[.val (.ref ra), .val (.ref sa)] [(.ref ra)])) _
    refine st72 _ ?_
    show Steps p.tables e below (T72.setTop (mkF m 3 #[.val (.ref ra), .val (.ref sa)] [(.ref sa72), (.ref ra)])) _
    refine st73.trans ?_
    show Steps p.tables e below (T73.setTop (mkF m 6 #[.val (.ref ra), .val (.ref sa)] [])) _
    refine XS.aloadN X73.here hx rfl (hb hby d_prog_85_method_14_code_6) rfl rfl ?_
    show Steps p.tables e below (T73.setTop (mkF m 7 #[.val (.ref ra), .val (.ref sa)] [(.ref ra)])) _
    refine XS.aloadN X73.here hx rfl (hb hby d_prog_85_method_14_code_7) rfl rfl ?_
    show Steps p.tables e below (T73.setTop (mkF m 8 #[.val (.ref ra), .val (.ref sa)] [(.ref sa), (.ref ra)])) _
    refine st74.trans ?_
    show Steps p.tables e below (T74.setTop (mkF m 11 #[.val (.ref ra), .val (.ref sa)] [])) _
    refine XS.aloadN X74.here hx rfl (hb hby d_prog_85_method_14_code_11) rfl rfl ?_
    show Steps p.tables e below (T74.setTop (mkF m 12 #[.val (.ref ra), .val (.ref sa)] [(.ref ra)])) _
    refine st75 _ ?_
    show Steps p.tables e below (T75.setTop (mkF m 14 #[.val (.ref ra), .val (.ref sa)] [(.ref sa75), (.ref ra)])) _
    refine st76.trans ?_
    show Steps p.tables e below (T76.setTop (mkF m 17 #[.val (.ref ra), .val (.ref sa)] [])) _
    exact X76.returnOut hx Bd.returns (hb hby d_prog_85_method_14_code_17) hr
  · show Q_etag Z ra sa rb rd kb sb ks h0 n0 _ T76.heap _
    exact ⟨rfl, N76, kp76, ⟨Eq_76, Fb_76, Fs_76, Fe_76_k, Fo_76, Aq_76_k⟩⟩
  · show CHr Z consts_1 s.vm s.heap T76.vm T76.heap
    rw [hh]
    exact CR76.trans (CHv.at X76 hZ75 (own_EW hw) CR76.1)
theorem d_prog_85_method_5_code_0 : decode prog_85_method_5_code 0 = .ok (.aload_n 0, 1) := by decide +kernel
theorem d_prog_85_method_5_code_1 : decode prog_85_method_5_code 1 = .ok (.invokevirtual 64, 3) := by decide +kernel
theorem d_prog_85_method_5_code_4 : decode prog_85_method_5_code 4 = .ok (.aload_n 0, 1) := by decide +kernel
theorem d_prog_85_method_5_code_5 : decode prog_85_method_5_code 5 = .ok (.aload_n 1, 1) := by decide +kernel
theorem d_prog_85_method_5_code_6 : decode prog_85_method_5_code 6 = .ok (.invokevirtual 67, 3) := by decide +kernel
theorem d_prog_85_method_5_code_9 : decode prog_85_method_5_code 9 = .ok (.aload_n 0, 1) := by decide +kernel
theorem d_prog_85_method_5_code_10 : decode prog_85_method_5_code 10 = .ok (.aload_n 2, 1) := by decide +kernel
theorem d_prog_85_method_5_code_11 : decode prog_85_method_5_code 11 = .ok (.aload_n 1, 1) := by decide +kernel
theorem d_prog_85_method_5_code_12 : decode prog_85_method_5_code 12 = .ok (.iconst 0, 1) := by decide +kernel
theorem d_prog_85_method_5_code_13 : decode prog_85_method_5_code 13 = .ok (.invokevirtual 86, 3) := by decide +kernel
theorem pd_12 : parseMethodDescriptor "(Ljava/lang/CharSequence;Ljava/lang/String;Z)V" = some ⟨[(.object "java/lang/CharSequence"), (.object "java/lang/String"), .boolean], none⟩ := by decide +kernel
theorem d_prog_85_method_5_code_16 : decode prog_85_method_5_code 16 = .ok (.aload_n 0, 1) := by decide +kernel
theorem d_prog_85_method_5_code_17 : decode prog_85_method_5_code 17 = .ok (.aload_n 1, 1) := by decide +kernel
theorem d_prog_85_method_5_code_18 : decode prog_85_method_5_code 18 = .ok (.invokevirtual 90, 3) := by decide +kernel
theorem d_prog_85_method_5_code_21 : decode prog_85_method_5_code 21 = .ok (.aload_n 0, 1) := by decide +kernel
theorem d_prog_85_method_5_code_22 : decode prog_85_method_5_code 22 = .ok (.ldc 70, 2) := by decide +kernel
theorem d_prog_85_method_5_code_24 : decode prog_85_method_5_code 24 = .ok (.invokevirtual 22, 3) := by decide +kernel
theorem d_prog_85_method_5_code_27 : decode prog_85_method_5_code 27 = .ok (.aload_n 0, 1) := by decide +kernel
theorem d_prog_85_method_5_code_28 : decode prog_85_method_5_code 28 = .ok (.areturn, 1) := by decide +kernel
theorem ef_elem (m : MethodId) (ra : Addr) (sa : Addr) (s2 : Addr) : entryFrame m #[(.ref ra), (.ref sa), (.ref s2)] 3 = mkF m 0 #[.val (.ref ra), .val (.ref sa), .val (.ref s2)] [] := by first | (simp [entryFrame, mkF, argsToLocals, Value.category]; done) | rfl
def Q_elem (Z : State) (ra : Addr) (sa : Addr) (s2 : Addr) (rb : Addr) (rd : Addr) (kb : ClassId) (re : Addr) (ke : ClassId) (sb : Addr) (ks : ClassId) (tb : Addr) (kt : ClassId) (h0 : Heap) (n0 : Nat) (v : Option Value) (h : Heap) (L : List Loc) : Prop := (∃ z : Addr, v = some (.ref z) ∧ (z = ra ∧ own_W Z h ra rb rd kb (0 : Int32) (8 : Int32) own_C7)) ∧ Fr n0 L ∧ Keep h0 h [ra, rb]
set_option maxRecDepth 65536 in
set_option maxHeartbeats 40000000 in
theorem rm_elem (l : Launch) (Z : State) (a0 : Array Value) (hw : ∀ d ∈ tables_1, d.before a0 Z = true) (ws : List Jvm.Cond) (ra : Addr) (sa : Addr) (s2 : Addr) (rb : Addr) (rd : Addr) (kb : ClassId) (re : Addr) (ke : ClassId) (sb : Addr) (ks : ClassId) (tb : Addr) (kt : ClassId) (h0 : Heap) (n0 : Nat) (Z0 : n0 ≤ h0.size) (Wr0 : own_W Z h0 ra rb rd kb (0 : Int32) (0 : Int32) own_B1) (g_ra : n0 ≤ ra) (g_rb : n0 ≤ rb) (G : own_G Z n0 h0) (Qr : own_Q Z h0 rd re ke) (Sr : own_S Z h0 sa sb ks (1 : Int32) own_ta) (St : own_S Z h0 s2 tb kt (0 : Int32) own_te) :
    MetFree l (⟨"com/example/sealwright/sealwright/io/XmlWriter", "element", "(Ljava/lang/String;Ljava/lang/CharSequence;)Lcom/example/sealwright/sealwright/io/XmlWriter;"⟩ : MethodName) (head1 (Jvm.Cond.code (⟨"com/example/sealwright/sealwright/io/XmlWriter", "element", "(Ljava/lang/String;Ljava/lang/CharSequence;)Lcom/example/sealwright/sealwright/io/XmlWriter;"⟩ : MethodName) prog_85_method_5_code 3 (some (.object "com/example/sealwright/sealwright/io/XmlWriter")) :: ws) ({ frames := 5, cells := 10, slots := 44, locals := 69 } : Room)) (fun a U => a = #[(.ref ra), (.ref sa), (.ref s2)] ∧ Z.Warmed39 U.vm ∧ U.heap = h0 ∧ CHv Z consts_1 U.vm h0) (fun _ _ _ _ _ => True) (fun _ U o U' => ∃ v L, o = .returned v ∧ Q_elem Z ra sa s2 rb rd kb re ke sb ks tb kt h0 n0 v U'.heap L ∧ CHr Z consts_1 U.vm U.heap U'.vm U'.heap ∧ ReturnedEndW U o U' L ({ frames := 5, cells := 10, slots := 44, locals := 69 } : Room).cells ({ frames := 5, cells := 10, slots := 44, locals := 69 } : Room).slots) := by
  refine MetFree.of_bodySF (plainFor_of_name pn_4) hisR ?_
  intro p e s m args below meth c s₁ Bd hml0 hP hK
  obtain ⟨rfl, hZ, hh, CH0⟩ := hP
  have hx := Bd.exec
  have hby := Bd.bytes
  have hml : c.maxLocals = 3 := hml0
  have hown : s.vm.findClass "com/example/sealwright/sealwright/io/XmlWriter" = some m.cls := findClass_of_methodNamed Bd.named
  have hnm := (name_of_methodNamed Bd.named Bd.method).1
  have X0 : Stand p l e ({ frames := 5, cells := 10, slots := 44, locals := 69 } : Room) s m #[(.ref ra), (.ref sa), (.ref s2)] below meth c s₁ [] 0 0 := Stand.of_body Bd
  have e0 : s₁.heap = h0 := by rw [← hh, Bd.state]; rfl
  have N0 := Fr.nil n0
  have pre0 : ∀ t, Steps p.tables e below (s₁.setTop (mkF m 0 #[.val (.ref ra), .val (.ref sa), .val (.ref s2)] [])) t → Steps p.tables e below (s₁.setTop (entryFrame m #[(.ref ra), (.ref sa), (.ref s2)] 3)) t := fun t k => castTop (ef_elem m ra sa s2) k
  have kp0 : Keep h0 h0 [ra, rb] := Keep.refl h0 _
  have XH : Stand p l e ({ frames := 5, cells := 10, slots := 44, locals := 69 } : Room) (s.setVm s.vm) m #[(.ref ra), (.ref sa), (.ref s2)] below meth c s₁ [] 0 0 := X0
  have hS0 : s.Since s.vm 0 := (State.WarmedH.refl s).since 0
  have kl0 : 0 ≤ h0.size := Nat.zero_le _
  have CR0 : CHr Z consts_1 s.vm h0 s.vm h0 := CHr.refl CH0
  obtain ⟨E_ra, F_bytes, F_start, F_end, F_open, Av⟩ := id Wr0
  obtain ⟨Es, Fc, Fv, As⟩ := id Sr
  obtain ⟨Es2, Fc2, Fv2, As2⟩ := id St
  obtain ⟨E_q, F_el, F_ta, F_he, A_el⟩ := id Qr
  obtain ⟨cq77, q77, q77'⟩ := E_ra.cell
  obtain ⟨_, _, ⟨T77, L77, k77, n77⟩, -, X77, ⟨Lc77, hQ77, l77, y77, z77⟩, st77⟩ := XH.privateBack hx (y := (⟨"com/example/sealwright/sealwright/io/XmlWriter", "indent", "()V"⟩ : MethodName)) hown (mvT hZ (hw _ (List.mem_of_getElem? (i := 127) rfl))) (mvT hZ (hw _ (List.mem_of_getElem? (i := 128) rfl))) (mvT hZ (own_sel (y := (⟨"com/example/sealwright/sealwright/io/XmlWriter", "indent", "()V"⟩ : MethodName)) (hw _ (List.mem_of_getElem? (i := 10) rfl)) (hw _ (List.mem_of_getElem? (i := 129) rfl)) (hw _ (List.mem_of_getElem? (i := 128) rfl)) (by decide))) (Cond.privateMethod_at (mvP hZ (hw _ (List.mem_of_getElem? (i := 129) rfl)) (args := #[]))) (mvT hZ (hw _ (List.mem_of_getElem? (i := 130) rfl))) (by decide) (backOf (W := 0) (rm_ind l Z a0 hw [] ra rb rd kb (0 : Int32) (0 : Int32) own_B1 re ke h0 n0 Z0 ⟨E_ra, F_bytes, F_start, F_end, F_open, Av⟩ g_ra g_rb ⟨E_q, F_el, F_ta, F_he, A_el⟩ (by decide)) hZ (hw _ (List.mem_of_getElem? (i := 130) rfl)) (hw _ (List.mem_of_getElem? (i := 11) rfl)) (by decide) (by decide)) (g := (mkF m 1 #[.val (.ref ra), .val (.ref sa), .val (.ref s2)] [(.ref ra)])) rfl (by rw [hml]; rfl) (Steps.refl _) (a := ra) (by rw [e0]; exact q77) q77' (argsL := []) (rest := []) (lenOf pd_8 rfl) rfl (by show 2 * 0 + _ ≤ _; exact Nat.le_of_eq rfl) (hb hby d_prog_85_method_5_code_1) (fun _ _ => ⟨rfl, e0, (by decide : 0 + 0 ≤ _), (by decide : 0 + 0 ≤ _)⟩)
  dsimp only [Pt.U, Pt.locs, Pt.cells, Pt.slots] at X77 l77 y77 z77 st77 hQ77
  subst l77 y77 z77
  obtain ⟨rfl, N77q, e77⟩ := hQ77
  have N77 := Fr.app N0 N77q
  obtain ⟨cq78, q78, q78'⟩ := E_ra.cell
  obtain ⟨_, _, ⟨T78, L78, k78, n78⟩, -, Xa78, Sa78, gr78, ⟨Lc78, hQ78, l78, y78, z78, CL78⟩, st78⟩ := X77.privateBackS hx (y := (⟨"com/example/sealwright/sealwright/io/XmlWriter", "startTag", "(Ljava/lang/String;)V"⟩ : MethodName)) hown (mvT hZ (hw _ (List.mem_of_getElem? (i := 147) rfl))) (mvT hZ (hw _ (List.mem_of_getElem? (i := 148) rfl))) (mvT hZ (own_sel (y := (⟨"com/example/sealwright/sealwright/io/XmlWriter", "startTag", "(Ljava/lang/String;)V"⟩ : MethodName)) (hw _ (List.mem_of_getElem? (i := 10) rfl)) (hw _ (List.mem_of_getElem? (i := 149) rfl)) (hw _ (List.mem_of_getElem? (i := 148) rfl)) (by decide))) (Cond.privateMethod_at (mvP hZ (hw _ (List.mem_of_getElem? (i := 149) rfl)) (args := #[]))) (mvT hZ (hw _ (List.mem_of_getElem? (i := 150) rfl))) (by decide) (backOfSH (W := 0) (rm_stag l Z a0 hw [] ra sa rb rd kb sb ks h0 n0 Z0 ⟨E_ra, F_bytes, F_start, F_end, F_open, Av⟩ g_ra g_rb G ⟨Es, Fc, Fv, As⟩) hZ (hw _ (List.mem_of_getElem? (i := 150) rfl)) (hw _ (List.mem_of_getElem? (i := 11) rfl)) (by decide) (by decide) (own_EW hw) CR0.1) (g := (mkF m 6 #[.val (.ref ra), .val (.ref sa), .val (.ref s2)] [(.ref sa), (.ref ra)])) rfl (by rw [hml]; rfl) (Steps.refl _) (a := ra) (by rw [e77]; exact q78) q78' (argsL := [(.ref sa)]) (rest := []) (lenOf pd_11 rfl) rfl (by show 2 * 0 + _ ≤ _; exact Nat.le_of_eq rfl) (hb hby d_prog_85_method_5_code_6) (fun _ _ => ⟨rfl, e77, (by decide : 0 + 4 ≤ _), (by decide : 0 + 16 ≤ _)⟩)
  dsimp only [Pt.U, Pt.locs, Pt.cells, Pt.slots] at Xa78 Sa78 gr78 l78 y78 z78 st78 hQ78 CL78
  subst l78 y78 z78
  obtain ⟨X78, hS78, hZ78, hown78⟩ := rebS hS0 (n1 := T77.heap.size) (by rw [e77]; exact kl0) Xa78 Sa78 gr78 hZ hown
  obtain ⟨rfl, N78q, K78, ⟨Eq_78, Fb_78, Fs_78, Fe_78, Fo_78, Aq_78⟩⟩ := hQ78
  have N78 := Fr.app N77 N78q
  have E_ra_c78 := E_ra.keep K78
  have G_c78 := own_G.keep G K78 (allS g_ra (allS g_rb all0))
  have Es_c78 := Es.keep K78
  have Fc_c78 := Fc.keep K78 (ninS (Exa.ne Es E_ra (by decide)) (ninS (Exa.neArv Es Av (hw _ (List.mem_of_getElem? (i := 2) rfl))) nin0))
  have Fv_c78 := Fv.keep K78 (ninS (Exa.ne Es E_ra (by decide)) (ninS (Exa.neArv Es Av (hw _ (List.mem_of_getElem? (i := 2) rfl))) nin0))
  have As_c78 := As.keep K78 (ninS (Ne.symm (Exa.neArv E_ra As (hw _ (List.mem_of_getElem? (i := 10) rfl)))) (ninS (arv_ne As Av (Or.inl (by decide))) nin0))
  have Es2_c78 := Es2.keep K78
  have Fc2_c78 := Fc2.keep K78 (ninS (Exa.ne Es2 E_ra (by decide)) (ninS (Exa.neArv Es2 Av (hw _ (List.mem_of_getElem? (i := 2) rfl))) nin0))
  have Fv2_c78 := Fv2.keep K78 (ninS (Exa.ne Es2 E_ra (by decide)) (ninS (Exa.neArv Es2 Av (hw _ (List.mem_of_getElem? (i := 2) rfl))) nin0))
  have As2_c78 := As2.keep K78 (ninS (Ne.symm (Exa.neArv E_ra As2 (hw _ (List.mem_of_getElem? (i := 10) rfl)))) (ninS (arv_ne As2 Av (Or.inl (by decide))) nin0))
  have E_q_c78 := E_q.keep K78
  have F_el_c78 := F_el.keep K78 (ninS (Exa.ne E_q E_ra (by decide)) (ninS (Exa.neArv E_q Av (hw _ (List.mem_of_getElem? (i := 21) rfl))) nin0))
  have F_ta_c78 := F_ta.keep K78 (ninS (Exa.ne E_q E_ra (by decide)) (ninS (Exa.neArv E_q Av (hw _ (List.mem_of_getElem? (i := 21) rfl))) nin0))
  have F_he_c78 := F_he.keep K78 (ninS (Exa.ne E_q E_ra (by decide)) (ninS (Exa.neArv E_q Av (hw _ (List.mem_of_getElem? (i := 21) rfl))) nin0))
  have A_el_c78 := A_el.keep K78 (ninS (Ne.symm (Exa.neArv E_ra A_el (hw _ (List.mem_of_getElem? (i := 10) rfl)))) (ninS (arv_ne A_el Av (Or.inl (by decide))) nin0))
  have CR78 := CR0.trans CL78
  have kl78 : T78.heap.size ≤ T78.heap.size := Nat.le_refl _
  have Z78 : n0 ≤ T78.heap.size := Nat.le_trans Z0 K78.1
  have kp78 := Keep.trans kp0 K78 (allS (Or.inl (List.mem_of_getElem? (i := 0) rfl)) (allS (Or.inl (List.mem_of_getElem? (i := 1) rfl)) all0))
  obtain ⟨cq79, q79, q79'⟩ := Eq_78.cell
  obtain ⟨_, _, ⟨T79, L79, k79, n79⟩, -, X79, ⟨Lc79, hQ79, l79, y79, z79⟩, st79⟩ := X78.privateBack hx (y := (⟨"com/example/sealwright/sealwright/io/XmlWriter", "escape", "(Ljava/lang/CharSequence;Ljava/lang/String;Z)V"⟩ : MethodName)) hown78 (mvT hZ78 (hw _ (List.mem_of_getElem? (i := 153) rfl))) (mvT hZ78 (hw _ (List.mem_of_getElem? (i := 154) rfl))) (mvT hZ78 (own_sel (y := (⟨"com/example/sealwright/sealwright/io/XmlWriter", "escape", "(Ljava/lang/CharSequence;Ljava/lang/String;Z)V"⟩ : MethodName)) (hw _ (List.mem_of_getElem? (i := 10) rfl)) (hw _ (List.mem_of_getElem? (i := 155) rfl)) (hw _ (List.mem_of_getElem? (i := 154) rfl)) (by decide))) (Cond.privateMethod_at (mvP hZ78 (hw _ (List.mem_of_getElem? (i := 155) rfl)) (args := #[]))) (mvT hZ78 (hw _ (List.mem_of_getElem? (i := 156) rfl))) (by decide) (backOf (W := 0) (rm_esc l Z a0 hw [] ra s2 sa (0 : Int32) tb kt T78.heap n0 Z78 G_c78 ⟨Es2_c78, Fc2_c78, Fv2_c78, As2_c78⟩) hZ78 (hw _ (List.mem_of_getElem? (i := 156) rfl)) (hw _ (List.mem_of_getElem? (i := 11) rfl)) (by decide) (by decide)) (g := (mkF m 13 #[.val (.ref ra), .val (.ref sa), .val (.ref s2)] [(.int (0 : Int32)), (.ref sa), (.ref s2), (.ref ra)])) rfl (by rw [hml]; rfl) (Steps.refl _) (a := ra) q79 q79' (argsL := [(.ref s2), (.ref sa), (.int (0 : Int32))]) (rest := []) (lenOf pd_12 rfl) rfl (by show 2 * 0 + _ ≤ _; exact Nat.le_of_eq rfl) (hb hby d_prog_85_method_5_code_13) (fun _ _ => ⟨rfl, rfl, (by decide : 4 + 0 ≤ _), (by decide : 16 + 0 ≤ _)⟩)
  dsimp only [Pt.U, Pt.locs, Pt.cells, Pt.slots] at X79 l79 y79 z79 st79 hQ79
  subst l79 y79 z79
  obtain ⟨rfl, N79q, e79⟩ := hQ79
  have N79 := Fr.app N78 N79q
  obtain ⟨cq80, q80, q80'⟩ := Eq_78.cell
  obtain ⟨_, _, ⟨T80, L80, k80, n80⟩, -, Xa80, Sa80, gr80, ⟨Lc80, hQ80, l80, y80, z80, CL80⟩, st80⟩ := X79.privateBackS hx (y := (⟨"com/example/sealwright/sealwright/io/XmlWriter", "endTag", "(Ljava/lang/String;)V"⟩ : MethodName)) hown78 (mvT hZ78 (hw _ (List.mem_of_getElem? (i := 167) rfl))) (mvT hZ78 (hw _ (List.mem_of_getElem? (i := 168) rfl))) (mvT hZ78 (own_sel (y := (⟨"com/example/sealwright/sealwright/io/XmlWriter", "endTag", "(Ljava/lang/String;)V"⟩ : MethodName)) (hw _ (List.mem_of_getElem? (i := 10) rfl)) (hw _ (List.mem_of_getElem? (i := 169) rfl)) (hw _ (List.mem_of_getElem? (i := 168) rfl)) (by decide))) (Cond.privateMethod_at (mvP hZ78 (hw _ (List.mem_of_getElem? (i := 169) rfl)) (args := #[]))) (mvT hZ78 (hw _ (List.mem_of_getElem? (i := 170) rfl))) (by decide) (backOfSH (W := 0) (rm_etag l Z a0 hw [] ra sa rb rd kb sb ks T78.heap n0 Z78 ⟨Eq_78, Fb_78, Fs_78, Fe_78, Fo_78, Aq_78⟩ g_ra g_rb G_c78 ⟨Es_c78, Fc_c78, Fv_c78, As_c78⟩) hZ78 (hw _ (List.mem_of_getElem? (i := 170) rfl)) (hw _ (List.mem_of_getElem? (i := 11) rfl)) (by decide) (by decide) (own_EW hw) CR78.1) (g := (mkF m 18 #[.val (.ref ra), .val (.ref sa), .val (.ref s2)] [(.ref sa), (.ref ra)])) rfl (by rw [hml]; rfl) (Steps.refl _) (a := ra) (by rw [e79]; exact q80) q80' (argsL := [(.ref sa)]) (rest := []) (lenOf pd_11 rfl) rfl (by show 2 * 0 + _ ≤ _; exact Nat.le_of_eq rfl) (hb hby d_prog_85_method_5_code_18) (fun _ _ => ⟨rfl, e79, (by decide : 4 + 4 ≤ _), (by decide : 16 + 20 ≤ _)⟩)
  dsimp only [Pt.U, Pt.locs, Pt.cells, Pt.slots] at Xa80 Sa80 gr80 l80 y80 z80 st80 hQ80 CL80
  subst l80 y80 z80
  obtain ⟨X80, hS80, hZ80, hown80⟩ := rebS hS78 (n1 := T79.heap.size) (by rw [e79]; exact kl78) Xa80 Sa80 gr80 hZ78 hown78
  obtain ⟨rfl, N80q, K80, ⟨Eq_80, Fb_80, Fs_80, Fe_80, Fo_80, Aq_80⟩⟩ := hQ80
  have N80 := Fr.app N79 N80q
  have Eq_78_c80 := Eq_78.keep K80
  have G_c80 := own_G.keep G_c78 K80 (allS g_ra (allS g_rb all0))
  have Es_c80 := Es_c78.keep K80
  have Fc_c80 := Fc_c78.keep K80 (ninS (Exa.ne Es_c78 Eq_78 (by decide)) (ninS (Exa.neArv Es_c78 Aq_78 (hw _ (List.mem_of_getElem? (i := 2) rfl))) nin0))
  have Fv_c80 := Fv_c78.keep K80 (ninS (Exa.ne Es_c78 Eq_78 (by decide)) (ninS (Exa.neArv Es_c78 Aq_78 (hw _ (List.mem_of_getElem? (i := 2) rfl))) nin0))
  have As_c80 := As_c78.keep K80 (ninS (Ne.symm (Exa.neArv Eq_78 As_c78 (hw _ (List.mem_of_getElem? (i := 10) rfl)))) (ninS (arv_ne As_c78 Aq_78 (Or.inl (by decide))) nin0))
  have Es2_c80 := Es2_c78.keep K80
  have Fc2_c80 := Fc2_c78.keep K80 (ninS (Exa.ne Es2_c78 Eq_78 (by decide)) (ninS (Exa.neArv Es2_c78 Aq_78 (hw _ (List.mem_of_getElem? (i := 2) rfl))) nin0))
  have Fv2_c80 := Fv2_c78.keep K80 (ninS (Exa.ne Es2_c78 Eq_78 (by decide)) (ninS (Exa.neArv Es2_c78 Aq_78 (hw _ (List.mem_of_getElem? (i := 2) rfl))) nin0))
  have As2_c80 := As2_c78.keep K80 (ninS (Ne.symm (Exa.neArv Eq_78 As2_c78 (hw _ (List.mem_of_getElem? (i := 10) rfl)))) (ninS (arv_ne As2_c78 Aq_78 (Or.inl (by decide))) nin0))
  have E_q_c80 := E_q_c78.keep K80
  have F_el_c80 := F_el_c78.keep K80 (ninS (Exa.ne E_q_c78 Eq_78 (by decide)) (ninS (Exa.neArv E_q_c78 Aq_78 (hw _ (List.mem_of_getElem? (i := 21) rfl))) nin0))
  have F_ta_c80 := F_ta_c78.keep K80 (ninS (Exa.ne E_q_c78 Eq_78 (by decide)) (ninS (Exa.neArv E_q_c78 Aq_78 (hw _ (List.mem_of_getElem? (i := 21) rfl))) nin0))
  have F_he_c80 := F_he_c78.keep K80 (ninS (Exa.ne E_q_c78 Eq_78 (by decide)) (ninS (Exa.neArv E_q_c78 Aq_78 (hw _ (List.mem_of_getElem? (i := 21) rfl))) nin0))
  have A_el_c80 := A_el_c78.keep K80 (ninS (Ne.symm (Exa.neArv Eq_78 A_el_c78 (hw _ (List.mem_of_getElem? (i := 10) rfl)))) (ninS (arv_ne A_el_c78 Aq_78 (Or.inl (by decide))) nin0))
  have CR80 := CR78.trans CL80
  have kl80 : T80.heap.size ≤ T80.heap.size := Nat.le_refl _
  have Z80 : n0 ≤ T80.heap.size := Nat.le_trans Z78 K80.1
  have kp80 := Keep.trans kp78 K80 (allS (Or.inl (List.mem_of_getElem? (i := 0) rfl)) (allS (Or.inl (List.mem_of_getElem? (i := 1) rfl)) all0))
  obtain ⟨sa81, T81, h81, k81, sb81, ks81, X81, e81, E81, hS81, kq81, hZ81, hown81, Es_81, Fc_81, Fv_81, As_81, la81, lb81, CL81, Lt81, SF81, st81⟩ := ldcCH X80 hx hZ80 hown80 (hw _ (List.mem_of_getElem? (i := 172) rfl)) (own_wS hw) rfl hS80 kl80 (own_EW hw) (List.mem_of_getElem? (i := 1) rfl) CR80.1 (vs := own_tn.map Value.int) (z := (1 : Int32)) own_tn_t (by decide) (by decide) (g := (mkF m 22 #[.val (.ref ra), .val (.ref sa), .val (.ref s2)] [(.ref ra)])) rfl (hb hby d_prog_85_method_5_code_22) (n := 4) (by decide) (by decide) (by decide) (by decide)
  have Eq_80_c81 := Eq_80.ext E81
  have G_c81 := own_G.ext G_c80 E81
  have Es_c81 := Es_c80.ext E81
  have Fc_c81 := Fc_c80.ext E81
  have Fv_c81 := Fv_c80.ext E81
  have As_c81 := As_c80.ext E81
  have Es2_c81 := Es2_c80.ext E81
  have Fc2_c81 := Fc2_c80.ext E81
  have Fv2_c81 := Fv2_c80.ext E81
  have As2_c81 := As2_c80.ext E81
  have E_q_c81 := E_q_c80.ext E81
  have F_el_c81 := F_el_c80.ext E81
  have F_ta_c81 := F_ta_c80.ext E81
  have F_he_c81 := F_he_c80.ext E81
  have A_el_c81 := A_el_c80.ext E81
  have Fb_80_c81 := Fb_80.ext E81
  have Fs_80_c81 := Fs_80.ext E81
  have Fe_80_c81 := Fe_80.ext E81
  have Fo_80_c81 := Fo_80.ext E81
  have Aq_80_c81 := Aq_80.ext E81
  have CR81 := CR80.trans (CHr.ext E81 CR80.1)
  have kl81 := Nat.le_trans kl80 E81.1
  have CX81 := CR80.trans CL81
  have Z81 : n0 ≤ h81.size := Nat.le_trans Z80 E81.1
  have kp81 := kp80.ext E81
  obtain ⟨cq82, q82, q82'⟩ := Eq_80_c81.cell
  obtain ⟨_, _, ⟨T82, L82, k82, n82⟩, -, X82, ⟨Lc82, hQ82, l82, y82, z82⟩, st82⟩ := X81.privateBack hx (y := (⟨"com/example/sealwright/sealwright/io/XmlWriter", "write", "(Ljava/lang/String;)V"⟩ : MethodName)) hown81 (mvT hZ81 (hw _ (List.mem_of_getElem? (i := 40) rfl))) (mvT hZ81 (hw _ (List.mem_of_getElem? (i := 41) rfl))) (mvT hZ81 (own_sel (y := (⟨"com/example/sealwright/sealwright/io/XmlWriter", "write", "(Ljava/lang/String;)V"⟩ : MethodName)) (hw _ (List.mem_of_getElem? (i := 10) rfl)) (hw _ (List.mem_of_getElem? (i := 42) rfl)) (hw _ (List.mem_of_getElem? (i := 41) rfl)) (by decide))) (Cond.privateMethod_at (mvP hZ81 (hw _ (List.mem_of_getElem? (i := 42) rfl)) (args := #[]))) (mvT hZ81 (hw _ (List.mem_of_getElem? (i := 43) rfl))) (by decide) (backOf (W := 0) (rm_wri l Z a0 hw [] ra sa81 rb rd kb (0 : Int32) (7 : Int32) own_C6 sb81 ks81 (1 : Int32) own_tn h81 n0 Z81 ⟨Eq_80_c81, Fb_80_c81, Fs_80_c81, Fe_80_c81, Fo_80_c81, Aq_80_c81⟩ g_ra g_rb G_c81 ⟨Es_81, Fc_81, Fv_81, As_81⟩ (arv_ne As_81 Aq_80_c81 (Or.inl (by decide))) ⟨by decide, by decide⟩ own_C6_len ⟨by decide, by decide⟩ (by decide) own_tn_a) hZ81 (hw _ (List.mem_of_getElem? (i := 43) rfl)) (hw _ (List.mem_of_getElem? (i := 11) rfl)) (by decide) (by decide)) (g := (mkF m 24 #[.val (.ref ra), .val (.ref sa), .val (.ref s2)] [(.ref sa81), (.ref ra)])) rfl (by rw [hml]; rfl) (Steps.refl _) (a := ra) (by rw [e81]; exact q82) q82' (argsL := [(.ref sa81)]) (rest := []) (lenOf pd_11 rfl) rfl (by show 2 * 0 + _ ≤ _; exact Nat.le_of_eq rfl) (hb hby d_prog_85_method_5_code_24) (fun _ _ => ⟨rfl, e81, (by decide : 10 + 0 ≤ _), (by decide : 44 + 0 ≤ _)⟩)
  dsimp only [Pt.U, Pt.locs, Pt.cells, Pt.slots] at X82 l82 y82 z82 st82 hQ82
  subst l82 y82 z82
  obtain ⟨rfl, N82q, K82, ⟨Eq_82, Fb_82, Fs_82, Fe_82, Fo_82, Aq_82⟩⟩ := hQ82
  have N82 := Fr.app N80 N82q
  have Eq_80_c82 := Eq_80_c81.keep K82
  have G_c82 := own_G.keep G_c81 K82 (allS g_ra (allS g_rb all0))
  have Es_c82 := Es_c81.keep K82
  have Fc_c82 := Fc_c81.keep K82 (ninS (Exa.ne Es_c81 Eq_80_c81 (by decide)) (ninS (Exa.neArv Es_c81 Aq_80_c81 (hw _ (List.mem_of_getElem? (i := 2) rfl))) nin0))
  have Fv_c82 := Fv_c81.keep K82 (ninS (Exa.ne Es_c81 Eq_80_c81 (by decide)) (ninS (Exa.neArv Es_c81 Aq_80_c81 (hw _ (List.mem_of_getElem? (i := 2) rfl))) nin0))
  have As_c82 := As_c81.keep K82 (ninS (Ne.symm (Exa.neArv Eq_80_c81 As_c81 (hw _ (List.mem_of_getElem? (i := 10) rfl)))) (ninS (arv_ne As_c81 Aq_80_c81 (Or.inl (by decide))) nin0))
  have Es2_c82 := Es2_c81.keep K82
  have Fc2_c82 := Fc2_c81.keep K82 (ninS (Exa.ne Es2_c81 Eq_80_c81 (by decide)) (ninS (Exa.neArv Es2_c81 Aq_80_c81 (hw _ (List.mem_of_getElem? (i := 2) rfl))) nin0))
  have Fv2_c82 := Fv2_c81.keep K82 (ninS (Exa.ne Es2_c81 Eq_80_c81 (by decide)) (ninS (Exa.neArv Es2_c81 Aq_80_c81 (hw _ (List.mem_of_getElem? (i := 2) rfl))) nin0))
  have As2_c82 := As2_c81.keep K82 (ninS (Ne.symm (Exa.neArv Eq_80_c81 As2_c81 (hw _ (List.mem_of_getElem? (i := 10) rfl)))) (ninS (arv_ne As2_c81 Aq_80_c81 (Or.inl (by decide))) nin0))
  have E_q_c82 := E_q_c81.keep K82
  have F_el_c82 := F_el_c81.keep K82 (ninS (Exa.ne E_q_c81 Eq_80_c81 (by decide)) (ninS (Exa.neArv E_q_c81 Aq_80_c81 (hw _ (List.mem_of_getElem? (i := 21) rfl))) nin0))
  have F_ta_c82 := F_ta_c81.keep K82 (ninS (Exa.ne E_q_c81 Eq_80_c81 (by decide)) (ninS (Exa.neArv E_q_c81 Aq_80_c81 (hw _ (List.mem_of_getElem? (i := 21) rfl))) nin0))
  have F_he_c82 := F_he_c81.keep K82 (ninS (Exa.ne E_q_c81 Eq_80_c81 (by decide)) (ninS (Exa.neArv E_q_c81 Aq_80_c81 (hw _ (List.mem_of_getElem? (i := 21) rfl))) nin0))
  have A_el_c82 := A_el_c81.keep K82 (ninS (Ne.symm (Exa.neArv Eq_80_c81 A_el_c81 (hw _ (List.mem_of_getElem? (i := 10) rfl)))) (ninS (arv_ne A_el_c81 Aq_80_c81 (Or.inl (by decide))) nin0))
  have Es_81_c82 := Es_81.keep K82
  have Fc_81_c82 := Fc_81.keep K82 (ninS (Exa.ne Es_81 Eq_80_c81 (by decide)) (ninS (Exa.neArv Es_81 Aq_80_c81 (hw _ (List.mem_of_getElem? (i := 2) rfl))) nin0))
  have Fv_81_c82 := Fv_81.keep K82 (ninS (Exa.ne Es_81 Eq_80_c81 (by decide)) (ninS (Exa.neArv Es_81 Aq_80_c81 (hw _ (List.mem_of_getElem? (i := 2) rfl))) nin0))
  have As_81_c82 := As_81.keep K82 (ninS (Ne.symm (Exa.neArv Eq_80_c81 As_81 (hw _ (List.mem_of_getElem? (i := 10) rfl)))) (ninS (arv_ne As_81 Aq_80_c81 (Or.inl (by decide))) nin0))
  have CR82 := CX81.trans (CHr.keep K82 (sfS (Safe.exa hZ81.alike Eq_80_c81 (by decide) (by decide)) (sfS (own_safe hZ81 (own_EWl hw) Aq_80_c81 (by decide)) sf0)) CX81.1)
  have kl82 := Nat.le_trans kq81 K82.1
  have Z82 : n0 ≤ T82.heap.size := Nat.le_trans Z81 K82.1
  have kp82 := Keep.trans kp81 K82 (allS (Or.inl (List.mem_of_getElem? (i := 0) rfl)) (allS (Or.inl (List.mem_of_getElem? (i := 1) rfl)) all0))
  have Fe_82_k : Fld Z T82.heap ra "com/example/sealwright/sealwright/io/XmlWriter" "end" "I" (.int (8 : Int32)) := Fe_82
  have Aq_82_k : Arv Z T82.heap rb kb .byte (1024 : Int32) (own_C7.map Value.int) (.int (0 : Int32)) := Aq_82
  obtain ⟨fs, hr, hrun, hended, hRE⟩ := X82.leaveW hS81 (by rw [show T82.heap = T82.heap from rfl]; exact kl82) (v := some (.ref ra)) (fun h => by rw [Bd.returns] at h; cases h)
  refine ⟨_, _, pre0 _ ?_, hrun, hended, _, _, rfl, ?_, ?_, hRE.1, hRE.2.1, hRE.2.2.1, hRE.2.2.2.mono (by decide) (by decide)⟩
  · show Steps p.tables e below (s₁.setTop (mkF m 0 #[.val (.ref ra), .val (.ref sa), .val (.ref s2)] [])) _
    refine XS.aloadN XH.here hx rfl (hb hby d_prog_85_method_5_code_0) rfl rfl ?_
    show Steps p.tables e below (s₁.setTop (mkF m 1 #[.val (.ref ra), .val (.ref sa), .val (.ref s2)] [(.ref ra)])) _
    refine st77.trans ?_
    show Steps p.tables e below (T77.setTop (mkF m 4 #[.val (.ref ra), .val (.ref sa), .val (.ref s2)] [])) _
    refine XS.aloadN X77.here hx rfl (hb hby d_prog_85_method_5_code_4) rfl rfl ?_
    show Steps p.tables e below (T77.setTop (mkF m 5 #[.val (.ref ra), .val (.ref sa), .val (.ref s2)] [(.ref ra)])) _
    refine XS.aloadN X77.here hx rfl (hb hby d_prog_85_method_5_code_5) rfl rfl ?_
    show Steps p.tables e below (T77.setTop (mkF m 6 #[.val (.ref ra), .val (.ref sa), .val (.ref s2)] [(.ref sa), (.ref ra)])) _
    refine st78.trans ?_
    show Steps p.tables e below (T78.setTop (mkF m 9 #[.val (.ref ra), .val (.ref sa), .val (.ref s2)] [])) _
    refine XS.aloadN X78.here hx rfl (hb hby d_prog_85_method_5_code_9) rfl rfl ?_
    show Steps p.tables e below (T78.setTop (mkF m 10 #[.val (.ref ra), .val (.ref sa), .val (.ref s2)] [(.ref ra)])) _
    refine XS.aloadN X78.here hx rfl (hb hby d_prog_85_method_5_code_10) rfl rfl ?_
    show Steps p.tables e below (T78.setTop (mkF m 11 #[.val (.ref ra), .val (.ref sa), .val (.ref s2)] [(.ref s2), (.ref ra)])) _
    refine XS.aloadN X78.here hx rfl (hb hby d_prog_85_method_5_code_11) rfl rfl ?_
    show Steps p.tables e below (T78.setTop (mkF m 12 #[.val (.ref ra), .val (.ref sa), .val (.ref s2)] [(.ref sa), (.ref s2), (.ref ra)])) _
    refine XS.iconst X78.here hx rfl (hb hby d_prog_85_method_5_code_12) ?_
    show Steps p.tables e below (T78.setTop (mkF m 13 #[.val (.ref ra), .val (.ref sa), .val (.ref s2)] [(.int (0 : Int32)), (.ref sa), (.ref s2), (.ref ra)])) _
    refine st79.trans ?_
    show Steps p.tables e below (T79.setTop (mkF m 16 #[.val (.ref ra), .val (.ref sa), .val (.ref s2)] [])) _
    refine XS.aloadN X79.here hx rfl (hb hby d_prog_85_method_5_code_16) rfl rfl ?_
    show Steps p.tables e below (T79.setTop (mkF m 17 #[.val (.ref ra), .val (.ref sa), .val (.ref s2)] [(.ref ra)])) _
    refine XS.aloadN X79.here hx rfl (hb hby d_prog_85_method_5_code_17) rfl rfl ?_
    show Steps p.tables e below (T79.setTop (mkF m 18 #[.val (.ref ra), .val (.ref sa), .val (.ref s2)] [(.ref sa), (.ref ra)])) _
    refine st80.trans ?_
    show Steps p.tables e below (T80.setTop (mkF m 21 #[.val (.ref ra), .val (.ref sa), .val (.ref s2)] [])) _
    refine XS.aloadN X80.here hx rfl (hb hby d_prog_85_method_5_code_21) rfl rfl ?_
    show Steps p.tables e below (T80.setTop (mkF m 22 #[.val (.ref ra), .val (.ref sa), .val (.ref s2)] [(.ref ra)])) _
    refine st81 _ ?_
    show Steps p.tables e below (T81.setTop (mkF m 24 #[.val (.ref ra), .val (.ref sa), .val (.ref s2)] [(.ref sa81), (.ref ra)])) _
    refine st82.trans ?_
    show Steps p.tables e below (T82.setTop (mkF m 27 #[.val (.ref ra), .val (.ref sa), .val (.ref s2)] [])) _
    refine XS.aloadN X82.here hx rfl (hb hby d_prog_85_method_5_code_27) rfl rfl ?_
    show Steps p.tables e below (T82.setTop (mkF m 28 #[.val (.ref ra), .val (.ref sa), .val (.ref s2)] [(.ref ra)])) _
    jvm_step X82.here [X82.here.top, hx, (hb hby d_prog_85_method_5_code_28), X82.method', Bd.returns, Value.isRef, FieldType.isReference]
    first | (intro acts; rw [hr _ acts rfl rfl rfl]) | rw [hr _ _ rfl rfl rfl]
    exact Steps.refl _
  · show Q_elem Z ra sa s2 rb rd kb re ke sb ks tb kt h0 n0 _ T82.heap _
    exact ⟨⟨_, rfl, rfl, ⟨Eq_82, Fb_82, Fs_82, Fe_82_k, Fo_82, Aq_82_k⟩⟩, N82, kp82⟩
  · show CHr Z consts_1 s.vm s.heap T82.vm T82.heap
    rw [hh]
    exact CR82.trans (CHv.at X82 hZ81 (own_EW hw) CR82.1)
def own_rdp (vst ven vn z : Int32) : Prop := 0 ≤ z.toInt ∧ z.toInt ≤ vn.toInt ∧ vst.toInt + z.toInt ≤ ven.toInt ∧ (z.toInt = vn.toInt ∨ vst.toInt + z.toInt = ven.toInt)
theorem own_rd (vst ven vn z : Int32) (h : 0 ≤ vst.toInt ∧ vst.toInt ≤ ven.toInt ∧ ven.toInt ≤ 1024) (hn : 0 ≤ vn.toInt) (hz : z = if (ven - vst) < vn then ven - vst else vn) : own_rdp vst ven vn z := by
  have a := c_isub ven vst
  have b := rng32 (ven - vst)
  have c : (ven - vst).toInt = ven.toInt - vst.toInt := by omega
  rw [hz]
  by_cases q : (ven - vst) < vn
  · rw [if_pos q]; rw [own_lt, c] at q; refine ⟨?_, ?_, ?_, Or.inr ?_⟩ <;> rw [c] <;> omega
  · rw [if_neg q]; rw [own_lt, c] at q; refine ⟨hn, Int.le_refl _, ?_, Or.inl rfl⟩; omega
theorem own_nn (v : Int32) (h : 0 ≤ v.toInt) : ¬ v < 0 := by rw [own_lt, show (0 : Int32).toInt = 0 from by decide]; omega
theorem d_prog_85_method_11_code_0 : decode prog_85_method_11_code 0 = .ok (.iload_n 3, 1) := by decide +kernel
theorem d_prog_85_method_11_code_1 : decode prog_85_method_11_code 1 = .ok (.aload_n 0, 1) := by decide +kernel
theorem d_prog_85_method_11_code_2 : decode prog_85_method_11_code 2 = .ok (.getfield 100, 3) := by decide +kernel
theorem d_prog_85_method_11_code_5 : decode prog_85_method_11_code 5 = .ok (.aload_n 0, 1) := by decide +kernel
theorem d_prog_85_method_11_code_6 : decode prog_85_method_11_code 6 = .ok (.getfield 130, 3) := by decide +kernel
theorem d_prog_85_method_11_code_9 : decode prog_85_method_11_code 9 = .ok (.isub, 1) := by decide +kernel
theorem d_prog_85_method_11_code_10 : decode prog_85_method_11_code 10 = .ok (.invokestatic 139, 3) := by decide +kernel
theorem pd_13 : parseMethodDescriptor "(II)I" = some ⟨[.int, .int], some .int⟩ := by decide +kernel
theorem d_prog_85_method_11_code_13 : decode prog_85_method_11_code 13 = .ok (.istore 4, 2) := by decide +kernel
theorem d_prog_85_method_11_code_15 : decode prog_85_method_11_code 15 = .ok (.aload_n 0, 1) := by decide +kernel
theorem d_prog_85_method_11_code_16 : decode prog_85_method_11_code 16 = .ok (.getfield 7, 3) := by decide +kernel
theorem d_prog_85_method_11_code_19 : decode prog_85_method_11_code 19 = .ok (.aload_n 0, 1) := by decide +kernel
theorem d_prog_85_method_11_code_20 : decode prog_85_method_11_code 20 = .ok (.getfield 130, 3) := by decide +kernel
theorem d_prog_85_method_11_code_23 : decode prog_85_method_11_code 23 = .ok (.aload_n 1, 1) := by decide +kernel
theorem d_prog_85_method_11_code_24 : decode prog_85_method_11_code 24 = .ok (.iload_n 2, 1) := by decide +kernel
theorem d_prog_85_method_11_code_25 : decode prog_85_method_11_code 25 = .ok (.iload 4, 2) := by decide +kernel
theorem d_prog_85_method_11_code_27 : decode prog_85_method_11_code 27 = .ok (.invokestatic 145, 3) := by decide +kernel
theorem d_prog_85_method_11_code_30 : decode prog_85_method_11_code 30 = .ok (.aload_n 0, 1) := by decide +kernel
theorem d_prog_85_method_11_code_31 : decode prog_85_method_11_code 31 = .ok (.dup, 1) := by decide +kernel
theorem d_prog_85_method_11_code_32 : decode prog_85_method_11_code 32 = .ok (.getfield 130, 3) := by decide +kernel
theorem d_prog_85_method_11_code_35 : decode prog_85_method_11_code 35 = .ok (.iload 4, 2) := by decide +kernel
theorem d_prog_85_method_11_code_37 : decode prog_85_method_11_code 37 = .ok (.iadd, 1) := by decide +kernel
theorem d_prog_85_method_11_code_38 : decode prog_85_method_11_code 38 = .ok (.putfield 130, 3) := by decide +kernel
theorem d_prog_85_method_11_code_41 : decode prog_85_method_11_code 41 = .ok (.aload_n 0, 1) := by decide +kernel
theorem d_prog_85_method_11_code_42 : decode prog_85_method_11_code 42 = .ok (.getfield 130, 3) := by decide +kernel
theorem d_prog_85_method_11_code_45 : decode prog_85_method_11_code 45 = .ok (.aload_n 0, 1) := by decide +kernel
theorem d_prog_85_method_11_code_46 : decode prog_85_method_11_code 46 = .ok (.getfield 100, 3) := by decide +kernel
theorem d_prog_85_method_11_code_49 : decode prog_85_method_11_code 49 = .ok (.if_icmp .ne 13, 3) := by decide +kernel
theorem d_prog_85_method_11_code_52 : decode prog_85_method_11_code 52 = .ok (.aload_n 0, 1) := by decide +kernel
theorem d_prog_85_method_11_code_53 : decode prog_85_method_11_code 53 = .ok (.iconst 0, 1) := by decide +kernel
theorem d_prog_85_method_11_code_54 : decode prog_85_method_11_code 54 = .ok (.putfield 130, 3) := by decide +kernel
theorem d_prog_85_method_11_code_57 : decode prog_85_method_11_code 57 = .ok (.aload_n 0, 1) := by decide +kernel
theorem d_prog_85_method_11_code_58 : decode prog_85_method_11_code 58 = .ok (.iconst 0, 1) := by decide +kernel
theorem d_prog_85_method_11_code_59 : decode prog_85_method_11_code 59 = .ok (.putfield 100, 3) := by decide +kernel
theorem d_prog_85_method_11_code_62 : decode prog_85_method_11_code 62 = .ok (.iload 4, 2) := by decide +kernel
theorem d_prog_85_method_11_code_64 : decode prog_85_method_11_code 64 = .ok (.ireturn, 1) := by decide +kernel
theorem ef_read (m : MethodId) (ra : Addr) (rx : Addr) (vo : Int32) (vn : Int32) : entryFrame m #[(.ref ra), (.ref rx), (.int vo), (.int vn)] 5 = mkF m 0 #[.val (.ref ra), .val (.ref rx), .val (.int vo), .val (.int vn), .unset] [] := by first | (simp [entryFrame, mkF, argsToLocals, Value.category]; done) | rfl
def Q_read (Z : State) (ra : Addr) (rx : Addr) (vo : Int32) (vn : Int32) (rb : Addr) (rd : Addr) (kb : ClassId) (vst : Int32) (ven : Int32) (bs : List Int32) (kx : ClassId) (nx : Int32) (cs : List Int32) (h0 : Heap) (n0 : Nat) (v : Option Value) (h : Heap) (L : List Loc) : Prop := (∃ z : Int32, v = some (.int z) ∧ (own_rdp vst ven vn z ∧ own_W Z h ra rb rd kb (own_s vst ven z) (own_e vst ven z) bs ∧ Arv Z h rx kx .byte nx ((own_cp bs cs vst.toNatClampNeg vo.toNatClampNeg z.toNatClampNeg).map Value.int) (.int (0 : Int32)))) ∧ Fr n0 L ∧ Keep h0 h [ra, rx]
set_option maxRecDepth 65536 in
set_option maxHeartbeats 40000000 in
theorem rm_read (l : Launch) (Z : State) (a0 : Array Value) (hw : ∀ d ∈ tables_1, d.before a0 Z = true) (ws : List Jvm.Cond) (ra : Addr) (rx : Addr) (vo : Int32) (vn : Int32) (rb : Addr) (rd : Addr) (kb : ClassId) (vst : Int32) (ven : Int32) (bs : List Int32) (kx : ClassId) (nx : Int32) (cs : List Int32) (h0 : Heap) (n0 : Nat) (Z0 : n0 ≤ h0.size) (Wr0 : own_W Z h0 ra rb rd kb vst ven bs) (g_ra : n0 ≤ ra) (g_rb : n0 ≤ rb) (Ax : Arv Z h0 rx kx .byte nx (cs.map Value.int) (.int (0 : Int32))) (g_rx : n0 ≤ rx) (ne_xb : rx ≠ rb) (hcl : cs.length = nx.toNatClampNeg) (hst : 0 ≤ vst.toInt ∧ vst.toInt ≤ ven.toInt ∧ ven.toInt ≤ 1024) (hvo : 0 ≤ vo.toInt) (hvn : 0 ≤ vn.toInt) (hsum : vo.toInt + vn.toInt ≤ nx.toInt) :
    MetFree l (⟨"com/example/sealwright/sealwright/io/XmlWriter", "read", "([BII)I"⟩ : MethodName) (head1 (Jvm.Cond.code (⟨"com/example/sealwright/sealwright/io/XmlWriter", "read", "([BII)I"⟩ : MethodName) prog_85_method_11_code 5 (some .int) :: ws) ({ frames := 1, cells := 0, slots := 0, locals := 18 } : Room)) (fun a U => a = #[(.ref ra), (.ref rx), (.int vo), (.int vn)] ∧ Z.Warmed39 U.vm ∧ U.heap = h0) (fun _ _ _ _ _ => True) (fun _ U o U' => ∃ v L, o = .returned v ∧ Q_read Z ra rx vo vn rb rd kb vst ven bs kx nx cs h0 n0 v U'.heap L ∧ FrameEnd U o U' L ({ frames := 1, cells := 0, slots := 0, locals := 18 } : Room).cells ({ frames := 1, cells := 0, slots := 0, locals := 18 } : Room).slots) := by
  refine MetFree.of_bodySF (plainFor_of_name pn_4) hisR ?_
  intro p e s m args below meth c s₁ Bd hml0 hP hK
  obtain ⟨rfl, hZ, hh⟩ := hP
  have hx := Bd.exec
  have hby := Bd.bytes
  have hml : c.maxLocals = 5 := hml0
  have hown : s.vm.findClass "com/example/sealwright/sealwright/io/XmlWriter" = some m.cls := findClass_of_methodNamed Bd.named
  have hnm := (name_of_methodNamed Bd.named Bd.method).1
  have X0 : Stand p l e ({ frames := 1, cells := 0, slots := 0, locals := 18 } : Room) s m #[(.ref ra), (.ref rx), (.int vo), (.int vn)] below meth c s₁ [] 0 0 := Stand.of_body Bd
  have e0 : s₁.heap = h0 := by rw [← hh, Bd.state]; rfl
  have N0 := Fr.nil n0
  have pre0 : ∀ t, Steps p.tables e below (s₁.setTop (mkF m 0 #[.val (.ref ra), .val (.ref rx), .val (.int vo), .val (.int vn), .unset] [])) t → Steps p.tables e below (s₁.setTop (entryFrame m #[(.ref ra), (.ref rx), (.int vo), (.int vn)] 5)) t := fun t k => castTop (ef_read m ra rx vo vn) k
  have kp0 : Keep h0 h0 [ra, rx] := Keep.refl h0 _
  obtain ⟨E_ra, F_bytes, F_start, F_end, F_open, Av⟩ := id Wr0
  obtain ⟨T83, X83, e83, st83⟩ := getF X0 hx hZ hown (host := "") (Or.inl (hw _ (List.mem_of_getElem? (i := 88) rfl))) Via.refl e0 F_end (g := (mkF m 2 #[.val (.ref ra), .val (.ref rx), .val (.int vo), .val (.int vn), .unset] [(.ref ra), (.int vn)])) rfl rfl (hb hby d_prog_85_method_11_code_2)
  obtain ⟨T84, X84, e84, st84⟩ := getF X83 hx hZ hown (host := "") (Or.inl (hw _ (List.mem_of_getElem? (i := 95) rfl))) Via.refl e83 F_start (g := (mkF m 6 #[.val (.ref ra), .val (.ref rx), .val (.int vo), .val (.int vn), .unset] [(.ref ra), (.int ven), (.int vn)])) rfl rfl (hb hby d_prog_85_method_11_code_6)
  obtain ⟨_, _, ⟨T85, L85, k85, n85⟩, -, X85, ⟨Lc85, hQ85, l85, y85, z85⟩, st85⟩ := Jvm.LawKit.callS X84 hx (y := (⟨"java/lang/Math", "min", "(II)I"⟩ : MethodName)) hown (mvT hZ (hw _ (List.mem_of_getElem? (i := 97) rfl))) (mvT hZ (hw _ (List.mem_of_getElem? (i := 98) rfl))) (mvT hZ (hw _ (List.mem_of_getElem? (i := 99) rfl))) (mvT hZ (hw _ (List.mem_of_getElem? (i := 100) rfl))) (by decide) (backOf (W := 0) (rm_min l Z a0 hw [] vn (ven - vst) h0 n0 Z0 ) hZ (hw _ (List.mem_of_getElem? (i := 100) rfl)) (hw _ (List.mem_of_getElem? (i := 99) rfl)) (by decide) (by decide)) (g := (mkF m 10 #[.val (.ref ra), .val (.ref rx), .val (.int vo), .val (.int vn), .unset] [(.int (ven - vst)), (.int vn)])) rfl (by rw [hml]; rfl) (argsL := [(.int vn), (.int (ven - vst))]) (rest := []) (lenOf pd_13 rfl) rfl (by show 2 * 0 + _ ≤ _; exact Nat.le_of_eq rfl) (hb hby d_prog_85_method_11_code_10) (fun _ _ => ⟨rfl, e84, (by decide : 0 + 0 ≤ _), (by decide : 0 + 0 ≤ _)⟩)
  dsimp only [Pt.U, Pt.locs, Pt.cells, Pt.slots] at X85 l85 y85 z85 st85 hQ85
  subst l85 y85 z85
  obtain ⟨⟨r85, rfl, hr85⟩, N85q, e85⟩ := hQ85
  have N85 := Fr.app N0 N85q
  have hq := own_rd vst ven vn r85 hst hvn hr85
  obtain ⟨T86, X86, e86, st86⟩ := getF X85 hx hZ hown (host := "") (Or.inl (hw _ (List.mem_of_getElem? (i := 18) rfl))) Via.refl e85 F_bytes (g := (mkF m 16 #[.val (.ref ra), .val (.ref rx), .val (.int vo), .val (.int vn), .val (.int r85)] [(.ref ra)])) rfl rfl (hb hby d_prog_85_method_11_code_16)
  obtain ⟨T87, X87, e87, st87⟩ := getF X86 hx hZ hown (host := "") (Or.inl (hw _ (List.mem_of_getElem? (i := 95) rfl))) Via.refl e86 F_start (g := (mkF m 20 #[.val (.ref ra), .val (.ref rx), .val (.int vo), .val (.int vn), .val (.int r85)] [(.ref ra), (.ref rb)])) rfl rfl (hb hby d_prog_85_method_11_code_20)
  obtain ⟨T88, h88, L88, X88, e88, N88, K88, A88, st88⟩ := cpA X87 hx hZ hown (hw _ (List.mem_of_getElem? (i := 101) rfl)) (hw _ (List.mem_of_getElem? (i := 104) rfl)) (hw _ (List.mem_of_getElem? (i := 102) rfl)) (hw _ (List.mem_of_getElem? (i := 103) rfl)) e87 Av Ax (us := (own_us bs (vst).toNatClampNeg (r85).toNatClampNeg).map Value.int) (Or.inl ⟨rfl, rfl⟩) (own_nn _ hst.1) (own_nn _ hvo) (own_nn _ hq.1) (by have q1 := own_nat vst hst.1; have q2 := own_nat vo hvo; have q3 := own_nat r85 hq.1; have q4 := hq.2.1; have q5 := hq.2.2.1; have q6 : (1024 : Int32).toNatClampNeg = 1024 := (by decide); omega) (by have q1 := own_nat vst hst.1; have q2 := own_nat vo hvo; have q3 := own_nat r85 hq.1; have q4 := hq.2.1; have q5 := hq.2.2.1; have q6 := own_nat nx (by omega); omega) (own_us_v _ _ _) (by rw [List.length_map, hcl]; have q1 := own_nat vst hst.1; have q2 := own_nat vo hvo; have q3 := own_nat r85 hq.1; have q4 := hq.2.1; have q5 := hq.2.2.1; have q6 := own_nat nx (by omega); omega) N85 g_rx (g := (mkF m 27 #[.val (.ref ra), .val (.ref rx), .val (.int vo), .val (.int vn), .val (.int r85)] [(.int r85), (.int vo), (.ref rx), (.int vst), (.ref rb)])) rfl (by rw [hml]; rfl) rfl (hb hby d_prog_85_method_11_code_27) (by decide) (W := 0) (by show 2 * 0 + _ ≤ _; exact Nat.le_of_eq rfl) (by decide)
  have E_ra_c88 := E_ra.keep K88
  have Av_c88 := Av.keep K88 (ninS (Ne.symm ne_xb) nin0)
  have F_bytes_c88 := F_bytes.keep K88 (ninS (Exa.neArv E_ra Ax (hw _ (List.mem_of_getElem? (i := 10) rfl))) nin0)
  have F_start_c88 := F_start.keep K88 (ninS (Exa.neArv E_ra Ax (hw _ (List.mem_of_getElem? (i := 10) rfl))) nin0)
  have F_end_c88 := F_end.keep K88 (ninS (Exa.neArv E_ra Ax (hw _ (List.mem_of_getElem? (i := 10) rfl))) nin0)
  have F_open_c88 := F_open.keep K88 (ninS (Exa.neArv E_ra Ax (hw _ (List.mem_of_getElem? (i := 10) rfl))) nin0)
  have Av_rx_88 : Arv Z h88 rx kx .byte nx ((own_cp bs cs (vst).toNatClampNeg (vo).toNatClampNeg (r85).toNatClampNeg).map Value.int) (.int (0 : Int32)) := own_cast A88 (own_cp_v _ _ _ _ _)
  have Z88 : n0 ≤ h88.size := Nat.le_trans Z0 K88.1
  have kp88 := Keep.trans kp0 K88 (allS (Or.inl (List.mem_of_getElem? (i := 1) rfl)) all0)
  obtain ⟨T89, X89, e89, st89⟩ := getF X88 hx hZ hown (host := "") (Or.inl (hw _ (List.mem_of_getElem? (i := 95) rfl))) Via.refl e88 F_start_c88 (g := (mkF m 32 #[.val (.ref ra), .val (.ref rx), .val (.int vo), .val (.int vn), .val (.int r85)] [(.ref ra), (.ref ra)])) rfl rfl (hb hby d_prog_85_method_11_code_32)
  obtain ⟨T90, h90, X90, e90, W90, st90⟩ := putF X89 hx hZ hown (host := "") (Or.inl (hw _ (List.mem_of_getElem? (i := 95) rfl))) Via.refl e89 F_start_c88 E_ra_c88 (Or.inl (hw _ (List.mem_of_getElem? (i := 96) rfl))) (hw _ (List.mem_of_getElem? (i := 10) rfl)) (ty := .int) (by decide) rfl rfl (g := (mkF m 38 #[.val (.ref ra), .val (.ref rx), .val (.int vo), .val (.int vn), .val (.int r85)] [(.int (vst + r85)), (.ref ra)])) rfl rfl (hb hby d_prog_85_method_11_code_38)
  have E_ra_c90 := E_ra_c88.wr W90
  have Av_c90 := Av_c88.other W90 (Ne.symm (Exa.neArv E_ra_c88 Av_c88 (hw _ (List.mem_of_getElem? (i := 10) rfl))))
  have F_bytes_c90 := F_bytes_c88.other W90 (Or.inr (slot_ne (Or.inl (hw _ (List.mem_of_getElem? (i := 19) rfl))) (Or.inl (hw _ (List.mem_of_getElem? (i := 96) rfl))) (by decide) (t := (.array .byte)) (t' := .int) (by decide) (by decide)))
  have F_end_c90 := F_end_c88.other W90 (Or.inr (slot_ne (Or.inl (hw _ (List.mem_of_getElem? (i := 89) rfl))) (Or.inl (hw _ (List.mem_of_getElem? (i := 96) rfl))) (by decide) (t := .int) (t' := .int) (by decide) (by decide)))
  have F_open_c90 := F_open_c88.other W90 (Or.inr (slot_ne (Or.inr (hw _ (List.mem_of_getElem? (i := 38) rfl))) (Or.inl (hw _ (List.mem_of_getElem? (i := 96) rfl))) (by decide) (t := (.object "java/util/Deque")) (t' := .int) (by decide) (by decide)))
  have Av_rx_88_c90 := Av_rx_88.other W90 (Ne.symm (Exa.neArv E_ra_c88 Av_rx_88 (hw _ (List.mem_of_getElem? (i := 10) rfl))))
  have Fd_start_ra_90 := F_start_c88.same W90
  have Z90 : n0 ≤ h90.size := Nat.le_trans Z88 (Keep.of_wr W90).1
  have kp90 := kp88.wr W90 (Or.inl (List.mem_of_getElem? (i := 0) rfl))
  have N90 := Fr.snoc X90 N88 g_ra
  obtain ⟨T91, X91, e91, st91⟩ := getF X90 hx hZ hown (host := "") (Or.inl (hw _ (List.mem_of_getElem? (i := 95) rfl))) Via.refl e90 Fd_start_ra_90 (g := (mkF m 42 #[.val (.ref ra), .val (.ref rx), .val (.int vo), .val (.int vn), .val (.int r85)] [(.ref ra)])) rfl rfl (hb hby d_prog_85_method_11_code_42)
  obtain ⟨T92, X92, e92, st92⟩ := getF X91 hx hZ hown (host := "") (Or.inl (hw _ (List.mem_of_getElem? (i := 88) rfl))) Via.refl e91 F_end_c90 (g := (mkF m 46 #[.val (.ref ra), .val (.ref rx), .val (.int vo), .val (.int vn), .val (.int r85)] [(.ref ra), (.int (vst + r85))])) rfl rfl (hb hby d_prog_85_method_11_code_46)
  by_cases h49_93 : (vst + r85) = ven
  · obtain ⟨T94, h94, X94, e94, W94, st94⟩ := putF X92 hx hZ hown (host := "") (Or.inl (hw _ (List.mem_of_getElem? (i := 95) rfl))) Via.refl e92 Fd_start_ra_90 E_ra_c90 (Or.inl (hw _ (List.mem_of_getElem? (i := 96) rfl))) (hw _ (List.mem_of_getElem? (i := 10) rfl)) (ty := .int) (by decide) rfl rfl (g := (mkF m 54 #[.val (.ref ra), .val (.ref rx), .val (.int vo), .val (.int vn), .val (.int r85)] [(.int (0 : Int32)), (.ref ra)])) rfl rfl (hb hby d_prog_85_method_11_code_54)
    have E_ra_c94 := E_ra_c90.wr W94
    have Av_c94 := Av_c90.other W94 (Ne.symm (Exa.neArv E_ra_c90 Av_c90 (hw _ (List.mem_of_getElem? (i := 10) rfl))))
    have F_bytes_c94 := F_bytes_c90.other W94 (Or.inr (slot_ne (Or.inl (hw _ (List.mem_of_getElem? (i := 19) rfl))) (Or.inl (hw _ (List.mem_of_getElem? (i := 96) rfl))) (by decide) (t := (.array .byte)) (t' := .int) (by decide) (by decide)))
    have F_end_c94 := F_end_c90.other W94 (Or.inr (slot_ne (Or.inl (hw _ (List.mem_of_getElem? (i := 89) rfl))) (Or.inl (hw _ (List.mem_of_getElem? (i := 96) rfl))) (by decide) (t := .int) (t' := .int) (by decide) (by decide)))
    have F_open_c94 := F_open_c90.other W94 (Or.inr (slot_ne (Or.inr (hw _ (List.mem_of_getElem? (i := 38) rfl))) (Or.inl (hw _ (List.mem_of_getElem? (i := 96) rfl))) (by decide) (t := (.object "java/util/Deque")) (t' := .int) (by decide) (by decide)))
    have Av_rx_88_c94 := Av_rx_88_c90.other W94 (Ne.symm (Exa.neArv E_ra_c90 Av_rx_88_c90 (hw _ (List.mem_of_getElem? (i := 10) rfl))))
    have Fd_start_ra_94 := Fd_start_ra_90.same W94
    have Z94 : n0 ≤ h94.size := Nat.le_trans Z90 (Keep.of_wr W94).1
    have kp94 := kp90.wr W94 (Or.inl (List.mem_of_getElem? (i := 0) rfl))
    have N94 := Fr.snoc X94 N90 g_ra
    obtain ⟨T95, h95, X95, e95, W95, st95⟩ := putF X94 hx hZ hown (host := "") (Or.inl (hw _ (List.mem_of_getElem? (i := 88) rfl))) Via.refl e94 F_end_c94 E_ra_c94 (Or.inl (hw _ (List.mem_of_getElem? (i := 89) rfl))) (hw _ (List.mem_of_getElem? (i := 10) rfl)) (ty := .int) (by decide) rfl rfl (g := (mkF m 59 #[.val (.ref ra), .val (.ref rx), .val (.int vo), .val (.int vn), .val (.int r85)] [(.int (0 : Int32)), (.ref ra)])) rfl rfl (hb hby d_prog_85_method_11_code_59)
    have E_ra_c95 := E_ra_c94.wr W95
    have Av_c95 := Av_c94.other W95 (Ne.symm (Exa.neArv E_ra_c94 Av_c94 (hw _ (List.mem_of_getElem? (i := 10) rfl))))
    have F_bytes_c95 := F_bytes_c94.other W95 (Or.inr (slot_ne (Or.inl (hw _ (List.mem_of_getElem? (i := 19) rfl))) (Or.inl (hw _ (List.mem_of_getElem? (i := 89) rfl))) (by decide) (t := (.array .byte)) (t' := .int) (by decide) (by decide)))
    have F_open_c95 := F_open_c94.other W95 (Or.inr (slot_ne (Or.inr (hw _ (List.mem_of_getElem? (i := 38) rfl))) (Or.inl (hw _ (List.mem_of_getElem? (i := 89) rfl))) (by decide) (t := (.object "java/util/Deque")) (t' := .int) (by decide) (by decide)))
    have Av_rx_88_c95 := Av_rx_88_c94.other W95 (Ne.symm (Exa.neArv E_ra_c94 Av_rx_88_c94 (hw _ (List.mem_of_getElem? (i := 10) rfl))))
    have Fd_start_ra_94_c95 := Fd_start_ra_94.other W95 (Or.inr (slot_ne (Or.inl (hw _ (List.mem_of_getElem? (i := 96) rfl))) (Or.inl (hw _ (List.mem_of_getElem? (i := 89) rfl))) (by decide) (t := .int) (t' := .int) (by decide) (by decide)))
    have Fd_end_ra_95 := F_end_c94.same W95
    have Z95 : n0 ≤ h95.size := Nat.le_trans Z94 (Keep.of_wr W95).1
    have kp95 := kp94.wr W95 (Or.inl (List.mem_of_getElem? (i := 0) rfl))
    have N95 := Fr.snoc X95 N94 g_ra
    obtain ⟨fs, hr, hrun, hended, hW, hsame⟩ := X95.leave (v := some (.int r85)) (fun h => by rw [Bd.returns] at h; cases h)
    refine ⟨_, _, pre0 _ ?_, hrun, hended, _, _, rfl, ?_, ⟨_, rfl⟩, hW, hsame.mono (by decide) (by decide)⟩
    · show Steps p.tables e below (s₁.setTop (mkF m 0 #[.val (.ref ra), .val (.ref rx), .val (.int vo), .val (.int vn), .unset] [])) _
      refine XS.iloadN X0.here hx rfl (hb hby d_prog_85_method_11_code_0) rfl ?_
      show Steps p.tables e below (s₁.setTop (mkF m 1 #[.val (.ref ra), .val (.ref rx), .val (.int vo), .val (.int vn), .unset] [(.int vn)])) _
      refine XS.aloadN X0.here hx rfl (hb hby d_prog_85_method_11_code_1) rfl rfl ?_
      show Steps p.tables e below (s₁.setTop (mkF m 2 #[.val (.ref ra), .val (.ref rx), .val (.int vo), .val (.int vn), .unset] [(.ref ra), (.int vn)])) _
      refine st83 _ ?_
      show Steps p.tables e below (T83.setTop (mkF m 5 #[.val (.ref ra), .val (.ref rx), .val (.int vo), .val (.int vn), .unset] [(.int ven), (.int vn)])) _
      refine XS.aloadN X83.here hx rfl (hb hby d_prog_85_method_11_code_5) rfl rfl ?_
      show Steps p.tables e below (T83.setTop (mkF m 6 #[.val (.ref ra), .val (.ref rx), .val (.int vo), .val (.int vn), .unset] [(.ref ra), (.int ven), (.int vn)])) _
      refine st84 _ ?_
      show Steps p.tables e below (T84.setTop (mkF m 9 #[.val (.ref ra), .val (.ref rx), .val (.int vo), .val (.int vn), .unset] [(.int vst), (.int ven), (.int vn)])) _
      refine XS.isub X84.here hx rfl (hb hby d_prog_85_method_11_code_9) rfl ?_
      show Steps p.tables e below (T84.setTop (mkF m 10 #[.val (.ref ra), .val (.ref rx), .val (.int vo), .val (.int vn), .unset] [(.int (ven - vst)), (.int vn)])) _
      refine st85 _ ?_
      show Steps p.tables e below (T85.setTop (mkF m 13 #[.val (.ref ra), .val (.ref rx), .val (.int vo), .val (.int vn), .unset] [(.int r85)])) _
      refine XS.istore X85.here hx rfl (hb hby d_prog_85_method_11_code_13) rfl (l' := #[.val (.ref ra), .val (.ref rx), .val (.int vo), .val (.int vn), .val (.int r85)]) rfl ?_
      show Steps p.tables e below (T85.setTop (mkF m 15 #[.val (.ref ra), .val (.ref rx), .val (.int vo), .val (.int vn), .val (.int r85)] [])) _
      refine XS.aloadN X85.here hx rfl (hb hby d_prog_85_method_11_code_15) rfl rfl ?_
      show Steps p.tables e below (T85.setTop (mkF m 16 #[.val (.ref ra), .val (.ref rx), .val (.int vo), .val (.int vn), .val (.int r85)] [(.ref ra)])) _
      refine st86 _ ?_
      show Steps p.tables e below (T86.setTop (mkF m 19 #[.val (.ref ra), .val (.ref rx), .val (.int vo), .val (.int vn), .val (.int r85)] [(.ref rb)])) _
      refine XS.aloadN X86.here hx rfl (hb hby d_prog_85_method_11_code_19) rfl rfl ?_
      show Steps p.tables e below (T86.setTop (mkF m 20 #[.val (.ref ra), .val (.ref rx), .val (.int vo), .val (.int vn), .val (.int r85)] [(.ref ra), (.ref rb)])) _
      refine st87 _ ?_
      show Steps p.tables e below (T87.setTop (mkF m 23 #[.val (.ref ra), .val (.ref rx), .val (.int vo), .val (.int vn), .val (.int r85)] [(.int vst), (.ref rb)])) _
      refine XS.aloadN X87.here hx rfl (hb hby d_prog_85_method_11_code_23) rfl rfl ?_
      show Steps p.tables e below (T87.setTop (mkF m 24 #[.val (.ref ra), .val (.ref rx), .val (.int vo), .val (.int vn), .val (.int r85)] [(.ref rx), (.int vst), (.ref rb)])) _
      refine XS.iloadN X87.here hx rfl (hb hby d_prog_85_method_11_code_24) rfl ?_
      show Steps p.tables e below (T87.setTop (mkF m 25 #[.val (.ref ra), .val (.ref rx), .val (.int vo), .val (.int vn), .val (.int r85)] [(.int vo), (.ref rx), (.int vst), (.ref rb)])) _
      refine XS.iload X87.here hx rfl (hb hby d_prog_85_method_11_code_25) rfl ?_
      show Steps p.tables e below (T87.setTop (mkF m 27 #[.val (.ref ra), .val (.ref rx), .val (.int vo), .val (.int vn), .val (.int r85)] [(.int r85), (.int vo), (.ref rx), (.int vst), (.ref rb)])) _
      refine st88 _ ?_
      show Steps p.tables e below (T88.setTop (mkF m 30 #[.val (.ref ra), .val (.ref rx), .val (.int vo), .val (.int vn), .val (.int r85)] [])) _
      refine XS.aloadN X88.here hx rfl (hb hby d_prog_85_method_11_code_30) rfl rfl ?_
      show Steps p.tables e below (T88.setTop (mkF m 31 #[.val (.ref ra), .val (.ref rx), .val (.int vo), .val (.int vn), .val (.int r85)] [(.ref ra)])) _
      refine XS.dup X88.here hx rfl (hb hby d_prog_85_method_11_code_31) rfl rfl ?_
      show Steps p.tables e below (T88.setTop (mkF m 32 #[.val (.ref ra), .val (.ref rx), .val (.int vo), .val (.int vn), .val (.int r85)] [(.ref ra), (.ref ra)])) _
      refine st89 _ ?_
      show Steps p.tables e below (T89.setTop (mkF m 35 #[.val (.ref ra), .val (.ref rx), .val (.int vo), .val (.int vn), .val (.int r85)] [(.int vst), (.ref ra)])) _
      refine XS.iload X89.here hx rfl (hb hby d_prog_85_method_11_code_35) rfl ?_
      show Steps p.tables e below (T89.setTop (mkF m 37 #[.val (.ref ra), .val (.ref rx), .val (.int vo), .val (.int vn), .val (.int r85)] [(.int r85), (.int vst), (.ref ra)])) _
      refine XS.iadd X89.here hx rfl (hb hby d_prog_85_method_11_code_37) rfl ?_
      show Steps p.tables e below (T89.setTop (mkF m 38 #[.val (.ref ra), .val (.ref rx), .val (.int vo), .val (.int vn), .val (.int r85)] [(.int (vst + r85)), (.ref ra)])) _
      refine st90 _ ?_
      show Steps p.tables e below (T90.setTop (mkF m 41 #[.val (.ref ra), .val (.ref rx), .val (.int vo), .val (.int vn), .val (.int r85)] [])) _
      refine XS.aloadN X90.here hx rfl (hb hby d_prog_85_method_11_code_41) rfl rfl ?_
      show Steps p.tables e below (T90.setTop (mkF m 42 #[.val (.ref ra), .val (.ref rx), .val (.int vo), .val (.int vn), .val (.int r85)] [(.ref ra)])) _
      refine st91 _ ?_
      show Steps p.tables e below (T91.setTop (mkF m 45 #[.val (.ref ra), .val (.ref rx), .val (.int vo), .val (.int vn), .val (.int r85)] [(.int (vst + r85))])) _
      refine XS.aloadN X91.here hx rfl (hb hby d_prog_85_method_11_code_45) rfl rfl ?_
      show Steps p.tables e below (T91.setTop (mkF m 46 #[.val (.ref ra), .val (.ref rx), .val (.int vo), .val (.int vn), .val (.int r85)] [(.ref ra), (.int (vst + r85))])) _
      refine st92 _ ?_
      show Steps p.tables e below (T92.setTop (mkF m 49 #[.val (.ref ra), .val (.ref rx), .val (.int vo), .val (.int vn), .val (.int r85)] [(.int ven), (.int (vst + r85))])) _
      refine XS.icmpNo X92.here hx rfl (hb hby d_prog_85_method_11_code_49) rfl (teq h49_93).2 ?_
      show Steps p.tables e below (T92.setTop (mkF m 52 #[.val (.ref ra), .val (.ref rx), .val (.int vo), .val (.int vn), .val (.int r85)] [])) _
      refine XS.aloadN X92.here hx rfl (hb hby d_prog_85_method_11_code_52) rfl rfl ?_
      show Steps p.tables e below (T92.setTop (mkF m 53 #[.val (.ref ra), .val (.ref rx), .val (.int vo), .val (.int vn), .val (.int r85)] [(.ref ra)])) _
      refine XS.iconst X92.here hx rfl (hb hby d_prog_85_method_11_code_53) ?_
      show Steps p.tables e below (T92.setTop (mkF m 54 #[.val (.ref ra), .val (.ref rx), .val (.int vo), .val (.int vn), .val (.int r85)] [(.int (0 : Int32)), (.ref ra)])) _
      refine st94 _ ?_
      show Steps p.tables e below (T94.setTop (mkF m 57 #[.val (.ref ra), .val (.ref rx), .val (.int vo), .val (.int vn), .val (.int r85)] [])) _
      refine XS.aloadN X94.here hx rfl (hb hby d_prog_85_method_11_code_57) rfl rfl ?_
      show Steps p.tables e below (T94.setTop (mkF m 58 #[.val (.ref ra), .val (.ref rx), .val (.int vo), .val (.int vn), .val (.int r85)] [(.ref ra)])) _
      refine XS.iconst X94.here hx rfl (hb hby d_prog_85_method_11_code_58) ?_
      show Steps p.tables e below (T94.setTop (mkF m 59 #[.val (.ref ra), .val (.ref rx), .val (.int vo), .val (.int vn), .val (.int r85)] [(.int (0 : Int32)), (.ref ra)])) _
      refine st95 _ ?_
      show Steps p.tables e below (T95.setTop (mkF m 62 #[.val (.ref ra), .val (.ref rx), .val (.int vo), .val (.int vn), .val (.int r85)] [])) _
      refine XS.iload X95.here hx rfl (hb hby d_prog_85_method_11_code_62) rfl ?_
      show Steps p.tables e below (T95.setTop (mkF m 64 #[.val (.ref ra), .val (.ref rx), .val (.int vo), .val (.int vn), .val (.int r85)] [(.int r85)])) _
      exact retI X95 hx Bd.returns (hb hby d_prog_85_method_11_code_64) hr
    · show Q_read Z ra rx vo vn rb rd kb vst ven bs kx nx cs h0 n0 _ T95.heap _
      rw [e95]
      exact ⟨⟨_, rfl, hq, by rw [show own_s vst ven r85 = 0 from if_pos h49_93, show own_e vst ven r85 = 0 from if_pos h49_93]; exact ⟨E_ra_c95, F_bytes_c95, Fd_start_ra_94_c95, Fd_end_ra_95, F_open_c95, Av_c95⟩, Av_rx_88_c95⟩, N95, kp95⟩
  · obtain ⟨fs, hr, hrun, hended, hW, hsame⟩ := X92.leave (v := some (.int r85)) (fun h => by rw [Bd.returns] at h; cases h)
    refine ⟨_, _, pre0 _ ?_, hrun, hended, _, _, rfl, ?_, ⟨_, rfl⟩, hW, hsame.mono (by decide) (by decide)⟩
    · show Steps p.tables e below (s₁.setTop (mkF m 0 #[.val (.ref ra), .val (.ref rx), .val (.int vo), .val (.int vn), .unset] [])) _
      refine XS.iloadN X0.here hx rfl (hb hby d_prog_85_method_11_code_0) rfl ?_
      show Steps p.tables e below (s₁.setTop (mkF m 1 #[.val (.ref ra), .val (.ref rx), .val (.int vo), .val (.int vn), .unset] [(.int vn)])) _
      refine XS.aloadN X0.here hx rfl (hb hby d_prog_85_method_11_code_1) rfl rfl ?_
      show Steps p.tables e below (s₁.setTop (mkF m 2 #[.val (.ref ra), .val (.ref rx), .val (.int vo), .val (.int vn), .unset] [(.ref ra), (.int vn)])) _
      refine st83 _ ?_
      show Steps p.tables e below (T83.setTop (mkF m 5 #[.val (.ref ra), .val (.ref rx), .val (.int vo), .val (.int vn), .unset] [(.int ven), (.int vn)])) _
      refine XS.aloadN X83.here hx rfl (hb hby d_prog_85_method_11_code_5) rfl rfl ?_
      show Steps p.tables e below (T83.setTop (mkF m 6 #[.val (.ref ra), .val (.ref rx), .val (.int vo), .val (.int vn), .unset] [(.ref ra), (.int ven), (.int vn)])) _
      refine st84 _ ?_
      show Steps p.tables e below (T84.setTop (mkF m 9 #[.val (.ref ra), .val (.ref rx), .val (.int vo), .val (.int vn), .unset] [(.int vst), (.int ven), (.int vn)])) _
      refine XS.isub X84.here hx rfl (hb hby d_prog_85_method_11_code_9) rfl ?_
      show Steps p.tables e below (T84.setTop (mkF m 10 #[.val (.ref ra), .val (.ref rx), .val (.int vo), .val (.int vn), .unset] [(.int (ven - vst)), (.int vn)])) _
      refine st85 _ ?_
      show Steps p.tables e below (T85.setTop (mkF m 13 #[.val (.ref ra), .val (.ref rx), .val (.int vo), .val (.int vn), .unset] [(.int r85)])) _
      refine XS.istore X85.here hx rfl (hb hby d_prog_85_method_11_code_13) rfl (l' := #[.val (.ref ra), .val (.ref rx), .val (.int vo), .val (.int vn), .val (.int r85)]) rfl ?_
      show Steps p.tables e below (T85.setTop (mkF m 15 #[.val (.ref ra), .val (.ref rx), .val (.int vo), .val (.int vn), .val (.int r85)] [])) _
      refine XS.aloadN X85.here hx rfl (hb hby d_prog_85_method_11_code_15) rfl rfl ?_
      show Steps p.tables e below (T85.setTop (mkF m 16 #[.val (.ref ra), .val (.ref rx), .val (.int vo), .val (.int vn), .val (.int r85)] [(.ref ra)])) _
      refine st86 _ ?_
      show Steps p.tables e below (T86.setTop (mkF m 19 #[.val (.ref ra), .val (.ref rx), .val (.int vo), .val (.int vn), .val (.int r85)] [(.ref rb)])) _
      refine XS.aloadN X86.here hx rfl (hb hby d_prog_85_method_11_code_19) rfl rfl ?_
      show Steps p.tables e below (T86.setTop (mkF m 20 #[.val (.ref ra), .val (.ref rx), .val (.int vo), .val (.int vn), .val (.int r85)] [(.ref ra), (.ref rb)])) _
      refine st87 _ ?_
      show Steps p.tables e below (T87.setTop (mkF m 23 #[.val (.ref ra), .val (.ref rx), .val (.int vo), .val (.int vn), .val (.int r85)] [(.int vst), (.ref rb)])) _
      refine XS.aloadN X87.here hx rfl (hb hby d_prog_85_method_11_code_23) rfl rfl ?_
      show Steps p.tables e below (T87.setTop (mkF m 24 #[.val (.ref ra), .val (.ref rx), .val (.int vo), .val (.int vn), .val (.int r85)] [(.ref rx), (.int vst), (.ref rb)])) _
      refine XS.iloadN X87.here hx rfl (hb hby d_prog_85_method_11_code_24) rfl ?_
      show Steps p.tables e below (T87.setTop (mkF m 25 #[.val (.ref ra), .val (.ref rx), .val (.int vo), .val (.int vn), .val (.int r85)] [(.int vo), (.ref rx), (.int vst), (.ref rb)])) _
      refine XS.iload X87.here hx rfl (hb hby d_prog_85_method_11_code_25) rfl ?_
      show Steps p.tables e below (T87.setTop (mkF m 27 #[.val (.ref ra), .val (.ref rx), .val (.int vo), .val (.int vn), .val (.int r85)] [(.int r85), (.int vo), (.ref rx), (.int vst), (.ref rb)])) _
      refine st88 _ ?_
      show Steps p.tables e below (T88.setTop (mkF m 30 #[.val (.ref ra), .val (.ref rx), .val (.int vo), .val (.int vn), .val (.int r85)] [])) _
      refine XS.aloadN X88.here hx rfl (hb hby d_prog_85_method_11_code_30) rfl rfl ?_
      show Steps p.tables e below (T88.setTop (mkF m 31 #[.val (.ref ra), .val (.ref rx), .val (.int vo), .val (.int vn), .val (.int r85)] [(.ref ra)])) _
      refine XS.dup X88.here hx rfl (hb hby d_prog_85_method_11_code_31) rfl rfl ?_
      show Steps p.tables e below (T88.setTop (mkF m 32 #[.val (.ref ra), .val (.ref rx), .val (.int vo), .val (.int vn), .val (.int r85)] [(.ref ra), (.ref ra)])) _
      refine st89 _ ?_
      show Steps p.tables e below (T89.setTop (mkF m 35 #[.val (.ref ra), .val (.ref rx), .val (.int vo), .val (.int vn), .val (.int r85)] [(.int vst), (.ref ra)])) _
      refine XS.iload X89.here hx rfl (hb hby d_prog_85_method_11_code_35) rfl ?_
      show Steps p.tables e below (T89.setTop (mkF m 37 #[.val (.ref ra), .val (.ref rx), .val (.int vo), .val (.int vn), .val (.int r85)] [(.int r85), (.int vst), (.ref ra)])) _
      refine XS.iadd X89.here hx rfl (hb hby d_prog_85_method_11_code_37) rfl ?_
      show Steps p.tables e below (T89.setTop (mkF m 38 #[.val (.ref ra), .val (.ref rx), .val (.int vo), .val (.int vn), .val (.int r85)] [(.int (vst + r85)), (.ref ra)])) _
      refine st90 _ ?_
      show Steps p.tables e below (T90.setTop (mkF m 41 #[.val (.ref ra), .val (.ref rx), .val (.int vo), .val (.int vn), .val (.int r85)] [])) _
      refine XS.aloadN X90.here hx rfl (hb hby d_prog_85_method_11_code_41) rfl rfl ?_
      show Steps p.tables e below (T90.setTop (mkF m 42 #[.val (.ref ra), .val (.ref rx), .val (.int vo), .val (.int vn), .val (.int r85)] [(.ref ra)])) _
      refine st91 _ ?_
      show Steps p.tables e below (T91.setTop (mkF m 45 #[.val (.ref ra), .val (.ref rx), .val (.int vo), .val (.int vn), .val (.int r85)] [(.int (vst + r85))])) _
      refine XS.aloadN X91.here hx rfl (hb hby d_prog_85_method_11_code_45) rfl rfl ?_
      show Steps p.tables e below (T91.setTop (mkF m 46 #[.val (.ref ra), .val (.ref rx), .val (.int vo), .val (.int vn), .val (.int r85)] [(.ref ra), (.int (vst + r85))])) _
      refine st92 _ ?_
      show Steps p.tables e below (T92.setTop (mkF m 49 #[.val (.ref ra), .val (.ref rx), .val (.int vo), .val (.int vn), .val (.int r85)] [(.int ven), (.int (vst + r85))])) _
      refine XS.icmpYes X92.here hx rfl (pc0 := 49) (pc' := 62) rfl (hb hby d_prog_85_method_11_code_49) rfl (feq h49_93).2 (by decide) (by decide) ?_
      show Steps p.tables e below (T92.setTop (mkF m 62 #[.val (.ref ra), .val (.ref rx), .val (.int vo), .val (.int vn), .val (.int r85)] [])) _
      refine XS.iload X92.here hx rfl (hb hby d_prog_85_method_11_code_62) rfl ?_
      show Steps p.tables e below (T92.setTop (mkF m 64 #[.val (.ref ra), .val (.ref rx), .val (.int vo), .val (.int vn), .val (.int r85)] [(.int r85)])) _
      exact retI X92 hx Bd.returns (hb hby d_prog_85_method_11_code_64) hr
    · show Q_read Z ra rx vo vn rb rd kb vst ven bs kx nx cs h0 n0 _ T92.heap _
      rw [e92]
      exact ⟨⟨_, rfl, hq, by rw [show own_s vst ven r85 = (vst + r85) from if_neg h49_93, show own_e vst ven r85 = ven from if_neg h49_93]; exact ⟨E_ra_c90, F_bytes_c90, Fd_start_ra_90, F_end_c90, F_open_c90, Av_c90⟩, Av_rx_88_c90⟩, N90, kp90⟩
theorem pn_7 : plainName "com/example/sealwright/sealwright/io/XmlWriterReadPinLaw" = true := by first | (simp [plainName, overriddenIn]; done) | decide +kernel
theorem d_method_2_code_0 : decode method_2_code 0 = .ok (.iload_n 1, 1) := by decide +kernel
theorem d_method_2_code_1 : decode method_2_code 1 = .ok (.iload_n 2, 1) := by decide +kernel
theorem d_method_2_code_2 : decode method_2_code 2 = .ok (.if_icmp .lt 24, 3) := by decide +kernel
theorem d_method_2_code_26 : decode method_2_code 26 = .ok (.iconst 0, 1) := by decide +kernel
theorem d_method_2_code_27 : decode method_2_code 27 = .ok (.istore 6, 2) := by decide +kernel
theorem d_method_2_code_29 : decode method_2_code 29 = .ok (.aload_n 0, 1) := by decide +kernel
theorem d_method_2_code_30 : decode method_2_code 30 = .ok (.iload_n 1, 1) := by decide +kernel
theorem d_method_2_code_31 : decode method_2_code 31 = .ok (.baload, 1) := by decide +kernel
theorem d_method_2_code_32 : decode method_2_code 32 = .ok (.iload 6, 2) := by decide +kernel
theorem d_method_2_code_34 : decode method_2_code 34 = .ok (.if_icmp .ne 7, 3) := by decide +kernel
theorem d_method_2_code_37 : decode method_2_code 37 = .ok (.iconst 1, 1) := by decide +kernel
theorem d_method_2_code_38 : decode method_2_code 38 = .ok (.goto 4, 3) := by decide +kernel
theorem d_method_2_code_42 : decode method_2_code 42 = .ok (.ireturn, 1) := by decide +kernel
theorem d_method_2_code_5 : decode method_2_code 5 = .ok (.iload_n 1, 1) := by decide +kernel
theorem d_method_2_code_6 : decode method_2_code 6 = .ok (.iload_n 2, 1) := by decide +kernel
theorem d_method_2_code_7 : decode method_2_code 7 = .ok (.iload_n 3, 1) := by decide +kernel
theorem d_method_2_code_8 : decode method_2_code 8 = .ok (.iadd, 1) := by decide +kernel
theorem d_method_2_code_9 : decode method_2_code 9 = .ok (.if_icmp .ge 17, 3) := by decide +kernel
theorem d_method_2_code_12 : decode method_2_code 12 = .ok (.aload 5, 2) := by decide +kernel
theorem d_method_2_code_14 : decode method_2_code 14 = .ok (.iload 4, 2) := by decide +kernel
theorem d_method_2_code_16 : decode method_2_code 16 = .ok (.iload_n 1, 1) := by decide +kernel
theorem d_method_2_code_17 : decode method_2_code 17 = .ok (.iadd, 1) := by decide +kernel
theorem d_method_2_code_18 : decode method_2_code 18 = .ok (.iload_n 2, 1) := by decide +kernel
theorem d_method_2_code_19 : decode method_2_code 19 = .ok (.isub, 1) := by decide +kernel
theorem d_method_2_code_20 : decode method_2_code 20 = .ok (.invokevirtual 7, 3) := by decide +kernel
theorem pd_14 : parseMethodDescriptor "(I)C" = some ⟨[.int], some .char⟩ := by decide +kernel
theorem d_method_2_code_23 : decode method_2_code 23 = .ok (.goto 4, 3) := by decide +kernel
theorem ef_slot (m : MethodId) (rx : Addr) (vi : Int32) (vo : Int32) (vt : Int32) (vk : Int32) (sa : Addr) : entryFrame m #[(.ref rx), (.int vi), (.int vo), (.int vt), (.int vk), (.ref sa)] 7 = mkF m 0 #[.val (.ref rx), .val (.int vi), .val (.int vo), .val (.int vt), .val (.int vk), .val (.ref sa), .unset] [] := by first | (simp [entryFrame, mkF, argsToLocals, Value.category]; done) | rfl
def Q_slot (Z : State) (rx : Addr) (vi : Int32) (vo : Int32) (vt : Int32) (vk : Int32) (sa : Addr) (kx : ClassId) (cs : List Int32) (sb : Addr) (ks : ClassId) (h0 : Heap) (n0 : Nat) (v : Option Value) (h : Heap) (L : List Loc) : Prop := (∃ z : Int32, v = some (.int z) ∧ (z = 1)) ∧ Fr n0 L ∧ h = h0
set_option maxRecDepth 65536 in
set_option maxHeartbeats 40000000 in
theorem rm_slot (l : Launch) (Z : State) (a0 : Array Value) (hw : ∀ d ∈ tables_1, d.before a0 Z = true) (ws : List Jvm.Cond) (rx : Addr) (vi : Int32) (vo : Int32) (vt : Int32) (vk : Int32) (sa : Addr) (kx : ClassId) (cs : List Int32) (sb : Addr) (ks : ClassId) (h0 : Heap) (n0 : Nat) (Z0 : n0 ≤ h0.size) (Ax : Arv Z h0 rx kx .byte (8 : Int32) (cs.map Value.int) (.int (0 : Int32))) (G : own_G Z n0 h0) (Sr : own_S Z h0 sa sb ks (39 : Int32) own_D) (hvi : ¬ vi < 0 ∧ vi < (8 : Int32)) (hin : ¬ vi < vo → vi < (vo + vt) → (¬ ((vk + vi) - vo) < 0 ∧ ((vk + vi) - vo) < (39 : Int32)) ∧ cs.getD vi.toNatClampNeg 0 = own_D.getD ((vk + vi) - vo).toNatClampNeg 0) (hout : (vi < vo ∨ ¬ vi < (vo + vt)) → cs.getD vi.toNatClampNeg 0 = 0) :
    MetFree l (⟨"com/example/sealwright/sealwright/io/XmlWriterReadPinLaw", "slot", "([BIIIILjava/lang/String;)Z"⟩ : MethodName) (head1 (Jvm.Cond.code (⟨"com/example/sealwright/sealwright/io/XmlWriterReadPinLaw", "slot", "([BIIIILjava/lang/String;)Z"⟩ : MethodName) method_2_code 7 (some .boolean) :: ws) ({ frames := 4, cells := 0, slots := 0, locals := 53 } : Room)) (fun a U => a = #[(.ref rx), (.int vi), (.int vo), (.int vt), (.int vk), (.ref sa)] ∧ Z.Warmed39 U.vm ∧ U.heap = h0) (fun _ _ _ _ _ => True) (fun _ U o U' => ∃ v L, o = .returned v ∧ Q_slot Z rx vi vo vt vk sa kx cs sb ks h0 n0 v U'.heap L ∧ FrameEnd U o U' L ({ frames := 4, cells := 0, slots := 0, locals := 53 } : Room).cells ({ frames := 4, cells := 0, slots := 0, locals := 53 } : Room).slots) := by
  refine MetFree.of_bodySF (plainFor_of_name pn_7) hisR ?_
  intro p e s m args below meth c s₁ Bd hml0 hP hK
  obtain ⟨rfl, hZ, hh⟩ := hP
  have hx := Bd.exec
  have hby := Bd.bytes
  have hml : c.maxLocals = 7 := hml0
  have hown : s.vm.findClass "com/example/sealwright/sealwright/io/XmlWriterReadPinLaw" = some m.cls := findClass_of_methodNamed Bd.named
  have hnm := (name_of_methodNamed Bd.named Bd.method).1
  have X0 : Stand p l e ({ frames := 4, cells := 0, slots := 0, locals := 53 } : Room) s m #[(.ref rx), (.int vi), (.int vo), (.int vt), (.int vk), (.ref sa)] below meth c s₁ [] 0 0 := Stand.of_body Bd
  have e0 : s₁.heap = h0 := by rw [← hh, Bd.state]; rfl
  have N0 := Fr.nil n0
  have pre0 : ∀ t, Steps p.tables e below (s₁.setTop (mkF m 0 #[.val (.ref rx), .val (.int vi), .val (.int vo), .val (.int vt), .val (.int vk), .val (.ref sa), .unset] [])) t → Steps p.tables e below (s₁.setTop (entryFrame m #[(.ref rx), (.int vi), (.int vo), (.int vt), (.int vk), (.ref sa)] 7)) t := fun t k => castTop (ef_slot m rx vi vo vt vk sa) k
  obtain ⟨Es, Fc, Fv, As⟩ := id Sr
  by_cases h2_96 : vi < vo
  · obtain ⟨fs, hr, hrun, hended, hW, hsame⟩ := X0.leave (v := some (.int (1 : Int32))) (fun h => by rw [Bd.returns] at h; cases h)
    refine ⟨_, _, pre0 _ ?_, hrun, hended, _, _, rfl, ?_, ⟨_, rfl⟩, hW, hsame.mono (by decide) (by decide)⟩
    · show Steps p.tables e below (s₁.setTop (mkF m 0 #[.val (.ref rx), .val (.int vi), .val (.int vo), .val (.int vt), .val (.int vk), .val (.ref sa), .unset] [])) _
      refine XS.iloadN X0.here hx rfl (hb hby d_method_2_code_0) rfl ?_
      show Steps p.tables e below (s₁.setTop (mkF m 1 #[.val (.ref rx), .val (.int vi), .val (.int vo), .val (.int vt), .val (.int vk), .val (.ref sa), .unset] [(.int vi)])) _
      refine XS.iloadN X0.here hx rfl (hb hby d_method_2_code_1) rfl ?_
      show Steps p.tables e below (s₁.setTop (mkF m 2 #[.val (.ref rx), .val (.int vi), .val (.int vo), .val (.int vt), .val (.int vk), .val (.ref sa), .unset] [(.int vo), (.int vi)])) _
      refine XS.icmpYes X0.here hx rfl (pc0 := 2) (pc' := 26) rfl (hb hby d_method_2_code_2) rfl (tlt h2_96).1 (by decide) (by decide) ?_
      show Steps p.tables e below (s₁.setTop (mkF m 26 #[.val (.ref rx), .val (.int vi), .val (.int vo), .val (.int vt), .val (.int vk), .val (.ref sa), .unset] [])) _
      refine XS.iconst X0.here hx rfl (hb hby d_method_2_code_26) ?_
      show Steps p.tables e below (s₁.setTop (mkF m 27 #[.val (.ref rx), .val (.int vi), .val (.int vo), .val (.int vt), .val (.int vk), .val (.ref sa), .unset] [(.int (0 : Int32))])) _
      refine XS.istore X0.here hx rfl (hb hby d_method_2_code_27) rfl (l' := #[.val (.ref rx), .val (.int vi), .val (.int vo), .val (.int vt), .val (.int vk), .val (.ref sa), .val (.int (0 : Int32))]) rfl ?_
      show Steps p.tables e below (s₁.setTop (mkF m 29 #[.val (.ref rx), .val (.int vi), .val (.int vo), .val (.int vt), .val (.int vk), .val (.ref sa), .val (.int (0 : Int32))] [])) _
      refine XS.aloadN X0.here hx rfl (hb hby d_method_2_code_29) rfl rfl ?_
      show Steps p.tables e below (s₁.setTop (mkF m 30 #[.val (.ref rx), .val (.int vi), .val (.int vo), .val (.int vt), .val (.int vk), .val (.ref sa), .val (.int (0 : Int32))] [(.ref rx)])) _
      refine XS.iloadN X0.here hx rfl (hb hby d_method_2_code_30) rfl ?_
      show Steps p.tables e below (s₁.setTop (mkF m 31 #[.val (.ref rx), .val (.int vi), .val (.int vo), .val (.int vt), .val (.int vk), .val (.ref sa), .val (.int (0 : Int32))] [(.int vi), (.ref rx)])) _
      obtain ⟨cl97, Ar97, q97, S97, N97a, H97, G97⟩ := id Ax
      have hin97 : ¬ (vi < 0 ∨ cl97.slots.size ≤ (vi).toNatClampNeg) := inb_of S97 (hvi)
      have hat97 : cl97.slots[(vi).toNatClampNeg]? = some (.int (cs.getD (vi).toNatClampNeg 0)) := H97.at hin97 (own_getD cs _)
      refine X0.baloadBytes hx (j := vi) (v := (.int (cs.getD (vi).toNatClampNeg 0))) (by rw [e0]; exact Ar97.1) (State.isArrayOf_alike hZ.alike Ar97.2.1) Ar97.2.2 hin97 hat97 (g := (mkF m 31 #[.val (.ref rx), .val (.int vi), .val (.int vo), .val (.int vt), .val (.int vk), .val (.ref sa), .val (.int (0 : Int32))] [(.int vi), (.ref rx)])) rfl rfl (hb hby d_method_2_code_31) _ ?_
      show Steps p.tables e below (s₁.setTop (mkF m 32 #[.val (.ref rx), .val (.int vi), .val (.int vo), .val (.int vt), .val (.int vk), .val (.ref sa), .val (.int (0 : Int32))] [(.int (cs.getD (vi).toNatClampNeg 0))])) _
      refine XS.iload X0.here hx rfl (hb hby d_method_2_code_32) rfl ?_
      show Steps p.tables e below (s₁.setTop (mkF m 34 #[.val (.ref rx), .val (.int vi), .val (.int vo), .val (.int vt), .val (.int vk), .val (.ref sa), .val (.int (0 : Int32))] [(.int (0 : Int32)), (.int (cs.getD (vi).toNatClampNeg 0))])) _
      refine XS.icmpNo X0.here hx rfl (hb hby d_method_2_code_34) rfl (teq (hout (Or.inl h2_96) : (cs.getD (vi).toNatClampNeg 0) = (0 : Int32))).2 ?_
      show Steps p.tables e below (s₁.setTop (mkF m 37 #[.val (.ref rx), .val (.int vi), .val (.int vo), .val (.int vt), .val (.int vk), .val (.ref sa), .val (.int (0 : Int32))] [])) _
      refine XS.iconst X0.here hx rfl (hb hby d_method_2_code_37) ?_
      show Steps p.tables e below (s₁.setTop (mkF m 38 #[.val (.ref rx), .val (.int vi), .val (.int vo), .val (.int vt), .val (.int vk), .val (.ref sa), .val (.int (0 : Int32))] [(.int (1 : Int32))])) _
      refine XS.goto X0.here hx rfl (pc0 := 38) (pc' := 42) rfl (hb hby d_method_2_code_38) (by decide) (by decide) ?_
      show Steps p.tables e below (s₁.setTop (mkF m 42 #[.val (.ref rx), .val (.int vi), .val (.int vo), .val (.int vt), .val (.int vk), .val (.ref sa), .val (.int (0 : Int32))] [(.int (1 : Int32))])) _
      exact retN X0 hx (t := .boolean) Bd.returns (by simp) (hb hby d_method_2_code_42) hr
    · show Q_slot Z rx vi vo vt vk sa kx cs sb ks h0 n0 _ s₁.heap _
      rw [e0]
      exact ⟨⟨_, rfl, rfl⟩, N0, rfl⟩
  · by_cases h9_98 : vi < (vo + vt)
    · obtain ⟨cq99, kq99, q99a, q99b, q99c⟩ := isOf hZ e0 Es
      obtain ⟨_, _, ⟨T99, L99, k99, n99⟩, -, X99, ⟨Lc99, hQ99, l99, y99, z99⟩, st99⟩ := X0.virtualBack hx (y := (⟨"java/lang/String", "charAt", "(I)C"⟩ : MethodName)) (z := (⟨"java/lang/String", "charAt", "(I)C"⟩ : MethodName)) hown (mvT hZ (hw _ (List.mem_of_getElem? (i := 110) rfl))) (mvT hZ (hw _ (List.mem_of_getElem? (i := 111) rfl))) (notFace_of_selects (args := #[]) (mvT hZ (hw _ (List.mem_of_getElem? (i := 113) rfl)))) (mvT hZ (hw _ (List.mem_of_getElem? (i := 113) rfl))) (mvT hZ (hw _ (List.mem_of_getElem? (i := 112) rfl))) (by decide) (backOf (W := 0) (rm_cat l Z a0 hw [] sa ((vk + vi) - vo) sb ks (39 : Int32) own_D h0 n0 Z0 G ⟨Es, Fc, Fv, As⟩ (hin h2_96 h9_98).1 own_D_a) hZ (hw _ (List.mem_of_getElem? (i := 114) rfl)) (hw _ (List.mem_of_getElem? (i := 1) rfl)) (by decide) (by decide)) q99a q99c (g := (mkF m 20 #[.val (.ref rx), .val (.int vi), .val (.int vo), .val (.int vt), .val (.int vk), .val (.ref sa), .unset] [(.int ((vk + vi) - vo)), (.ref sa)])) rfl (by rw [hml]; rfl) (Steps.refl _) (argsL := [(.int ((vk + vi) - vo))]) (rest := []) (lenOf pd_14 rfl) rfl (by show 2 * 0 + _ ≤ _; exact Nat.le_of_eq rfl) (hb hby d_method_2_code_20) (fun _ _ => ⟨rfl, e0, (by decide : 0 + 0 ≤ _), (by decide : 0 + 0 ≤ _)⟩)
      dsimp only [Pt.U, Pt.locs, Pt.cells, Pt.slots] at X99 l99 y99 z99 st99 hQ99
      subst l99 y99 z99
      obtain ⟨⟨r99, rfl, hr99⟩, N99q, e99⟩ := hQ99
      have N99 := Fr.app N0 N99q
      obtain ⟨fs, hr, hrun, hended, hW, hsame⟩ := X99.leave (v := some (.int (1 : Int32))) (fun h => by rw [Bd.returns] at h; cases h)
      refine ⟨_, _, pre0 _ ?_, hrun, hended, _, _, rfl, ?_, ⟨_, rfl⟩, hW, hsame.mono (by decide) (by decide)⟩
      · show Steps p.tables e below (s₁.setTop (mkF m 0 #[.val (.ref rx), .val (.int vi), .val (.int vo), .val (.int vt), .val (.int vk), .val (.ref sa), .unset] [])) _
        refine XS.iloadN X0.here hx rfl (hb hby d_method_2_code_0) rfl ?_
        show Steps p.tables e below (s₁.setTop (mkF m 1 #[.val (.ref rx), .val (.int vi), .val (.int vo), .val (.int vt), .val (.int vk), .val (.ref sa), .unset] [(.int vi)])) _
        refine XS.iloadN X0.here hx rfl (hb hby d_method_2_code_1) rfl ?_
        show Steps p.tables e below (s₁.setTop (mkF m 2 #[.val (.ref rx), .val (.int vi), .val (.int vo), .val (.int vt), .val (.int vk), .val (.ref sa), .unset] [(.int vo), (.int vi)])) _
        refine XS.icmpNo X0.here hx rfl (hb hby d_method_2_code_2) rfl (flt h2_96).1 ?_
        show Steps p.tables e below (s₁.setTop (mkF m 5 #[.val (.ref rx), .val (.int vi), .val (.int vo), .val (.int vt), .val (.int vk), .val (.ref sa), .unset] [])) _
        refine XS.iloadN X0.here hx rfl (hb hby d_method_2_code_5) rfl ?_
        show Steps p.tables e below (s₁.setTop (mkF m 6 #[.val (.ref rx), .val (.int vi), .val (.int vo), .val (.int vt), .val (.int vk), .val (.ref sa), .unset] [(.int vi)])) _
        refine XS.iloadN X0.here hx rfl (hb hby d_method_2_code_6) rfl ?_
        show Steps p.tables e below (s₁.setTop (mkF m 7 #[.val (.ref rx), .val (.int vi), .val (.int vo), .val (.int vt), .val (.int vk), .val (.ref sa), .unset] [(.int vo), (.int vi)])) _
        refine XS.iloadN X0.here hx rfl (hb hby d_method_2_code_7) rfl ?_
        show Steps p.tables e below (s₁.setTop (mkF m 8 #[.val (.ref rx), .val (.int vi), .val (.int vo), .val (.int vt), .val (.int vk), .val (.ref sa), .unset] [(.int vt), (.int vo), (.int vi)])) _
        refine XS.iadd X0.here hx rfl (hb hby d_method_2_code_8) rfl ?_
        show Steps p.tables e below (s₁.setTop (mkF m 9 #[.val (.ref rx), .val (.int vi), .val (.int vo), .val (.int vt), .val (.int vk), .val (.ref sa), .unset] [(.int (vo + vt)), (.int vi)])) _
        refine XS.icmpNo X0.here hx rfl (hb hby d_method_2_code_9) rfl (tlt h9_98).2.1 ?_
        show Steps p.tables e below (s₁.setTop (mkF m 12 #[.val (.ref rx), .val (.int vi), .val (.int vo), .val (.int vt), .val (.int vk), .val (.ref sa), .unset] [])) _
        refine XS.aload X0.here hx rfl (hb hby d_method_2_code_12) rfl rfl ?_
        show Steps p.tables e below (s₁.setTop (mkF m 14 #[.val (.ref rx), .val (.int vi), .val (.int vo), .val (.int vt), .val (.int vk), .val (.ref sa), .unset] [(.ref sa)])) _
        refine XS.iload X0.here hx rfl (hb hby d_method_2_code_14) rfl ?_
        show Steps p.tables e below (s₁.setTop (mkF m 16 #[.val (.ref rx), .val (.int vi), .val (.int vo), .val (.int vt), .val (.int vk), .val (.ref sa), .unset] [(.int vk), (.ref sa)])) _
        refine XS.iloadN X0.here hx rfl (hb hby d_method_2_code_16) rfl ?_
        show Steps p.tables e below (s₁.setTop (mkF m 17 #[.val (.ref rx), .val (.int vi), .val (.int vo), .val (.int vt), .val (.int vk), .val (.ref sa), .unset] [(.int vi), (.int vk), (.ref sa)])) _
        refine XS.iadd X0.here hx rfl (hb hby d_method_2_code_17) rfl ?_
        show Steps p.tables e below (s₁.setTop (mkF m 18 #[.val (.ref rx), .val (.int vi), .val (.int vo), .val (.int vt), .val (.int vk), .val (.ref sa), .unset] [(.int (vk + vi)), (.ref sa)])) _
        refine XS.iloadN X0.here hx rfl (hb hby d_method_2_code_18) rfl ?_
        show Steps p.tables e below (s₁.setTop (mkF m 19 #[.val (.ref rx), .val (.int vi), .val (.int vo), .val (.int vt), .val (.int vk), .val (.ref sa), .unset] [(.int vo), (.int (vk + vi)), (.ref sa)])) _
        refine XS.isub X0.here hx rfl (hb hby d_method_2_code_19) rfl ?_
        show Steps p.tables e below (s₁.setTop (mkF m 20 #[.val (.ref rx), .val (.int vi), .val (.int vo), .val (.int vt), .val (.int vk), .val (.ref sa), .unset] [(.int ((vk + vi) - vo)), (.ref sa)])) _
        refine st99.trans ?_
        show Steps p.tables e below (T99.setTop (mkF m 23 #[.val (.ref rx), .val (.int vi), .val (.int vo), .val (.int vt), .val (.int vk), .val (.ref sa), .unset] [(.int r99)])) _
        refine XS.goto X99.here hx rfl (pc0 := 23) (pc' := 27) rfl (hb hby d_method_2_code_23) (by decide) (by decide) ?_
        show Steps p.tables e below (T99.setTop (mkF m 27 #[.val (.ref rx), .val (.int vi), .val (.int vo), .val (.int vt), .val (.int vk), .val (.ref sa), .unset] [(.int r99)])) _
        refine XS.istore X99.here hx rfl (hb hby d_method_2_code_27) rfl (l' := #[.val (.ref rx), .val (.int vi), .val (.int vo), .val (.int vt), .val (.int vk), .val (.ref sa), .val (.int r99)]) rfl ?_
        show Steps p.tables e below (T99.setTop (mkF m 29 #[.val (.ref rx), .val (.int vi), .val (.int vo), .val (.int vt), .val (.int vk), .val (.ref sa), .val (.int r99)] [])) _
        refine XS.aloadN X99.here hx rfl (hb hby d_method_2_code_29) rfl rfl ?_
        show Steps p.tables e below (T99.setTop (mkF m 30 #[.val (.ref rx), .val (.int vi), .val (.int vo), .val (.int vt), .val (.int vk), .val (.ref sa), .val (.int r99)] [(.ref rx)])) _
        refine XS.iloadN X99.here hx rfl (hb hby d_method_2_code_30) rfl ?_
        show Steps p.tables e below (T99.setTop (mkF m 31 #[.val (.ref rx), .val (.int vi), .val (.int vo), .val (.int vt), .val (.int vk), .val (.ref sa), .val (.int r99)] [(.int vi), (.ref rx)])) _
        obtain ⟨cl100, Ar100, q100, S100, N100a, H100, G100⟩ := id Ax
        have hin100 : ¬ (vi < 0 ∨ cl100.slots.size ≤ (vi).toNatClampNeg) := inb_of S100 (hvi)
        have hat100 : cl100.slots[(vi).toNatClampNeg]? = some (.int (cs.getD (vi).toNatClampNeg 0)) := H100.at hin100 (own_getD cs _)
        refine X99.baloadBytes hx (j := vi) (v := (.int (cs.getD (vi).toNatClampNeg 0))) (by rw [e99]; exact Ar100.1) (State.isArrayOf_alike hZ.alike Ar100.2.1) Ar100.2.2 hin100 hat100 (g := (mkF m 31 #[.val (.ref rx), .val (.int vi), .val (.int vo), .val (.int vt), .val (.int vk), .val (.ref sa), .val (.int r99)] [(.int vi), (.ref rx)])) rfl rfl (hb hby d_method_2_code_31) _ ?_
        show Steps p.tables e below (T99.setTop (mkF m 32 #[.val (.ref rx), .val (.int vi), .val (.int vo), .val (.int vt), .val (.int vk), .val (.ref sa), .val (.int r99)] [(.int (cs.getD (vi).toNatClampNeg 0))])) _
        refine XS.iload X99.here hx rfl (hb hby d_method_2_code_32) rfl ?_
        show Steps p.tables e below (T99.setTop (mkF m 34 #[.val (.ref rx), .val (.int vi), .val (.int vo), .val (.int vt), .val (.int vk), .val (.ref sa), .val (.int r99)] [(.int r99), (.int (cs.getD (vi).toNatClampNeg 0))])) _
        refine XS.icmpNo X99.here hx rfl (hb hby d_method_2_code_34) rfl (teq ((hin h2_96 h9_98).2.trans hr99.symm : (cs.getD (vi).toNatClampNeg 0) = r99)).2 ?_
        show Steps p.tables e below (T99.setTop (mkF m 37 #[.val (.ref rx), .val (.int vi), .val (.int vo), .val (.int vt), .val (.int vk), .val (.ref sa), .val (.int r99)] [])) _
        refine XS.iconst X99.here hx rfl (hb hby d_method_2_code_37) ?_
        show Steps p.tables e below (T99.setTop (mkF m 38 #[.val (.ref rx), .val (.int vi), .val (.int vo), .val (.int vt), .val (.int vk), .val (.ref sa), .val (.int r99)] [(.int (1 : Int32))])) _
        refine XS.goto X99.here hx rfl (pc0 := 38) (pc' := 42) rfl (hb hby d_method_2_code_38) (by decide) (by decide) ?_
        show Steps p.tables e below (T99.setTop (mkF m 42 #[.val (.ref rx), .val (.int vi), .val (.int vo), .val (.int vt), .val (.int vk), .val (.ref sa), .val (.int r99)] [(.int (1 : Int32))])) _
        exact retN X99 hx (t := .boolean) Bd.returns (by simp) (hb hby d_method_2_code_42) hr
      · show Q_slot Z rx vi vo vt vk sa kx cs sb ks h0 n0 _ T99.heap _
        rw [e99]
        exact ⟨⟨_, rfl, rfl⟩, N99, rfl⟩
    · obtain ⟨fs, hr, hrun, hended, hW, hsame⟩ := X0.leave (v := some (.int (1 : Int32))) (fun h => by rw [Bd.returns] at h; cases h)
      refine ⟨_, _, pre0 _ ?_, hrun, hended, _, _, rfl, ?_, ⟨_, rfl⟩, hW, hsame.mono (by decide) (by decide)⟩
      · show Steps p.tables e below (s₁.setTop (mkF m 0 #[.val (.ref rx), .val (.int vi), .val (.int vo), .val (.int vt), .val (.int vk), .val (.ref sa), .unset] [])) _
        refine XS.iloadN X0.here hx rfl (hb hby d_method_2_code_0) rfl ?_
        show Steps p.tables e below (s₁.setTop (mkF m 1 #[.val (.ref rx), .val (.int vi), .val (.int vo), .val (.int vt), .val (.int vk), .val (.ref sa), .unset] [(.int vi)])) _
        refine XS.iloadN X0.here hx rfl (hb hby d_method_2_code_1) rfl ?_
        show Steps p.tables e below (s₁.setTop (mkF m 2 #[.val (.ref rx), .val (.int vi), .val (.int vo), .val (.int vt), .val (.int vk), .val (.ref sa), .unset] [(.int vo), (.int vi)])) _
        refine XS.icmpNo X0.here hx rfl (hb hby d_method_2_code_2) rfl (flt h2_96).1 ?_
        show Steps p.tables e below (s₁.setTop (mkF m 5 #[.val (.ref rx), .val (.int vi), .val (.int vo), .val (.int vt), .val (.int vk), .val (.ref sa), .unset] [])) _
        refine XS.iloadN X0.here hx rfl (hb hby d_method_2_code_5) rfl ?_
        show Steps p.tables e below (s₁.setTop (mkF m 6 #[.val (.ref rx), .val (.int vi), .val (.int vo), .val (.int vt), .val (.int vk), .val (.ref sa), .unset] [(.int vi)])) _
        refine XS.iloadN X0.here hx rfl (hb hby d_method_2_code_6) rfl ?_
        show Steps p.tables e below (s₁.setTop (mkF m 7 #[.val (.ref rx), .val (.int vi), .val (.int vo), .val (.int vt), .val (.int vk), .val (.ref sa), .unset] [(.int vo), (.int vi)])) _
        refine XS.iloadN X0.here hx rfl (hb hby d_method_2_code_7) rfl ?_
        show Steps p.tables e below (s₁.setTop (mkF m 8 #[.val (.ref rx), .val (.int vi), .val (.int vo), .val (.int vt), .val (.int vk), .val (.ref sa), .unset] [(.int vt), (.int vo), (.int vi)])) _
        refine XS.iadd X0.here hx rfl (hb hby d_method_2_code_8) rfl ?_
        show Steps p.tables e below (s₁.setTop (mkF m 9 #[.val (.ref rx), .val (.int vi), .val (.int vo), .val (.int vt), .val (.int vk), .val (.ref sa), .unset] [(.int (vo + vt)), (.int vi)])) _
        refine XS.icmpYes X0.here hx rfl (pc0 := 9) (pc' := 26) rfl (hb hby d_method_2_code_9) rfl (flt h9_98).2.1 (by decide) (by decide) ?_
        show Steps p.tables e below (s₁.setTop (mkF m 26 #[.val (.ref rx), .val (.int vi), .val (.int vo), .val (.int vt), .val (.int vk), .val (.ref sa), .unset] [])) _
        refine XS.iconst X0.here hx rfl (hb hby d_method_2_code_26) ?_
        show Steps p.tables e below (s₁.setTop (mkF m 27 #[.val (.ref rx), .val (.int vi), .val (.int vo), .val (.int vt), .val (.int vk), .val (.ref sa), .unset] [(.int (0 : Int32))])) _
        refine XS.istore X0.here hx rfl (hb hby d_method_2_code_27) rfl (l' := #[.val (.ref rx), .val (.int vi), .val (.int vo), .val (.int vt), .val (.int vk), .val (.ref sa), .val (.int (0 : Int32))]) rfl ?_
        show Steps p.tables e below (s₁.setTop (mkF m 29 #[.val (.ref rx), .val (.int vi), .val (.int vo), .val (.int vt), .val (.int vk), .val (.ref sa), .val (.int (0 : Int32))] [])) _
        refine XS.aloadN X0.here hx rfl (hb hby d_method_2_code_29) rfl rfl ?_
        show Steps p.tables e below (s₁.setTop (mkF m 30 #[.val (.ref rx), .val (.int vi), .val (.int vo), .val (.int vt), .val (.int vk), .val (.ref sa), .val (.int (0 : Int32))] [(.ref rx)])) _
        refine XS.iloadN X0.here hx rfl (hb hby d_method_2_code_30) rfl ?_
        show Steps p.tables e below (s₁.setTop (mkF m 31 #[.val (.ref rx), .val (.int vi), .val (.int vo), .val (.int vt), .val (.int vk), .val (.ref sa), .val (.int (0 : Int32))] [(.int vi), (.ref rx)])) _
        obtain ⟨cl101, Ar101, q101, S101, N101a, H101, G101⟩ := id Ax
        have hin101 : ¬ (vi < 0 ∨ cl101.slots.size ≤ (vi).toNatClampNeg) := inb_of S101 (hvi)
        have hat101 : cl101.slots[(vi).toNatClampNeg]? = some (.int (cs.getD (vi).toNatClampNeg 0)) := H101.at hin101 (own_getD cs _)
        refine X0.baloadBytes hx (j := vi) (v := (.int (cs.getD (vi).toNatClampNeg 0))) (by rw [e0]; exact Ar101.1) (State.isArrayOf_alike hZ.alike Ar101.2.1) Ar101.2.2 hin101 hat101 (g := (mkF m 31 #[.val (.ref rx), .val (.int vi), .val (.int vo), .val (.int vt), .val (.int vk), .val (.ref sa), .val (.int (0 : Int32))] [(.int vi), (.ref rx)])) rfl rfl (hb hby d_method_2_code_31) _ ?_
        show Steps p.tables e below (s₁.setTop (mkF m 32 #[.val (.ref rx), .val (.int vi), .val (.int vo), .val (.int vt), .val (.int vk), .val (.ref sa), .val (.int (0 : Int32))] [(.int (cs.getD (vi).toNatClampNeg 0))])) _
        refine XS.iload X0.here hx rfl (hb hby d_method_2_code_32) rfl ?_
        show Steps p.tables e below (s₁.setTop (mkF m 34 #[.val (.ref rx), .val (.int vi), .val (.int vo), .val (.int vt), .val (.int vk), .val (.ref sa), .val (.int (0 : Int32))] [(.int (0 : Int32)), (.int (cs.getD (vi).toNatClampNeg 0))])) _
        refine XS.icmpNo X0.here hx rfl (hb hby d_method_2_code_34) rfl (teq (hout (Or.inr h9_98) : (cs.getD (vi).toNatClampNeg 0) = (0 : Int32))).2 ?_
        show Steps p.tables e below (s₁.setTop (mkF m 37 #[.val (.ref rx), .val (.int vi), .val (.int vo), .val (.int vt), .val (.int vk), .val (.ref sa), .val (.int (0 : Int32))] [])) _
        refine XS.iconst X0.here hx rfl (hb hby d_method_2_code_37) ?_
        show Steps p.tables e below (s₁.setTop (mkF m 38 #[.val (.ref rx), .val (.int vi), .val (.int vo), .val (.int vt), .val (.int vk), .val (.ref sa), .val (.int (0 : Int32))] [(.int (1 : Int32))])) _
        refine XS.goto X0.here hx rfl (pc0 := 38) (pc' := 42) rfl (hb hby d_method_2_code_38) (by decide) (by decide) ?_
        show Steps p.tables e below (s₁.setTop (mkF m 42 #[.val (.ref rx), .val (.int vi), .val (.int vo), .val (.int vt), .val (.int vk), .val (.ref sa), .val (.int (0 : Int32))] [(.int (1 : Int32))])) _
        exact retN X0 hx (t := .boolean) Bd.returns (by simp) (hb hby d_method_2_code_42) hr
      · show Q_slot Z rx vi vo vt vk sa kx cs sb ks h0 n0 _ s₁.heap _
        rw [e0]
        exact ⟨⟨_, rfl, rfl⟩, N0, rfl⟩
/-- q signs of the 39 are read: where the buffer stands -/
def own_st (q : Int) (s e : Int32) : Prop := (0 ≤ q ∧ q < 39 ∧ s.toInt = q ∧ e.toInt = 39) ∨ (q = 39 ∧ s.toInt = 0 ∧ e.toInt = 0)
theorem own_st_b (q : Int) (s e : Int32) (h : own_st q s e) : 0 ≤ s.toInt ∧ s.toInt ≤ e.toInt ∧ e.toInt ≤ 1024 := by
  rcases h with h | h <;> omega
theorem own_st_r (q : Int) (s e vn z : Int32) (h : own_st q s e) (hp : own_rdp s e vn z) : 0 ≤ z.toInt ∧ z.toInt ≤ vn.toInt ∧ z.toInt ≤ 39 - q ∧ (z.toInt = vn.toInt ∨ z.toInt = 39 - q) := by
  obtain ⟨p1, p2, p3, p4⟩ := hp
  rcases h with h | h <;> refine ⟨p1, p2, ?_, ?_⟩ <;> omega
theorem own_st_s (q : Int) (s e vn z s' e' : Int32) (h : own_st q s e) (hp : own_rdp s e vn z) (hs : s' = own_s s e z) (he : e' = own_e s e z) : own_st (q + z.toInt) s' e' := by
  obtain ⟨p1, p2, p3, p4⟩ := hp
  have a := c_iadd s z
  have b := rng32 (s + z)
  have b2 := rng32 s
  have c : (s + z).toInt = s.toInt + z.toInt := by rcases h with h | h <;> omega
  subst hs he
  by_cases d : s + z = e
  · have d' : (s + z).toInt = e.toInt := by rw [d]
    rw [show own_s s e z = 0 from if_pos d, show own_e s e z = 0 from if_pos d]
    right; rw [show (0 : Int32).toInt = 0 from by decide]; rcases h with h | h <;> omega
  · have d' : (s + z).toInt ≠ e.toInt := fun q => d (Int32.toInt_inj.mp q)
    rw [show own_s s e z = s + z from if_neg d, show own_e s e z = e from if_neg d]
    left; rw [c]; rcases h with h | h <;> omega
theorem own_mineq (a b z r : Int32) (hz : z = if b < a then b else a) (h1 : r.toInt ≤ a.toInt) (h2 : r.toInt ≤ b.toInt) (h3 : r.toInt = a.toInt ∨ r.toInt = b.toInt) : r = z := by
  apply Int32.toInt_inj.mp
  rw [hz]
  by_cases q : b < a
  · rw [if_pos q]; rw [own_lt] at q; omega
  · rw [if_neg q]; rw [own_lt] at q; omega
theorem own_BD (k : Nat) (h : k < 39) : own_B1.getD k 0 = own_D.getD k 0 := by
  have hall : ∀ j : Fin 39, own_B1.getD j.1 0 = own_D.getD j.1 0 := by decide +kernel
  exact hall ⟨k, h⟩
theorem own_rep (n k : Nat) : (List.replicate n (0 : Int32)).getD k 0 = 0 := by
  rw [List.getD_eq_getElem?_getD, List.getElem?_replicate]; split <;> rfl
/-- what stands in an array that was read into -/
theorem own_got (n : Nat) (q : Int) (s e vo z : Int32) (k : Nat) (h : own_st q s e) (h0 : 0 ≤ vo.toInt) (hz0 : 0 ≤ z.toInt) (hz1 : z.toInt ≤ 39 - q) (hn : vo.toInt + z.toInt ≤ n) (hk : vo.toInt ≤ k) (hk2 : (k : Int) < vo.toInt + z.toInt) :
    (own_cp own_B1 (List.replicate n (0 : Int32)) (s).toNatClampNeg (vo).toNatClampNeg (z).toNatClampNeg).getD k 0 = own_D.getD (q + (k - vo.toInt)).toNat 0 := by
  have b := own_st_b q s e h
  have q1 := own_nat s b.1
  have q2 := own_nat vo h0
  have q3 := own_nat z hz0
  rw [own_cp_get _ _ _ _ _ _ (by rw [List.length_replicate]; omega), if_pos (by omega)]
  have hs : s.toInt = q := by rcases h with h | h <;> omega
  rw [own_BD _ (by omega)]
  congr 1; omega
theorem own_not (n : Nat) (s vo z : Int32) (k : Nat) (h0 : 0 ≤ vo.toInt) (hz0 : 0 ≤ z.toInt) (hn : vo.toInt + z.toInt ≤ n) (hk : (k : Int) < vo.toInt ∨ vo.toInt + z.toInt ≤ k) :
    (own_cp own_B1 (List.replicate n (0 : Int32)) (s).toNatClampNeg (vo).toNatClampNeg (z).toNatClampNeg).getD k 0 = 0 := by
  have q2 := own_nat vo h0
  have q3 := own_nat z hz0
  rw [own_cp_get _ _ _ _ _ _ (by rw [List.length_replicate]; omega), if_neg (by omega)]
  exact own_rep n k
theorem own_sub1 (r : Int32) (h0 : 0 < r.toInt) : (r - (1 : Int32)).toInt = r.toInt - 1 := by
  have a := c_isub r 1
  have b := rng32 (r - 1)
  have c := rng32 r
  rw [show (1 : Int32).toInt = 1 from by decide] at a
  omega
theorem own_pos (r : Int32) (h : (0 : Int32) < r) : 0 < r.toInt := by rw [own_lt, show (0 : Int32).toInt = 0 from by decide] at h; exact h
theorem own_i39 (v : Int32) (n : Int32) (h0 : 0 ≤ v.toInt) (h1 : v.toInt < n.toInt) : ¬ v < 0 ∧ v < n := ⟨own_nn v h0, by rw [own_lt]; exact h1⟩
/-- the numbers that the law draws -/
theorem own_bk (v : Int32) : 0 ≤ ((v &&& (2147483647 : Int32)) % (41 : Int32)).toInt ∧ ((v &&& (2147483647 : Int32)) % (41 : Int32)).toInt ≤ 40 := by
  have a1 := c_mask v 2147483647 31 (by decide) (by decide)
  simp only [Nat.reducePow] at a1
  have a2 := (c_irem (v &&& (2147483647 : Int32)) 41 41 (by decide)).1
  omega
theorem own_bo (v : Int32) : 0 ≤ (v &&& (7 : Int32)).toInt ∧ (v &&& (7 : Int32)).toInt ≤ 7 := by
  have a1 := c_mask v 7 3 (by decide) (by decide)
  simp only [Nat.reducePow] at a1
  omega
theorem own_9o (o : Int32) (h : 0 ≤ o.toInt ∧ o.toInt ≤ 7) : ((9 : Int32) - o).toInt = 9 - o.toInt := by
  have a := c_isub 9 o
  have b := rng32 ((9 : Int32) - o)
  rw [show (9 : Int32).toInt = 9 from by decide] at a
  omega
theorem own_9z (o : Int32) (h : 0 ≤ o.toInt ∧ o.toInt ≤ 7) : ((9 : Int32) - o) ≠ 0 := fun q => by
  have a := own_9o o h
  rw [q, show (0 : Int32).toInt = 0 from by decide] at a; omega
theorem own_bl (v o : Int32) (h : 0 ≤ o.toInt ∧ o.toInt ≤ 7) : 0 ≤ ((v &&& (2147483647 : Int32)) % ((9 : Int32) - o)).toInt ∧ o.toInt + ((v &&& (2147483647 : Int32)) % ((9 : Int32) - o)).toInt ≤ 8 := by
  have a1 := c_mask v 2147483647 31 (by decide) (by decide)
  simp only [Nat.reducePow] at a1
  have a2 := own_9o o h
  have a3 := (c_iremV (v &&& (2147483647 : Int32)) ((9 : Int32) - o)).1 (by omega) (by omega)
  omega
theorem own_39 (r : Int32) (h : 0 ≤ r.toInt ∧ r.toInt ≤ 39) : ((39 : Int32) - r).toInt = 39 - r.toInt := by
  have a := c_isub 39 r
  have b := rng32 ((39 : Int32) - r)
  rw [show (39 : Int32).toInt = 39 from by decide] at a
  omega
theorem own_39' (r t : Int32) (h : 0 ≤ r.toInt ∧ r.toInt ≤ 39) (g : 0 ≤ t.toInt ∧ t.toInt ≤ 39 - r.toInt) : (((39 : Int32) - r) - t).toInt = 39 - r.toInt - t.toInt := by
  have a := own_39 r h
  have b := c_isub ((39 : Int32) - r) t
  have c := rng32 (((39 : Int32) - r) - t)
  omega
/-- a slot's two cases -/
theorem own_sl (vi yo yt yr vs ve : Int32) (hi : 0 ≤ vi.toInt ∧ vi.toInt < 8) (ho : 0 ≤ yo.toInt ∧ yo.toInt ≤ 7) (ht : 0 ≤ yt.toInt ∧ yo.toInt + yt.toInt ≤ 8) (hr : 0 ≤ yr.toInt ∧ yr.toInt ≤ 39) (h : own_st yr.toInt vs ve) (hz : yt.toInt ≤ 39 - yr.toInt) :
    (¬ vi < yo → vi < (yo + yt) → (¬ ((yr + vi) - yo) < 0 ∧ ((yr + vi) - yo) < (39 : Int32)) ∧ (own_cp own_B1 (List.replicate 8 (0 : Int32)) (vs).toNatClampNeg (yo).toNatClampNeg (yt).toNatClampNeg).getD vi.toNatClampNeg 0 = own_D.getD ((yr + vi) - yo).toNatClampNeg 0) ∧
    ((vi < yo ∨ ¬ vi < (yo + yt)) → (own_cp own_B1 (List.replicate 8 (0 : Int32)) (vs).toNatClampNeg (yo).toNatClampNeg (yt).toNatClampNeg).getD vi.toNatClampNeg 0 = 0) := by
  have e1 := own_addn yo yt ho.1 (by omega) ht.1 (by omega)
  have e2 := own_addn yr vi hr.1 (by omega) hi.1 (by omega)
  have a := c_isub (yr + vi) yo
  have b := rng32 ((yr + vi) - yo)
  have nv := own_nat vi hi.1
  simp only [own_lt, e1]
  refine ⟨fun p1 p2 => ?_, fun p => ?_⟩
  · have e3 : ((yr + vi) - yo).toInt = yr.toInt + vi.toInt - yo.toInt := by omega
    have n3 := own_nat ((yr + vi) - yo) (by omega)
    refine ⟨⟨by rw [show (0 : Int32).toInt = 0 from by decide]; omega, by rw [show (39 : Int32).toInt = 39 from by decide]; omega⟩, ?_⟩
    rw [own_got 8 yr.toInt vs ve yo yt _ h ho.1 ht.1 hz (by omega) (by omega) (by omega)]
    congr 1; omega
  · exact own_not 8 vs yo yt _ ho.1 ht.1 (by omega) (by omega)
theorem own_C7v : own_C7.getD 0 0 = 60 ∧ own_C7.getD 1 0 = 97 ∧ own_C7.getD 2 0 = 62 ∧ own_C7.getD 3 0 = 60 ∧ own_C7.getD 4 0 = 47 ∧ own_C7.getD 7 0 = 10 := by decide +kernel
theorem own_nx (k : Nat) (h : k < 8) : (own_cp own_C7 (List.replicate 8 (0 : Int32)) ((0 : Int32)).toNatClampNeg ((0 : Int32)).toNatClampNeg ((8 : Int32)).toNatClampNeg).getD k 0 = own_C7.getD k 0 := by
  have e0 : ((0 : Int32)).toNatClampNeg = 0 := by decide
  have e8 : ((8 : Int32)).toNatClampNeg = 8 := by decide
  rw [e0, e8, own_cp_get _ _ _ _ _ _ (by rw [List.length_replicate]; omega), if_pos (by omega)]
  congr 1; omega
theorem pd_15 : parseMethodDescriptor "([BII)I" = some ⟨[(.array .byte), .int, .int], some .int⟩ := by decide +kernel
theorem pd_16 : parseMethodDescriptor "([BIIIILjava/lang/String;)Z" = some ⟨[(.array .byte), .int, .int, .int, .int, (.object "java/lang/String")], some .boolean⟩ := by decide +kernel
theorem pd_17 : parseMethodDescriptor "(Ljava/lang/String;Ljava/lang/CharSequence;)Lcom/example/sealwright/sealwright/io/XmlWriter;" = some ⟨[(.object "java/lang/String"), (.object "java/lang/CharSequence")], some (.object "com/example/sealwright/sealwright/io/XmlWriter")⟩ := by decide +kernel
theorem ef_law (m : MethodId) (vp : Int32) (va : Int32) (vb : Int32) : entryFrame m #[(.int vp), (.int va), (.int vb)] maxLocals = mkF m 0 #[.val (.int vp), .val (.int va), .val (.int vb), .unset, .unset, .unset, .unset, .unset, .unset, .unset, .unset, .unset, .unset, .unset, .unset, .unset, .unset, .unset] [] := by first | (simp [entryFrame, mkF, argsToLocals, Value.category, maxLocals]; done) | rfl
def Q_law (Z : State) (vp : Int32) (va : Int32) (vb : Int32) (h0 : Heap) (n0 : Nat) (v : Option Value) (h : Heap) (L : List Loc) : Prop := v = some (.int 1) ∧ Fr n0 L
set_option maxRecDepth 65536 in
set_option maxHeartbeats 40000000 in
theorem rm_law (l : Launch) (Z : State) (a0 : Array Value) (hw : ∀ d ∈ tables_1, d.before a0 Z = true) (ws : List Jvm.Cond) (vp : Int32) (va : Int32) (vb : Int32) (h0 : Heap) (n0 : Nat) (Z0 : n0 ≤ h0.size) (G : own_G Z n0 h0) :
    MetFree l x (head1 (Jvm.Cond.code x code maxLocals ret :: ws) room_1) (fun a U => a = #[(.int vp), (.int va), (.int vb)] ∧ Z.Warmed39 U.vm ∧ U.heap = h0 ∧ CHv Z consts_1 U.vm h0) (fun _ _ _ _ _ => True) (fun _ U o U' => ∃ v L, o = .returned v ∧ Q_law Z vp va vb h0 n0 v U'.heap L ∧ CHr Z consts_1 U.vm U.heap U'.vm U'.heap ∧ ReturnedEndW U o U' L room_1.cells room_1.slots) := by
  refine MetFree.of_bodySF (plainFor_of_name pn_7) hisR ?_
  intro p e s m args below meth c s₁ Bd hml0 hP hK
  obtain ⟨rfl, hZ, hh, CH0⟩ := hP
  have hx := Bd.exec
  have hby := Bd.bytes
  have hml : c.maxLocals = 18 := hml0
  have hown : s.vm.findClass "com/example/sealwright/sealwright/io/XmlWriterReadPinLaw" = some m.cls := findClass_of_methodNamed Bd.named
  have hnm := (name_of_methodNamed Bd.named Bd.method).1
  have X0 : Stand p l e room_1 s m #[(.int vp), (.int va), (.int vb)] below meth c s₁ [] 0 0 := Stand.of_body Bd
  have e0 : s₁.heap = h0 := by rw [← hh, Bd.state]; rfl
  have N0 := Fr.nil n0
  have pre0 : ∀ t, Steps p.tables e below (s₁.setTop (mkF m 0 #[.val (.int vp), .val (.int va), .val (.int vb), .unset, .unset, .unset, .unset, .unset, .unset, .unset, .unset, .unset, .unset, .unset, .unset, .unset, .unset, .unset] [])) t → Steps p.tables e below (s₁.setTop (entryFrame m #[(.int vp), (.int va), (.int vb)] maxLocals)) t := fun t k => castTop (ef_law m vp va vb) k
  have XH : Stand p l e room_1 (s.setVm s.vm) m #[(.int vp), (.int va), (.int vb)] below meth c s₁ [] 0 0 := X0
  have hS0 : s.Since s.vm 0 := (State.WarmedH.refl s).since 0
  have kl0 : 0 ≤ h0.size := Nat.zero_le _
  have CR0 : CHr Z consts_1 s.vm h0 s.vm h0 := CHr.refl CH0
  obtain ⟨yk, hyk⟩ : ∃ z, z = ((vp &&& (2147483647 : Int32)) % (41 : Int32)) := ⟨_, rfl⟩
  obtain ⟨yo, hyo⟩ : ∃ z, z = (va &&& (7 : Int32)) := ⟨_, rfl⟩
  obtain ⟨yl, hyl⟩ : ∃ z, z = ((vb &&& (2147483647 : Int32)) % ((9 : Int32) - yo)) := ⟨_, rfl⟩
  have hbk := own_bk vp
  rw [← hyk] at hbk
  have hbo := own_bo va
  rw [← hyo] at hbo
  have hbl := own_bl vb yo hbo
  rw [← hyl] at hbl
  have u39 : (39 : Int32).toInt = 39 := by decide
  have u0 : (0 : Int32).toInt = 0 := by decide
  have u41 : (41 : Int32).toInt = 41 := by decide
  have u8 : (8 : Int32).toInt = 8 := by decide
  have hst0 : own_st 0 (0 : Int32) (39 : Int32) := Or.inl ⟨by decide, by decide, u0, u39⟩
  obtain ⟨sa102, T102, h102, k102, sb102, ks102, X102, e102, E102, hS102, kq102, hZ102, hown102, Es_102, Fc_102, Fv_102, As_102, la102, lb102, CL102, Lt102, SF102, st102⟩ := ldcCH XH hx hZ hown (hw _ (List.mem_of_getElem? (i := 0) rfl)) (own_wS hw) e0 hS0 kl0 (own_EW hw) (List.mem_of_getElem? (i := 5) rfl) CR0.1 (vs := own_D.map Value.int) (z := (39 : Int32)) own_D_t (by decide) (by decide) (g := (mkF m 0 #[.val (.int vp), .val (.int va), .val (.int vb), .unset, .unset, .unset, .unset, .unset, .unset, .unset, .unset, .unset, .unset, .unset, .unset, .unset, .unset, .unset] [])) rfl (hb hby at_0) (n := 156) (by decide) (by decide) (by decide) (by decide)
  have G_c102 := own_G.ext G E102
  have CR102 := CR0.trans (CHr.ext E102 CR0.1)
  have kl102 := Nat.le_trans kl0 E102.1
  have CX102 := CR0.trans CL102
  have Z102 : n0 ≤ h102.size := Nat.le_trans Z0 E102.1
  obtain ⟨T103, h103, k103, X103, e103, E103, A103, st103⟩ := newP X102 hx hZ102 (hw _ (List.mem_of_getElem? (i := 3) rfl)) e102 (g := (mkF m 5 #[.val (.int vp), .val (.int va), .val (.int vb), .val (.ref sa102), .unset, .unset, .unset, .unset, .unset, .unset, .unset, .unset, .unset, .unset, .unset, .unset, .unset, .unset] [(.int (41 : Int32))])) rfl (hb hby at_5) rfl (by decide) (cap := 41) (by decide) (by decide) (by decide) (by decide)
  obtain ⟨b103, g103⟩ : ∃ z, z = h102.size := ⟨_, rfl⟩
  rw [← g103] at A103 st103
  have g_b103 : n0 ≤ b103 := Nat.le_trans Z102 (Nat.le_of_eq g103.symm)
  have G_c103 := own_G.ext G_c102 E103
  have Es_102_c103 := Es_102.ext E103
  have Fc_102_c103 := Fc_102.ext E103
  have Fv_102_c103 := Fv_102.ext E103
  have As_102_c103 := As_102.ext E103
  have CR103 := CX102.trans (CHr.ext E103 CX102.1)
  have kl103 := Nat.le_trans kq102 E103.1
  have Z103 : n0 ≤ h103.size := Nat.le_trans Z102 E103.1
  have Av_b103_103 : Arv Z h103 b103 k103 .byte (41 : Int32) ((List.replicate 41 (0 : Int32)).map Value.int) (.int (0 : Int32)) := by rw [List.map_replicate]; exact (Arv.new A103 (by decide)).pad (pad_rep [] (.int (0 : Int32)) 41)
  obtain ⟨T104, h104, k104, X104, e104, E104, A104, st104⟩ := newP X103 hx hZ102 (hw _ (List.mem_of_getElem? (i := 3) rfl)) e103 (g := (mkF m 11 #[.val (.int vp), .val (.int va), .val (.int vb), .val (.ref sa102), .val (.ref b103), .unset, .unset, .unset, .unset, .unset, .unset, .unset, .unset, .unset, .unset, .unset, .unset, .unset] [(.int (8 : Int32))])) rfl (hb hby at_11) rfl (by decide) (cap := 8) (by decide) (by decide) (by decide) (by decide)
  obtain ⟨b104, g104⟩ : ∃ z, z = h103.size := ⟨_, rfl⟩
  rw [← g104] at A104 st104
  have ne_b103_b104 : b103 ≠ b104 := Nat.ne_of_lt (Nat.lt_of_lt_of_le Av_b103_103.lt (Nat.le_of_eq g104.symm))
  have g_b104 : n0 ≤ b104 := Nat.le_trans Z103 (Nat.le_of_eq g104.symm)
  have G_c104 := own_G.ext G_c103 E104
  have Es_102_c104 := Es_102_c103.ext E104
  have Fc_102_c104 := Fc_102_c103.ext E104
  have Fv_102_c104 := Fv_102_c103.ext E104
  have As_102_c104 := As_102_c103.ext E104
  have Av_b103_103_c104 := Av_b103_103.ext E104
  have CR104 := CR103.trans (CHr.ext E104 CR103.1)
  have kl104 := Nat.le_trans kl103 E104.1
  have Z104 : n0 ≤ h104.size := Nat.le_trans Z103 E104.1
  have Av_b104_104 : Arv Z h104 b104 k104 .byte (8 : Int32) ((List.replicate 8 (0 : Int32)).map Value.int) (.int (0 : Int32)) := by rw [List.map_replicate]; exact (Arv.new A104 (by decide)).pad (pad_rep [] (.int (0 : Int32)) 8)
  obtain ⟨T105, h105, k105, X105, e105, E105, A105, st105⟩ := newP X104 hx hZ102 (hw _ (List.mem_of_getElem? (i := 3) rfl)) e104 (g := (mkF m 17 #[.val (.int vp), .val (.int va), .val (.int vb), .val (.ref sa102), .val (.ref b103), .val (.ref b104), .unset, .unset, .unset, .unset, .unset, .unset, .unset, .unset, .unset, .unset, .unset, .unset] [(.int (41 : Int32))])) rfl (hb hby at_17) rfl (by decide) (cap := 41) (by decide) (by decide) (by decide) (by decide)
  obtain ⟨b105, g105⟩ : ∃ z, z = h104.size := ⟨_, rfl⟩
  rw [← g105] at A105 st105
  have ne_b103_b105 : b103 ≠ b105 := Nat.ne_of_lt (Nat.lt_of_lt_of_le Av_b103_103_c104.lt (Nat.le_of_eq g105.symm))
  have ne_b104_b105 : b104 ≠ b105 := Nat.ne_of_lt (Nat.lt_of_lt_of_le Av_b104_104.lt (Nat.le_of_eq g105.symm))
  have g_b105 : n0 ≤ b105 := Nat.le_trans Z104 (Nat.le_of_eq g105.symm)
  have G_c105 := own_G.ext G_c104 E105
  have Es_102_c105 := Es_102_c104.ext E105
  have Fc_102_c105 := Fc_102_c104.ext E105
  have Fv_102_c105 := Fv_102_c104.ext E105
  have As_102_c105 := As_102_c104.ext E105
  have Av_b103_103_c105 := Av_b103_103_c104.ext E105
  have Av_b104_104_c105 := Av_b104_104.ext E105
  have CR105 := CR104.trans (CHr.ext E105 CR104.1)
  have kl105 := Nat.le_trans kl104 E105.1
  have Z105 : n0 ≤ h105.size := Nat.le_trans Z104 E105.1
  have Av_b105_105 : Arv Z h105 b105 k105 .byte (41 : Int32) ((List.replicate 41 (0 : Int32)).map Value.int) (.int (0 : Int32)) := by rw [List.map_replicate]; exact (Arv.new A105 (by decide)).pad (pad_rep [] (.int (0 : Int32)) 41)
  obtain ⟨T106, h106, k106, X106, e106, E106, A106, st106⟩ := newP X105 hx hZ102 (hw _ (List.mem_of_getElem? (i := 3) rfl)) e105 (g := (mkF m 23 #[.val (.int vp), .val (.int va), .val (.int vb), .val (.ref sa102), .val (.ref b103), .val (.ref b104), .val (.ref b105), .unset, .unset, .unset, .unset, .unset, .unset, .unset, .unset, .unset, .unset, .unset] [(.int (41 : Int32))])) rfl (hb hby at_23) rfl (by decide) (cap := 41) (by decide) (by decide) (by decide) (by decide)
  obtain ⟨b106, g106⟩ : ∃ z, z = h105.size := ⟨_, rfl⟩
  rw [← g106] at A106 st106
  have ne_b103_b106 : b103 ≠ b106 := Nat.ne_of_lt (Nat.lt_of_lt_of_le Av_b103_103_c105.lt (Nat.le_of_eq g106.symm))
  have ne_b104_b106 : b104 ≠ b106 := Nat.ne_of_lt (Nat.lt_of_lt_of_le Av_b104_104_c105.lt (Nat.le_of_eq g106.symm))
  have ne_b105_b106 : b105 ≠ b106 := Nat.ne_of_lt (Nat.lt_of_lt_of_le Av_b105_105.lt (Nat.le_of_eq g106.symm))
  have g_b106 : n0 ≤ b106 := Nat.le_trans Z105 (Nat.le_of_eq g106.symm)
  have G_c106 := own_G.ext G_c105 E106
  have Es_102_c106 := Es_102_c105.ext E106
  have Fc_102_c106 := Fc_102_c105.ext E106
  have Fv_102_c106 := Fv_102_c105.ext E106
  have As_102_c106 := As_102_c105.ext E106
  have Av_b103_103_c106 := Av_b103_103_c105.ext E106
  have Av_b104_104_c106 := Av_b104_104_c105.ext E106
  have Av_b105_105_c106 := Av_b105_105.ext E106
  have CR106 := CR105.trans (CHr.ext E106 CR105.1)
  have kl106 := Nat.le_trans kl105 E106.1
  have Z106 : n0 ≤ h106.size := Nat.le_trans Z105 E106.1
  have Av_b106_106 : Arv Z h106 b106 k106 .byte (41 : Int32) ((List.replicate 41 (0 : Int32)).map Value.int) (.int (0 : Int32)) := by rw [List.map_replicate]; exact (Arv.new A106 (by decide)).pad (pad_rep [] (.int (0 : Int32)) 41)
  obtain ⟨T107, h107, k107, X107, e107, E107, A107, st107⟩ := newP X106 hx hZ102 (hw _ (List.mem_of_getElem? (i := 3) rfl)) e106 (g := (mkF m 29 #[.val (.int vp), .val (.int va), .val (.int vb), .val (.ref sa102), .val (.ref b103), .val (.ref b104), .val (.ref b105), .val (.ref b106), .unset, .unset, .unset, .unset, .unset, .unset, .unset, .unset, .unset, .unset] [(.int (8 : Int32))])) rfl (hb hby at_29) rfl (by decide) (cap := 8) (by decide) (by decide) (by decide) (by decide)
  obtain ⟨b107, g107⟩ : ∃ z, z = h106.size := ⟨_, rfl⟩
  rw [← g107] at A107 st107
  have ne_b103_b107 : b103 ≠ b107 := Nat.ne_of_lt (Nat.lt_of_lt_of_le Av_b103_103_c106.lt (Nat.le_of_eq g107.symm))
  have ne_b104_b107 : b104 ≠ b107 := Nat.ne_of_lt (Nat.lt_of_lt_of_le Av_b104_104_c106.lt (Nat.le_of_eq g107.symm))
  have ne_b105_b107 : b105 ≠ b107 := Nat.ne_of_lt (Nat.lt_of_lt_of_le Av_b105_105_c106.lt (Nat.le_of_eq g107.symm))
  have ne_b106_b107 : b106 ≠ b107 := Nat.ne_of_lt (Nat.lt_of_lt_of_le Av_b106_106.lt (Nat.le_of_eq g107.symm))
  have g_b107 : n0 ≤ b107 := Nat.le_trans Z106 (Nat.le_of_eq g107.symm)
  have G_c107 := own_G.ext G_c106 E107
  have Es_102_c107 := Es_102_c106.ext E107
  have Fc_102_c107 := Fc_102_c106.ext E107
  have Fv_102_c107 := Fv_102_c106.ext E107
  have As_102_c107 := As_102_c106.ext E107
  have Av_b103_103_c107 := Av_b103_103_c106.ext E107
  have Av_b104_104_c107 := Av_b104_104_c106.ext E107
  have Av_b105_105_c107 := Av_b105_105_c106.ext E107
  have Av_b106_106_c107 := Av_b106_106.ext E107
  have CR107 := CR106.trans (CHr.ext E107 CR106.1)
  have kl107 := Nat.le_trans kl106 E107.1
  have Z107 : n0 ≤ h107.size := Nat.le_trans Z106 E107.1
  have Av_b107_107 : Arv Z h107 b107 k107 .byte (8 : Int32) ((List.replicate 8 (0 : Int32)).map Value.int) (.int (0 : Int32)) := by rw [List.map_replicate]; exact (Arv.new A107 (by decide)).pad (pad_rep [] (.int (0 : Int32)) 8)
  obtain ⟨T108, h108, X108, e108, E108, A108, D108, -, st108⟩ := newO X107 hx hZ102 hown102 (hw _ (List.mem_of_getElem? (i := 9) rfl)) (hw _ (List.mem_of_getElem? (i := 10) rfl)) (hw _ (List.mem_of_getElem? (i := 11) rfl)) e107 (g := (mkF m 60 #[.val (.int vp), .val (.int va), .val (.int vb), .val (.ref sa102), .val (.ref b103), .val (.ref b104), .val (.ref b105), .val (.ref b106), .val (.ref b107), .val (.int yk), .val (.int yo), .val (.int yl), .unset, .unset, .unset, .unset, .unset, .unset] [])) rfl (hb hby at_60) (by decide) (by decide)
  obtain ⟨b108, g108⟩ : ∃ z, z = h107.size := ⟨_, rfl⟩
  rw [← g108] at A108 D108 st108
  have ne_b103_b108 : b103 ≠ b108 := Nat.ne_of_lt (Nat.lt_of_lt_of_le Av_b103_103_c107.lt (Nat.le_of_eq g108.symm))
  have ne_b104_b108 : b104 ≠ b108 := Nat.ne_of_lt (Nat.lt_of_lt_of_le Av_b104_104_c107.lt (Nat.le_of_eq g108.symm))
  have ne_b105_b108 : b105 ≠ b108 := Nat.ne_of_lt (Nat.lt_of_lt_of_le Av_b105_105_c107.lt (Nat.le_of_eq g108.symm))
  have ne_b106_b108 : b106 ≠ b108 := Nat.ne_of_lt (Nat.lt_of_lt_of_le Av_b106_106_c107.lt (Nat.le_of_eq g108.symm))
  have ne_b107_b108 : b107 ≠ b108 := Nat.ne_of_lt (Nat.lt_of_lt_of_le Av_b107_107.lt (Nat.le_of_eq g108.symm))
  have g_b108 : n0 ≤ b108 := Nat.le_trans Z107 (Nat.le_of_eq g108.symm)
  have G_c108 := own_G.ext G_c107 E108
  have Es_102_c108 := Es_102_c107.ext E108
  have Fc_102_c108 := Fc_102_c107.ext E108
  have Fv_102_c108 := Fv_102_c107.ext E108
  have As_102_c108 := As_102_c107.ext E108
  have Av_b103_103_c108 := Av_b103_103_c107.ext E108
  have Av_b104_104_c108 := Av_b104_104_c107.ext E108
  have Av_b105_105_c108 := Av_b105_105_c107.ext E108
  have Av_b106_106_c108 := Av_b106_106_c107.ext E108
  have Av_b107_107_c108 := Av_b107_107.ext E108
  have CR108 := CR107.trans (CHr.ext E108 CR107.1)
  have kl108 := Nat.le_trans kl107 E108.1
  have Z108 : n0 ≤ h108.size := Nat.le_trans Z107 E108.1
  have Ex_b108_108 := A108
  have Fd_bytes_b108_108 : Fld Z h108 b108 "com/example/sealwright/sealwright/io/XmlWriter" "bytes" "[B" .null := D108 (Or.inl (hw _ (List.mem_of_getElem? (i := 19) rfl))) (ty := (.array .byte)) (by decide)
  have Fd_open_b108_108 : Fld Z h108 b108 "com/example/sealwright/sealwright/io/XmlWriter" "open" "Ljava/util/Deque;" .null := D108 (Or.inr (hw _ (List.mem_of_getElem? (i := 38) rfl))) (ty := (.object "java/util/Deque")) (by decide)
  have Fd_end_b108_108 : Fld Z h108 b108 "com/example/sealwright/sealwright/io/XmlWriter" "end" "I" (.int (0 : Int32)) := D108 (Or.inl (hw _ (List.mem_of_getElem? (i := 89) rfl))) (ty := .int) (by decide)
  have Fd_start_b108_108 : Fld Z h108 b108 "com/example/sealwright/sealwright/io/XmlWriter" "start" "I" (.int (0 : Int32)) := D108 (Or.inl (hw _ (List.mem_of_getElem? (i := 96) rfl))) (ty := .int) (by decide)
  obtain ⟨_, _, ⟨T109, L109, k109, n109⟩, -, Xa109, Sa109, gr109, ⟨Lc109, hQ109, l109, y109, z109, CL109⟩, st109⟩ := X108.specialBackS hx (y := (⟨"com/example/sealwright/sealwright/io/XmlWriter", "<init>", "()V"⟩ : MethodName)) rfl hown102 (mvT hZ102 (hw _ (List.mem_of_getElem? (i := 12) rfl))) (mvT hZ102 (hw _ (List.mem_of_getElem? (i := 13) rfl))) (mvT hZ102 (hw _ (List.mem_of_getElem? (i := 14) rfl))) (by decide) (backOfSH (W := 1) (rm_xini l Z a0 hw [] b108 h108 n0 Z108 Ex_b108_108 Fd_bytes_b108_108 Fd_start_b108_108 Fd_end_b108_108 Fd_open_b108_108 g_b108 G_c108) hZ102 (hw _ (List.mem_of_getElem? (i := 14) rfl)) (hw _ (List.mem_of_getElem? (i := 11) rfl)) (by decide) (by decide) (own_EW hw) CR108.1) (g := (mkF m 64 #[.val (.int vp), .val (.int va), .val (.int vb), .val (.ref sa102), .val (.ref b103), .val (.ref b104), .val (.ref b105), .val (.ref b106), .val (.ref b107), .val (.int yk), .val (.int yo), .val (.int yl), .unset, .unset, .unset, .unset, .unset, .unset] [(.ref b108), (.ref b108)])) rfl (by rw [hml]; rfl) (Steps.refl _) (a := b108) (argsL := []) (rest := [(.ref b108)]) (lenOf pd_8 rfl) rfl (by show 2 * 0 + _ ≤ _; exact Nat.le_of_eq rfl) (hb hby at_64) (fun _ _ => ⟨rfl, e108, (by decide : 8 + 5 ≤ _), (by decide : 303 + 1204 ≤ _)⟩)
  dsimp only [Pt.U, Pt.locs, Pt.cells, Pt.slots] at Xa109 Sa109 gr109 l109 y109 z109 st109 hQ109 CL109
  subst l109 y109 z109
  obtain ⟨X109, hS109, hZ109, hown109⟩ := rebS hS102 (n1 := T108.heap.size) (by rw [e108]; exact kl108) Xa109 Sa109 gr109 hZ102 hown102
  obtain ⟨rfl, N109q, K109, ⟨rb109, rd109, kb109, re109, ke109, ⟨Eq_109, Fb_109, Fs_109, Fe_109, Fo_109, Aq_109⟩, ⟨Ed_109, Fl_109, Ft_109, Fh_109, Al_109⟩, cg109, ub109, ud109, ue109⟩⟩ := hQ109
  have N109 := Fr.app N0 N109q
  have G_c109 := own_G.keep G_c108 K109 (allS g_b108 all0)
  have Es_102_c109 := Es_102_c108.keep K109
  have Fc_102_c109 := Fc_102_c108.keep K109 (ninS (Exa.ne Es_102_c108 Ex_b108_108 (by decide)) nin0)
  have Fv_102_c109 := Fv_102_c108.keep K109 (ninS (Exa.ne Es_102_c108 Ex_b108_108 (by decide)) nin0)
  have As_102_c109 := As_102_c108.keep K109 (ninS (Ne.symm (Exa.neArv Ex_b108_108 As_102_c108 (hw _ (List.mem_of_getElem? (i := 10) rfl)))) nin0)
  have Av_b103_103_c109 := Av_b103_103_c108.keep K109 (ninS ne_b103_b108 nin0)
  have Av_b104_104_c109 := Av_b104_104_c108.keep K109 (ninS ne_b104_b108 nin0)
  have Av_b105_105_c109 := Av_b105_105_c108.keep K109 (ninS ne_b105_b108 nin0)
  have Av_b106_106_c109 := Av_b106_106_c108.keep K109 (ninS ne_b106_b108 nin0)
  have Av_b107_107_c109 := Av_b107_107_c108.keep K109 (ninS ne_b107_b108 nin0)
  have Ex_b108_108_c109 := Ex_b108_108.keep K109
  have CR109 := CR108.trans CL109
  have kl109 : T109.heap.size ≤ T109.heap.size := Nat.le_refl _
  have Z109 : n0 ≤ T109.heap.size := Nat.le_trans Z108 K109.1
  have ne_b103_rb109 : b103 ≠ rb109 := Nat.ne_of_lt (Nat.lt_of_lt_of_le Av_b103_103_c108.lt ub109)
  have ne_b104_rb109 : b104 ≠ rb109 := Nat.ne_of_lt (Nat.lt_of_lt_of_le Av_b104_104_c108.lt ub109)
  have ne_b105_rb109 : b105 ≠ rb109 := Nat.ne_of_lt (Nat.lt_of_lt_of_le Av_b105_105_c108.lt ub109)
  have ne_b106_rb109 : b106 ≠ rb109 := Nat.ne_of_lt (Nat.lt_of_lt_of_le Av_b106_106_c108.lt ub109)
  have ne_b107_rb109 : b107 ≠ rb109 := Nat.ne_of_lt (Nat.lt_of_lt_of_le Av_b107_107_c108.lt ub109)
  have ne_b108_rb109 : b108 ≠ rb109 := Nat.ne_of_lt (Nat.lt_of_lt_of_le Ex_b108_108.lt ub109)
  have ne_b103_rd109 : b103 ≠ rd109 := Nat.ne_of_lt (Nat.lt_of_lt_of_le Av_b103_103_c108.lt ud109)
  have ne_b104_rd109 : b104 ≠ rd109 := Nat.ne_of_lt (Nat.lt_of_lt_of_le Av_b104_104_c108.lt ud109)
  have ne_b105_rd109 : b105 ≠ rd109 := Nat.ne_of_lt (Nat.lt_of_lt_of_le Av_b105_105_c108.lt ud109)
  have ne_b106_rd109 : b106 ≠ rd109 := Nat.ne_of_lt (Nat.lt_of_lt_of_le Av_b106_106_c108.lt ud109)
  have ne_b107_rd109 : b107 ≠ rd109 := Nat.ne_of_lt (Nat.lt_of_lt_of_le Av_b107_107_c108.lt ud109)
  have ne_b108_rd109 : b108 ≠ rd109 := Nat.ne_of_lt (Nat.lt_of_lt_of_le Ex_b108_108.lt ud109)
  have ne_b103_re109 : b103 ≠ re109 := Nat.ne_of_lt (Nat.lt_of_lt_of_le Av_b103_103_c108.lt ue109)
  have ne_b104_re109 : b104 ≠ re109 := Nat.ne_of_lt (Nat.lt_of_lt_of_le Av_b104_104_c108.lt ue109)
  have ne_b105_re109 : b105 ≠ re109 := Nat.ne_of_lt (Nat.lt_of_lt_of_le Av_b105_105_c108.lt ue109)
  have ne_b106_re109 : b106 ≠ re109 := Nat.ne_of_lt (Nat.lt_of_lt_of_le Av_b106_106_c108.lt ue109)
  have ne_b107_re109 : b107 ≠ re109 := Nat.ne_of_lt (Nat.lt_of_lt_of_le Av_b107_107_c108.lt ue109)
  have ne_b108_re109 : b108 ≠ re109 := Nat.ne_of_lt (Nat.lt_of_lt_of_le Ex_b108_108.lt ue109)
  obtain ⟨cq110, kq110, q110a, q110b, q110c⟩ := isOf hZ109 rfl Eq_109
  obtain ⟨_, _, ⟨T110, L110, k110, n110⟩, -, X110, ⟨Lc110, hQ110, l110, y110, z110⟩, st110⟩ := X109.virtualBack hx (y := (⟨"com/example/sealwright/sealwright/io/XmlWriter", "read", "([BII)I"⟩ : MethodName)) (z := (⟨"com/example/sealwright/sealwright/io/XmlWriter", "read", "([BII)I"⟩ : MethodName)) hown109 (mvT hZ109 (hw _ (List.mem_of_getElem? (i := 90) rfl))) (mvT hZ109 (hw _ (List.mem_of_getElem? (i := 91) rfl))) (notFace_of_selects (args := #[]) (mvT hZ109 (hw _ (List.mem_of_getElem? (i := 93) rfl)))) (mvT hZ109 (hw _ (List.mem_of_getElem? (i := 93) rfl))) (mvT hZ109 (hw _ (List.mem_of_getElem? (i := 92) rfl))) (by decide) (backOf (W := 0) (rm_read l Z a0 hw [] b108 b103 (0 : Int32) yk rb109 rd109 kb109 (0 : Int32) (39 : Int32) own_B1 k103 (41 : Int32) (List.replicate 41 (0 : Int32)) T109.heap n0 Z109 ⟨Eq_109, Fb_109, Fs_109, Fe_109, Fo_109, Aq_109⟩ g_b108 cg109 Av_b103_103_c109 g_b103 ne_b103_rb109 (by rw [List.length_replicate]; decide) (own_st_b _ _ _ hst0) (by decide) hbk.1 (by rw [u0, u41]; omega)) hZ109 (hw _ (List.mem_of_getElem? (i := 94) rfl)) (hw _ (List.mem_of_getElem? (i := 11) rfl)) (by decide) (by decide)) q110a q110c (g := (mkF m 76 #[.val (.int vp), .val (.int va), .val (.int vb), .val (.ref sa102), .val (.ref b103), .val (.ref b104), .val (.ref b105), .val (.ref b106), .val (.ref b107), .val (.int yk), .val (.int yo), .val (.int yl), .val (.ref b108), .unset, .unset, .unset, .unset, .unset] [(.int yk), (.int (0 : Int32)), (.ref b103), (.ref b108)])) rfl (by rw [hml]; rfl) (Steps.refl _) (argsL := [(.ref b103), (.int (0 : Int32)), (.int yk)]) (rest := []) (lenOf pd_15 rfl) rfl (by show 2 * 0 + _ ≤ _; exact Nat.le_of_eq rfl) (hb hby at_76) (fun _ _ => ⟨rfl, rfl, (by decide : 13 + 0 ≤ _), (by decide : 1507 + 0 ≤ _)⟩)
  dsimp only [Pt.U, Pt.locs, Pt.cells, Pt.slots] at X110 l110 y110 z110 st110 hQ110
  subst l110 y110 z110
  obtain ⟨⟨r110, rfl, hr110⟩, N110q, K110⟩ := hQ110
  have N110 := Fr.app N109 N110q
  have G_c110 := own_G.keep G_c109 K110 (allS g_b108 (allS g_b103 all0))
  have Es_102_c110 := Es_102_c109.keep K110
  have Fc_102_c110 := Fc_102_c109.keep K110 (ninS (Exa.ne Es_102_c109 Eq_109 (by decide)) (ninS (Exa.neArv Es_102_c109 Av_b103_103_c109 (hw _ (List.mem_of_getElem? (i := 2) rfl))) nin0))
  have Fv_102_c110 := Fv_102_c109.keep K110 (ninS (Exa.ne Es_102_c109 Eq_109 (by decide)) (ninS (Exa.neArv Es_102_c109 Av_b103_103_c109 (hw _ (List.mem_of_getElem? (i := 2) rfl))) nin0))
  have As_102_c110 := As_102_c109.keep K110 (ninS (Ne.symm (Exa.neArv Eq_109 As_102_c109 (hw _ (List.mem_of_getElem? (i := 10) rfl)))) (ninS (arv_ne As_102_c109 Av_b103_103_c109 (Or.inl (by decide))) nin0))
  have Av_b104_104_c110 := Av_b104_104_c109.keep K110 (ninS ne_b104_b108 (ninS (Ne.symm ne_b103_b104) nin0))
  have Av_b105_105_c110 := Av_b105_105_c109.keep K110 (ninS ne_b105_b108 (ninS (Ne.symm ne_b103_b105) nin0))
  have Av_b106_106_c110 := Av_b106_106_c109.keep K110 (ninS ne_b106_b108 (ninS (Ne.symm ne_b103_b106) nin0))
  have Av_b107_107_c110 := Av_b107_107_c109.keep K110 (ninS ne_b107_b108 (ninS (Ne.symm ne_b103_b107) nin0))
  have Eq_109_c110 := Eq_109.keep K110
  have Aq_109_c110 := Aq_109.keep K110 (ninS (Ne.symm ne_b108_rb109) (ninS (Ne.symm ne_b103_rb109) nin0))
  have Ed_109_c110 := Ed_109.keep K110
  have Fl_109_c110 := Fl_109.keep K110 (ninS (Ne.symm ne_b108_rd109) (ninS (Ne.symm ne_b103_rd109) nin0))
  have Ft_109_c110 := Ft_109.keep K110 (ninS (Ne.symm ne_b108_rd109) (ninS (Ne.symm ne_b103_rd109) nin0))
  have Fh_109_c110 := Fh_109.keep K110 (ninS (Ne.symm ne_b108_rd109) (ninS (Ne.symm ne_b103_rd109) nin0))
  have Al_109_c110 := Al_109.keep K110 (ninS (Ne.symm ne_b108_re109) (ninS (Ne.symm ne_b103_re109) nin0))
  have CR110 := CR109.trans (CHr.keep K110 (sfS (Safe.exa hZ109.alike Eq_109 (by decide) (by decide)) (sfS (own_safe hZ109 (own_EWl hw) Av_b103_103_c109 (by decide)) sf0)) CR109.1)
  have kl110 := Nat.le_trans kl109 K110.1
  have Z110 : n0 ≤ T110.heap.size := Nat.le_trans Z109 K110.1
  obtain ⟨hp110, ⟨Eq_110, Fb_110, Fs_110, Fe_110, Fo_110, Aq_110⟩, Ax_110⟩ := hr110
  obtain ⟨vs110, hvs110⟩ : ∃ z, z = own_s (0 : Int32) (39 : Int32) r110 := ⟨_, rfl⟩
  obtain ⟨ve110, hve110⟩ : ∃ z, z = own_e (0 : Int32) (39 : Int32) r110 := ⟨_, rfl⟩
  rw [← hvs110] at Fs_110
  rw [← hve110] at Fe_110
  have hst1 := own_st_s _ _ _ _ _ _ _ hst0 hp110 hvs110 hve110
  have hr1_ := own_st_r _ _ _ _ _ hst0 hp110
  obtain ⟨_, _, ⟨T111, L111, k111, n111⟩, -, X111, ⟨Lc111, hQ111, l111, y111, z111⟩, st111⟩ := Jvm.LawKit.callS X110 hx (y := (⟨"java/lang/Math", "min", "(II)I"⟩ : MethodName)) hown109 (mvT hZ109 (hw _ (List.mem_of_getElem? (i := 105) rfl))) (mvT hZ109 (hw _ (List.mem_of_getElem? (i := 98) rfl))) (mvT hZ109 (hw _ (List.mem_of_getElem? (i := 99) rfl))) (mvT hZ109 (hw _ (List.mem_of_getElem? (i := 100) rfl))) (by decide) (backOf (W := 1) (rm_min l Z a0 hw [] yk (39 : Int32) T110.heap n0 Z110 ) hZ109 (hw _ (List.mem_of_getElem? (i := 100) rfl)) (hw _ (List.mem_of_getElem? (i := 99) rfl)) (by decide) (by decide)) (g := (mkF m 87 #[.val (.int vp), .val (.int va), .val (.int vb), .val (.ref sa102), .val (.ref b103), .val (.ref b104), .val (.ref b105), .val (.ref b106), .val (.ref b107), .val (.int yk), .val (.int yo), .val (.int yl), .val (.ref b108), .val (.int r110), .unset, .unset, .unset, .unset] [(.int (39 : Int32)), (.int yk), (.int r110)])) rfl (by rw [hml]; rfl) (argsL := [(.int yk), (.int (39 : Int32))]) (rest := [(.int r110)]) (lenOf pd_13 rfl) rfl (by show 2 * 0 + _ ≤ _; exact Nat.le_of_eq rfl) (hb hby at_87) (fun _ _ => ⟨rfl, rfl, (by decide : 13 + 0 ≤ _), (by decide : 1507 + 0 ≤ _)⟩)
  dsimp only [Pt.U, Pt.locs, Pt.cells, Pt.slots] at X111 l111 y111 z111 st111 hQ111
  subst l111 y111 z111
  obtain ⟨⟨r111, rfl, hr111⟩, N111q, e111⟩ := hQ111
  have N111 := Fr.app N110 N111q
  obtain ⟨hp112, T112, L112, X112, N112, e112, st112⟩ : (True) ∧ ∃ (T' : State) (Lc : List Loc), Stand p l e room_1 (s.setVm T109.vm) m #[(.int vp), (.int va), (.int vb)] below meth c T' Lc 13 1507 ∧ Fr n0 Lc ∧ T'.heap = T110.heap ∧ ∀ t, Steps p.tables e below (T'.setTop (mkF m 129 #[.val (.int vp), .val (.int va), .val (.int vb), .val (.ref sa102), .val (.ref b103), .val (.ref b104), .val (.ref b105), .val (.ref b106), .val (.ref b107), .val (.int yk), .val (.int yo), .val (.int yl), .val (.ref b108), .val (.int r110), .unset, .unset, .unset, .unset] [])) t → Steps p.tables e below (T111.setTop (mkF m 95 #[.val (.int vp), .val (.int va), .val (.int vb), .val (.ref sa102), .val (.ref b103), .val (.ref b104), .val (.ref b105), .val (.ref b106), .val (.ref b107), .val (.int yk), .val (.int yo), .val (.int yl), .val (.ref b108), .val (.int r110), .unset, .unset, .unset, .unset] [])) t := by
    by_cases h97_113 : (0 : Int32) < r110
    · obtain ⟨cq116, kq116, q116a, q116b, q116c⟩ := isOf hZ109 e111 Es_102_c110
      obtain ⟨_, _, ⟨T116, L116, k116, n116⟩, -, X116, ⟨Lc116, hQ116, l116, y116, z116⟩, st116⟩ := X111.virtualBack hx (y := (⟨"java/lang/String", "charAt", "(I)C"⟩ : MethodName)) (z := (⟨"java/lang/String", "charAt", "(I)C"⟩ : MethodName)) hown109 (mvT hZ109 (hw _ (List.mem_of_getElem? (i := 110) rfl))) (mvT hZ109 (hw _ (List.mem_of_getElem? (i := 111) rfl))) (notFace_of_selects (args := #[]) (mvT hZ109 (hw _ (List.mem_of_getElem? (i := 113) rfl)))) (mvT hZ109 (hw _ (List.mem_of_getElem? (i := 113) rfl))) (mvT hZ109 (hw _ (List.mem_of_getElem? (i := 112) rfl))) (by decide) (backOf (W := 1) (rm_cat l Z a0 hw [] sa102 (r110 - (1 : Int32)) sb102 ks102 (39 : Int32) own_D T110.heap n0 Z110 G_c110 ⟨Es_102_c110, Fc_102_c110, Fv_102_c110, As_102_c110⟩ (own_i39 _ _ (by rw [own_sub1 _ (own_pos _ h97_113)]; have := own_pos _ h97_113; omega) (by rw [own_sub1 _ (own_pos _ h97_113), u39]; omega)) own_D_a) hZ109 (hw _ (List.mem_of_getElem? (i := 114) rfl)) (hw _ (List.mem_of_getElem? (i := 1) rfl)) (by decide) (by decide)) q116a q116c (g := (mkF m 121 #[.val (.int vp), .val (.int va), .val (.int vb), .val (.ref sa102), .val (.ref b103), .val (.ref b104), .val (.ref b105), .val (.ref b106), .val (.ref b107), .val (.int yk), .val (.int yo), .val (.int yl), .val (.ref b108), .val (.int r110), .unset, .unset, .unset, .unset] [(.int (r110 - (1 : Int32))), (.ref sa102), (.int ((own_cp own_B1 (List.replicate 41 (0 : Int32)) ((0 : Int32)).toNatClampNeg ((0 : Int32)).toNatClampNeg (r110).toNatClampNeg).getD ((r110 - (1 : Int32))).toNatClampNeg 0))])) rfl (by rw [hml]; rfl) (Steps.refl _) (argsL := [(.int (r110 - (1 : Int32)))]) (rest := [(.int ((own_cp own_B1 (List.replicate 41 (0 : Int32)) ((0 : Int32)).toNatClampNeg ((0 : Int32)).toNatClampNeg (r110).toNatClampNeg).getD ((r110 - (1 : Int32))).toNatClampNeg 0))]) (lenOf pd_14 rfl) rfl (by show 2 * 0 + _ ≤ _; exact Nat.le_of_eq rfl) (hb hby at_121) (fun _ _ => ⟨rfl, e111, (by decide : 13 + 0 ≤ _), (by decide : 1507 + 0 ≤ _)⟩)
      dsimp only [Pt.U, Pt.locs, Pt.cells, Pt.slots] at X116 l116 y116 z116 st116 hQ116
      subst l116 y116 z116
      obtain ⟨⟨r116, rfl, hr116⟩, N116q, e116⟩ := hQ116
      have N116 := Fr.app N111 N116q
      refine ⟨trivial, T116, _, X116, N116, e116, fun t kt => ?_⟩
      show Steps p.tables e below (T111.setTop (mkF m 95 #[.val (.int vp), .val (.int va), .val (.int vb), .val (.ref sa102), .val (.ref b103), .val (.ref b104), .val (.ref b105), .val (.ref b106), .val (.ref b107), .val (.int yk), .val (.int yo), .val (.int yl), .val (.ref b108), .val (.int r110), .unset, .unset, .unset, .unset] [])) _
      refine XS.iload X111.here hx rfl (hb hby at_95) rfl ?_
      show Steps p.tables e below (T111.setTop (mkF m 97 #[.val (.int vp), .val (.int va), .val (.int vb), .val (.ref sa102), .val (.ref b103), .val (.ref b104), .val (.ref b105), .val (.ref b106), .val (.ref b107), .val (.int yk), .val (.int yo), .val (.int yl), .val (.ref b108), .val (.int r110), .unset, .unset, .unset, .unset] [(.int r110)])) _
      refine XS.ifNo X111.here hx rfl (hb hby at_97) rfl ((if0 _ _).trans (tlt h97_113).2.2.2) ?_
      show Steps p.tables e below (T111.setTop (mkF m 100 #[.val (.int vp), .val (.int va), .val (.int vb), .val (.ref sa102), .val (.ref b103), .val (.ref b104), .val (.ref b105), .val (.ref b106), .val (.ref b107), .val (.int yk), .val (.int yo), .val (.int yl), .val (.ref b108), .val (.int r110), .unset, .unset, .unset, .unset] [])) _
      refine XS.aload X111.here hx rfl (hb hby at_100) rfl rfl ?_
      show Steps p.tables e below (T111.setTop (mkF m 102 #[.val (.int vp), .val (.int va), .val (.int vb), .val (.ref sa102), .val (.ref b103), .val (.ref b104), .val (.ref b105), .val (.ref b106), .val (.ref b107), .val (.int yk), .val (.int yo), .val (.int yl), .val (.ref b108), .val (.int r110), .unset, .unset, .unset, .unset] [(.ref b103)])) _
      refine XS.iconst X111.here hx rfl (hb hby at_102) ?_
      show Steps p.tables e below (T111.setTop (mkF m 103 #[.val (.int vp), .val (.int va), .val (.int vb), .val (.ref sa102), .val (.ref b103), .val (.ref b104), .val (.ref b105), .val (.ref b106), .val (.ref b107), .val (.int yk), .val (.int yo), .val (.int yl), .val (.ref b108), .val (.int r110), .unset, .unset, .unset, .unset] [(.int (0 : Int32)), (.ref b103)])) _
      obtain ⟨cl114, Ar114, q114, S114, N114a, H114, G114⟩ := id Ax_110
      have hin114 : ¬ ((0 : Int32) < 0 ∨ cl114.slots.size ≤ ((0 : Int32)).toNatClampNeg) := inb_of S114 (⟨by decide, by decide⟩)
      have hat114 : cl114.slots[((0 : Int32)).toNatClampNeg]? = some (.int ((own_cp own_B1 (List.replicate 41 (0 : Int32)) ((0 : Int32)).toNatClampNeg ((0 : Int32)).toNatClampNeg (r110).toNatClampNeg).getD ((0 : Int32)).toNatClampNeg 0)) := H114.at hin114 (own_getD (own_cp own_B1 (List.replicate 41 (0 : Int32)) ((0 : Int32)).toNatClampNeg ((0 : Int32)).toNatClampNeg (r110).toNatClampNeg) _)
      refine X111.baloadBytes hx (j := (0 : Int32)) (v := (.int ((own_cp own_B1 (List.replicate 41 (0 : Int32)) ((0 : Int32)).toNatClampNeg ((0 : Int32)).toNatClampNeg (r110).toNatClampNeg).getD ((0 : Int32)).toNatClampNeg 0))) (by rw [e111]; exact Ar114.1) (State.isArrayOf_alike hZ109.alike Ar114.2.1) Ar114.2.2 hin114 hat114 (g := (mkF m 103 #[.val (.int vp), .val (.int va), .val (.int vb), .val (.ref sa102), .val (.ref b103), .val (.ref b104), .val (.ref b105), .val (.ref b106), .val (.ref b107), .val (.int yk), .val (.int yo), .val (.int yl), .val (.ref b108), .val (.int r110), .unset, .unset, .unset, .unset] [(.int (0 : Int32)), (.ref b103)])) rfl rfl (hb hby at_103) _ ?_
      show Steps p.tables e below (T111.setTop (mkF m 104 #[.val (.int vp), .val (.int va), .val (.int vb), .val (.ref sa102), .val (.ref b103), .val (.ref b104), .val (.ref b105), .val (.ref b106), .val (.ref b107), .val (.int yk), .val (.int yo), .val (.int yl), .val (.ref b108), .val (.int r110), .unset, .unset, .unset, .unset] [(.int ((own_cp own_B1 (List.replicate 41 (0 : Int32)) ((0 : Int32)).toNatClampNeg ((0 : Int32)).toNatClampNeg (r110).toNatClampNeg).getD ((0 : Int32)).toNatClampNeg 0))])) _
      refine XS.bipush X111.here hx rfl (hb hby at_104) ?_
      show Steps p.tables e below (T111.setTop (mkF m 106 #[.val (.int vp), .val (.int va), .val (.int vb), .val (.ref sa102), .val (.ref b103), .val (.ref b104), .val (.ref b105), .val (.ref b106), .val (.ref b107), .val (.int yk), .val (.int yo), .val (.int yl), .val (.ref b108), .val (.int r110), .unset, .unset, .unset, .unset] [(.int (60 : Int32)), (.int ((own_cp own_B1 (List.replicate 41 (0 : Int32)) ((0 : Int32)).toNatClampNeg ((0 : Int32)).toNatClampNeg (r110).toNatClampNeg).getD ((0 : Int32)).toNatClampNeg 0))])) _
      refine XS.icmpNo X111.here hx rfl (hb hby at_106) rfl (teq (by rw [show ((0 : Int32)).toNatClampNeg = 0 from by decide, show (0 : Nat) = ((0 : Int32)).toNatClampNeg from by decide]; have q := own_got 41 0 (0 : Int32) (39 : Int32) (0 : Int32) r110 0 hst0 (by decide) hr1_.1 (by omega) (by rw [u0]; omega) (by decide) (by rw [u0]; have := own_pos _ h97_113; omega); exact q : ((own_cp own_B1 (List.replicate 41 (0 : Int32)) ((0 : Int32)).toNatClampNeg ((0 : Int32)).toNatClampNeg (r110).toNatClampNeg).getD ((0 : Int32)).toNatClampNeg 0) = (60 : Int32))).2 ?_
      show Steps p.tables e below (T111.setTop (mkF m 109 #[.val (.int vp), .val (.int va), .val (.int vb), .val (.ref sa102), .val (.ref b103), .val (.ref b104), .val (.ref b105), .val (.ref b106), .val (.ref b107), .val (.int yk), .val (.int yo), .val (.int yl), .val (.ref b108), .val (.int r110), .unset, .unset, .unset, .unset] [])) _
      refine XS.aload X111.here hx rfl (hb hby at_109) rfl rfl ?_
      show Steps p.tables e below (T111.setTop (mkF m 111 #[.val (.int vp), .val (.int va), .val (.int vb), .val (.ref sa102), .val (.ref b103), .val (.ref b104), .val (.ref b105), .val (.ref b106), .val (.ref b107), .val (.int yk), .val (.int yo), .val (.int yl), .val (.ref b108), .val (.int r110), .unset, .unset, .unset, .unset] [(.ref b103)])) _
      refine XS.iload X111.here hx rfl (hb hby at_111) rfl ?_
      show Steps p.tables e below (T111.setTop (mkF m 113 #[.val (.int vp), .val (.int va), .val (.int vb), .val (.ref sa102), .val (.ref b103), .val (.ref b104), .val (.ref b105), .val (.ref b106), .val (.ref b107), .val (.int yk), .val (.int yo), .val (.int yl), .val (.ref b108), .val (.int r110), .unset, .unset, .unset, .unset] [(.int r110), (.ref b103)])) _
      refine XS.iconst X111.here hx rfl (hb hby at_113) ?_
      show Steps p.tables e below (T111.setTop (mkF m 114 #[.val (.int vp), .val (.int va), .val (.int vb), .val (.ref sa102), .val (.ref b103), .val (.ref b104), .val (.ref b105), .val (.ref b106), .val (.ref b107), .val (.int yk), .val (.int yo), .val (.int yl), .val (.ref b108), .val (.int r110), .unset, .unset, .unset, .unset] [(.int (1 : Int32)), (.int r110), (.ref b103)])) _
      refine XS.isub X111.here hx rfl (hb hby at_114) rfl ?_
      show Steps p.tables e below (T111.setTop (mkF m 115 #[.val (.int vp), .val (.int va), .val (.int vb), .val (.ref sa102), .val (.ref b103), .val (.ref b104), .val (.ref b105), .val (.ref b106), .val (.ref b107), .val (.int yk), .val (.int yo), .val (.int yl), .val (.ref b108), .val (.int r110), .unset, .unset, .unset, .unset] [(.int (r110 - (1 : Int32))), (.ref b103)])) _
      obtain ⟨cl115, Ar115, q115, S115, N115a, H115, G115⟩ := id Ax_110
      have hin115 : ¬ ((r110 - (1 : Int32)) < 0 ∨ cl115.slots.size ≤ ((r110 - (1 : Int32))).toNatClampNeg) := inb_of S115 (own_i39 _ _ (by rw [own_sub1 _ (own_pos _ h97_113)]; have := own_pos _ h97_113; omega) (by rw [own_sub1 _ (own_pos _ h97_113), u41]; omega))
      have hat115 : cl115.slots[((r110 - (1 : Int32))).toNatClampNeg]? = some (.int ((own_cp own_B1 (List.replicate 41 (0 : Int32)) ((0 : Int32)).toNatClampNeg ((0 : Int32)).toNatClampNeg (r110).toNatClampNeg).getD ((r110 - (1 : Int32))).toNatClampNeg 0)) := H115.at hin115 (own_getD (own_cp own_B1 (List.replicate 41 (0 : Int32)) ((0 : Int32)).toNatClampNeg ((0 : Int32)).toNatClampNeg (r110).toNatClampNeg) _)
      refine X111.baloadBytes hx (j := (r110 - (1 : Int32))) (v := (.int ((own_cp own_B1 (List.replicate 41 (0 : Int32)) ((0 : Int32)).toNatClampNeg ((0 : Int32)).toNatClampNeg (r110).toNatClampNeg).getD ((r110 - (1 : Int32))).toNatClampNeg 0))) (by rw [e111]; exact Ar115.1) (State.isArrayOf_alike hZ109.alike Ar115.2.1) Ar115.2.2 hin115 hat115 (g := (mkF m 115 #[.val (.int vp), .val (.int va), .val (.int vb), .val (.ref sa102), .val (.ref b103), .val (.ref b104), .val (.ref b105), .val (.ref b106), .val (.ref b107), .val (.int yk), .val (.int yo), .val (.int yl), .val (.ref b108), .val (.int r110), .unset, .unset, .unset, .unset] [(.int (r110 - (1 : Int32))), (.ref b103)])) rfl rfl (hb hby at_115) _ ?_
      show Steps p.tables e below (T111.setTop (mkF m 116 #[.val (.int vp), .val (.int va), .val (.int vb), .val (.ref sa102), .val (.ref b103), .val (.ref b104), .val (.ref b105), .val (.ref b106), .val (.ref b107), .val (.int yk), .val (.int yo), .val (.int yl), .val (.ref b108), .val (.int r110), .unset, .unset, .unset, .unset] [(.int ((own_cp own_B1 (List.replicate 41 (0 : Int32)) ((0 : Int32)).toNatClampNeg ((0 : Int32)).toNatClampNeg (r110).toNatClampNeg).getD ((r110 - (1 : Int32))).toNatClampNeg 0))])) _
      refine XS.aloadN X111.here hx rfl (hb hby at_116) rfl rfl ?_
      show Steps p.tables e below (T111.setTop (mkF m 117 #[.val (.int vp), .val (.int va), .val (.int vb), .val (.ref sa102), .val (.ref b103), .val (.ref b104), .val (.ref b105), .val (.ref b106), .val (.ref b107), .val (.int yk), .val (.int yo), .val (.int yl), .val (.ref b108), .val (.int r110), .unset, .unset, .unset, .unset] [(.ref sa102), (.int ((own_cp own_B1 (List.replicate 41 (0 : Int32)) ((0 : Int32)).toNatClampNeg ((0 : Int32)).toNatClampNeg (r110).toNatClampNeg).getD ((r110 - (1 : Int32))).toNatClampNeg 0))])) _
      refine XS.iload X111.here hx rfl (hb hby at_117) rfl ?_
      show Steps p.tables e below (T111.setTop (mkF m 119 #[.val (.int vp), .val (.int va), .val (.int vb), .val (.ref sa102), .val (.ref b103), .val (.ref b104), .val (.ref b105), .val (.ref b106), .val (.ref b107), .val (.int yk), .val (.int yo), .val (.int yl), .val (.ref b108), .val (.int r110), .unset, .unset, .unset, .unset] [(.int r110), (.ref sa102), (.int ((own_cp own_B1 (List.replicate 41 (0 : Int32)) ((0 : Int32)).toNatClampNeg ((0 : Int32)).toNatClampNeg (r110).toNatClampNeg).getD ((r110 - (1 : Int32))).toNatClampNeg 0))])) _
      refine XS.iconst X111.here hx rfl (hb hby at_119) ?_
      show Steps p.tables e below (T111.setTop (mkF m 120 #[.val (.int vp), .val (.int va), .val (.int vb), .val (.ref sa102), .val (.ref b103), .val (.ref b104), .val (.ref b105), .val (.ref b106), .val (.ref b107), .val (.int yk), .val (.int yo), .val (.int yl), .val (.ref b108), .val (.int r110), .unset, .unset, .unset, .unset] [(.int (1 : Int32)), (.int r110), (.ref sa102), (.int ((own_cp own_B1 (List.replicate 41 (0 : Int32)) ((0 : Int32)).toNatClampNeg ((0 : Int32)).toNatClampNeg (r110).toNatClampNeg).getD ((r110 - (1 : Int32))).toNatClampNeg 0))])) _
      refine XS.isub X111.here hx rfl (hb hby at_120) rfl ?_
      show Steps p.tables e below (T111.setTop (mkF m 121 #[.val (.int vp), .val (.int va), .val (.int vb), .val (.ref sa102), .val (.ref b103), .val (.ref b104), .val (.ref b105), .val (.ref b106), .val (.ref b107), .val (.int yk), .val (.int yo), .val (.int yl), .val (.ref b108), .val (.int r110), .unset, .unset, .unset, .unset] [(.int (r110 - (1 : Int32))), (.ref sa102), (.int ((own_cp own_B1 (List.replicate 41 (0 : Int32)) ((0 : Int32)).toNatClampNeg ((0 : Int32)).toNatClampNeg (r110).toNatClampNeg).getD ((r110 - (1 : Int32))).toNatClampNeg 0))])) _
      refine st116.trans ?_
      show Steps p.tables e below (T116.setTop (mkF m 124 #[.val (.int vp), .val (.int va), .val (.int vb), .val (.ref sa102), .val (.ref b103), .val (.ref b104), .val (.ref b105), .val (.ref b106), .val (.ref b107), .val (.int yk), .val (.int yo), .val (.int yl), .val (.ref b108), .val (.int r110), .unset, .unset, .unset, .unset] [(.int r116), (.int ((own_cp own_B1 (List.replicate 41 (0 : Int32)) ((0 : Int32)).toNatClampNeg ((0 : Int32)).toNatClampNeg (r110).toNatClampNeg).getD ((r110 - (1 : Int32))).toNatClampNeg 0))])) _
      refine XS.icmpYes X116.here hx rfl (pc0 := 124) (pc' := 129) rfl (hb hby at_124) rfl (teq (by rw [hr116]; have p := own_pos _ h97_113; have s1 := own_sub1 _ p; have n1 := own_nat (r110 - (1 : Int32)) (by omega); have q := own_got 41 0 (0 : Int32) (39 : Int32) (0 : Int32) r110 (r110 - (1 : Int32)).toNatClampNeg hst0 (by decide) hr1_.1 (by omega) (by rw [u0]; omega) (by rw [u0]; omega) (by rw [u0]; omega); rw [q]; congr 1; rw [u0]; omega : ((own_cp own_B1 (List.replicate 41 (0 : Int32)) ((0 : Int32)).toNatClampNeg ((0 : Int32)).toNatClampNeg (r110).toNatClampNeg).getD ((r110 - (1 : Int32))).toNatClampNeg 0) = r116)).1 (by decide) (by decide) ?_
      exact kt
    · refine ⟨trivial, T111, _, X111, N111, e111, fun t kt => ?_⟩
      show Steps p.tables e below (T111.setTop (mkF m 95 #[.val (.int vp), .val (.int va), .val (.int vb), .val (.ref sa102), .val (.ref b103), .val (.ref b104), .val (.ref b105), .val (.ref b106), .val (.ref b107), .val (.int yk), .val (.int yo), .val (.int yl), .val (.ref b108), .val (.int r110), .unset, .unset, .unset, .unset] [])) _
      refine XS.iload X111.here hx rfl (hb hby at_95) rfl ?_
      show Steps p.tables e below (T111.setTop (mkF m 97 #[.val (.int vp), .val (.int va), .val (.int vb), .val (.ref sa102), .val (.ref b103), .val (.ref b104), .val (.ref b105), .val (.ref b106), .val (.ref b107), .val (.int yk), .val (.int yo), .val (.int yl), .val (.ref b108), .val (.int r110), .unset, .unset, .unset, .unset] [(.int r110)])) _
      refine XS.ifYes X111.here hx rfl (pc0 := 97) (pc' := 129) rfl (hb hby at_97) rfl ((if0 _ _).trans (flt h97_113).2.2.2) (by decide) (by decide) ?_
      exact kt
  obtain ⟨cq117, kq117, q117a, q117b, q117c⟩ := isOf hZ109 e112 Eq_110
  obtain ⟨_, _, ⟨T117, L117, k117, n117⟩, -, X117, ⟨Lc117, hQ117, l117, y117, z117⟩, st117⟩ := X112.virtualBack hx (y := (⟨"com/example/sealwright/sealwright/io/XmlWriter", "read", "([BII)I"⟩ : MethodName)) (z := (⟨"com/example/sealwright/sealwright/io/XmlWriter", "read", "([BII)I"⟩ : MethodName)) hown109 (mvT hZ109 (hw _ (List.mem_of_getElem? (i := 90) rfl))) (mvT hZ109 (hw _ (List.mem_of_getElem? (i := 91) rfl))) (notFace_of_selects (args := #[]) (mvT hZ109 (hw _ (List.mem_of_getElem? (i := 93) rfl)))) (mvT hZ109 (hw _ (List.mem_of_getElem? (i := 93) rfl))) (mvT hZ109 (hw _ (List.mem_of_getElem? (i := 92) rfl))) (by decide) (backOf (W := 0) (rm_read l Z a0 hw [] b108 b104 yo yl rb109 rd109 kb109 vs110 ve110 own_B1 k104 (8 : Int32) (List.replicate 8 (0 : Int32)) T110.heap n0 Z110 ⟨Eq_110, Fb_110, Fs_110, Fe_110, Fo_110, Aq_110⟩ g_b108 cg109 Av_b104_104_c110 g_b104 ne_b104_rb109 (by rw [List.length_replicate]; decide) (own_st_b _ _ _ hst1) hbo.1 hbl.1 (by rw [u8]; omega)) hZ109 (hw _ (List.mem_of_getElem? (i := 94) rfl)) (hw _ (List.mem_of_getElem? (i := 11) rfl)) (by decide) (by decide)) q117a q117c (g := (mkF m 137 #[.val (.int vp), .val (.int va), .val (.int vb), .val (.ref sa102), .val (.ref b103), .val (.ref b104), .val (.ref b105), .val (.ref b106), .val (.ref b107), .val (.int yk), .val (.int yo), .val (.int yl), .val (.ref b108), .val (.int r110), .unset, .unset, .unset, .unset] [(.int yl), (.int yo), (.ref b104), (.ref b108)])) rfl (by rw [hml]; rfl) (Steps.refl _) (argsL := [(.ref b104), (.int yo), (.int yl)]) (rest := []) (lenOf pd_15 rfl) rfl (by show 2 * 0 + _ ≤ _; exact Nat.le_of_eq rfl) (hb hby at_137) (fun _ _ => ⟨rfl, e112, (by decide : 13 + 0 ≤ _), (by decide : 1507 + 0 ≤ _)⟩)
  dsimp only [Pt.U, Pt.locs, Pt.cells, Pt.slots] at X117 l117 y117 z117 st117 hQ117
  subst l117 y117 z117
  obtain ⟨⟨r117, rfl, hr117⟩, N117q, K117⟩ := hQ117
  have N117 := Fr.app N112 N117q
  have G_c117 := own_G.keep G_c110 K117 (allS g_b108 (allS g_b104 all0))
  have Es_102_c117 := Es_102_c110.keep K117
  have Fc_102_c117 := Fc_102_c110.keep K117 (ninS (Exa.ne Es_102_c110 Eq_110 (by decide)) (ninS (Exa.neArv Es_102_c110 Av_b104_104_c110 (hw _ (List.mem_of_getElem? (i := 2) rfl))) nin0))
  have Fv_102_c117 := Fv_102_c110.keep K117 (ninS (Exa.ne Es_102_c110 Eq_110 (by decide)) (ninS (Exa.neArv Es_102_c110 Av_b104_104_c110 (hw _ (List.mem_of_getElem? (i := 2) rfl))) nin0))
  have As_102_c117 := As_102_c110.keep K117 (ninS (Ne.symm (Exa.neArv Eq_110 As_102_c110 (hw _ (List.mem_of_getElem? (i := 10) rfl)))) (ninS (arv_ne As_102_c110 Av_b104_104_c110 (Or.inl (by decide))) nin0))
  have Av_b105_105_c117 := Av_b105_105_c110.keep K117 (ninS ne_b105_b108 (ninS (Ne.symm ne_b104_b105) nin0))
  have Av_b106_106_c117 := Av_b106_106_c110.keep K117 (ninS ne_b106_b108 (ninS (Ne.symm ne_b104_b106) nin0))
  have Av_b107_107_c117 := Av_b107_107_c110.keep K117 (ninS ne_b107_b108 (ninS (Ne.symm ne_b104_b107) nin0))
  have Eq_110_c117 := Eq_110.keep K117
  have Aq_110_c117 := Aq_110.keep K117 (ninS (Ne.symm ne_b108_rb109) (ninS (Ne.symm ne_b104_rb109) nin0))
  have Ed_109_c117 := Ed_109_c110.keep K117
  have Fl_109_c117 := Fl_109_c110.keep K117 (ninS (Ne.symm ne_b108_rd109) (ninS (Ne.symm ne_b104_rd109) nin0))
  have Ft_109_c117 := Ft_109_c110.keep K117 (ninS (Ne.symm ne_b108_rd109) (ninS (Ne.symm ne_b104_rd109) nin0))
  have Fh_109_c117 := Fh_109_c110.keep K117 (ninS (Ne.symm ne_b108_rd109) (ninS (Ne.symm ne_b104_rd109) nin0))
  have Al_109_c117 := Al_109_c110.keep K117 (ninS (Ne.symm ne_b108_re109) (ninS (Ne.symm ne_b104_re109) nin0))
  have Ax_110_c117 := Ax_110.keep K117 (ninS ne_b103_b108 (ninS ne_b103_b104 nin0))
  have CR117 := CR110.trans (CHr.keep K117 (sfS (Safe.exa hZ109.alike Eq_110 (by decide) (by decide)) (sfS (own_safe hZ109 (own_EWl hw) Av_b104_104_c110 (by decide)) sf0)) CR110.1)
  have kl117 := Nat.le_trans kl110 K117.1
  have Z117 : n0 ≤ T117.heap.size := Nat.le_trans Z110 K117.1
  obtain ⟨hp117, ⟨Eq_117, Fb_117, Fs_117, Fe_117, Fo_117, Aq_117⟩, Ax_117⟩ := hr117
  obtain ⟨vs117, hvs117⟩ : ∃ z, z = own_s vs110 ve110 r117 := ⟨_, rfl⟩
  obtain ⟨ve117, hve117⟩ : ∃ z, z = own_e vs110 ve110 r117 := ⟨_, rfl⟩
  rw [← hvs117] at Fs_117
  rw [← hve117] at Fe_117
  have hst2 := own_st_s _ _ _ _ _ _ _ hst1 hp117 hvs117 hve117
  have hr2_ := own_st_r _ _ _ _ _ hst1 hp117
  obtain ⟨_, _, ⟨T118, L118, k118, n118⟩, -, X118, ⟨Lc118, hQ118, l118, y118, z118⟩, st118⟩ := Jvm.LawKit.callS X117 hx (y := (⟨"java/lang/Math", "min", "(II)I"⟩ : MethodName)) hown109 (mvT hZ109 (hw _ (List.mem_of_getElem? (i := 105) rfl))) (mvT hZ109 (hw _ (List.mem_of_getElem? (i := 98) rfl))) (mvT hZ109 (hw _ (List.mem_of_getElem? (i := 99) rfl))) (mvT hZ109 (hw _ (List.mem_of_getElem? (i := 100) rfl))) (by decide) (backOf (W := 1) (rm_min l Z a0 hw [] yl ((39 : Int32) - r110) T117.heap n0 Z117 ) hZ109 (hw _ (List.mem_of_getElem? (i := 100) rfl)) (hw _ (List.mem_of_getElem? (i := 99) rfl)) (by decide) (by decide)) (g := (mkF m 151 #[.val (.int vp), .val (.int va), .val (.int vb), .val (.ref sa102), .val (.ref b103), .val (.ref b104), .val (.ref b105), .val (.ref b106), .val (.ref b107), .val (.int yk), .val (.int yo), .val (.int yl), .val (.ref b108), .val (.int r110), .val (.int r117), .unset, .unset, .unset] [(.int ((39 : Int32) - r110)), (.int yl), (.int r117)])) rfl (by rw [hml]; rfl) (argsL := [(.int yl), (.int ((39 : Int32) - r110))]) (rest := [(.int r117)]) (lenOf pd_13 rfl) rfl (by show 2 * 0 + _ ≤ _; exact Nat.le_of_eq rfl) (hb hby at_151) (fun _ _ => ⟨rfl, rfl, (by decide : 13 + 0 ≤ _), (by decide : 1507 + 0 ≤ _)⟩)
  dsimp only [Pt.U, Pt.locs, Pt.cells, Pt.slots] at X118 l118 y118 z118 st118 hQ118
  subst l118 y118 z118
  obtain ⟨⟨r118, rfl, hr118⟩, N118q, e118⟩ := hQ118
  have N118 := Fr.app N117 N118q
  obtain ⟨_, _, ⟨T119, L119, k119, n119⟩, -, X119, ⟨Lc119, hQ119, l119, y119, z119⟩, st119⟩ := Jvm.LawKit.callS X118 hx (y := (⟨"com/example/sealwright/sealwright/io/XmlWriterReadPinLaw", "slot", "([BIIIILjava/lang/String;)Z"⟩ : MethodName)) hown109 (mvT hZ109 (hw _ (List.mem_of_getElem? (i := 106) rfl))) (mvT hZ109 (hw _ (List.mem_of_getElem? (i := 107) rfl))) (mvT hZ109 (hw _ (List.mem_of_getElem? (i := 108) rfl))) (mvT hZ109 (hw _ (List.mem_of_getElem? (i := 109) rfl))) (by decide) (backOf (W := 0) (rm_slot l Z a0 hw [] b104 (0 : Int32) yo r117 r110 sa102 k104 (own_cp own_B1 (List.replicate 8 (0 : Int32)) (vs110).toNatClampNeg (yo).toNatClampNeg (r117).toNatClampNeg) sb102 ks102 T117.heap n0 Z117 Ax_117 G_c117 ⟨Es_102_c117, Fc_102_c117, Fv_102_c117, As_102_c117⟩ (by decide) (own_sl (0 : Int32) yo r117 r110 vs110 ve110 ⟨by decide, by decide⟩ hbo ⟨hr2_.1, by omega⟩ ⟨hr1_.1, by omega⟩ (by have q := hst1; rw [Int.zero_add] at q; exact q) (by omega)).1 (own_sl (0 : Int32) yo r117 r110 vs110 ve110 ⟨by decide, by decide⟩ hbo ⟨hr2_.1, by omega⟩ ⟨hr1_.1, by omega⟩ (by have q := hst1; rw [Int.zero_add] at q; exact q) (by omega)).2) hZ109 (hw _ (List.mem_of_getElem? (i := 109) rfl)) (hw _ (List.mem_of_getElem? (i := 108) rfl)) (by decide) (by decide)) (g := (mkF m 169 #[.val (.int vp), .val (.int va), .val (.int vb), .val (.ref sa102), .val (.ref b103), .val (.ref b104), .val (.ref b105), .val (.ref b106), .val (.ref b107), .val (.int yk), .val (.int yo), .val (.int yl), .val (.ref b108), .val (.int r110), .val (.int r117), .unset, .unset, .unset] [(.ref sa102), (.int r110), (.int r117), (.int yo), (.int (0 : Int32)), (.ref b104)])) rfl (by rw [hml]; rfl) (argsL := [(.ref b104), (.int (0 : Int32)), (.int yo), (.int r117), (.int r110), (.ref sa102)]) (rest := []) (lenOf pd_16 rfl) rfl (by show 2 * 0 + _ ≤ _; exact Nat.le_of_eq rfl) (hb hby at_169) (fun _ _ => ⟨rfl, e118, (by decide : 13 + 0 ≤ _), (by decide : 1507 + 0 ≤ _)⟩)
  dsimp only [Pt.U, Pt.locs, Pt.cells, Pt.slots] at X119 l119 y119 z119 st119 hQ119
  subst l119 y119 z119
  obtain ⟨⟨r119, rfl, hr119⟩, N119q, e119⟩ := hQ119
  have N119 := Fr.app N118 N119q
  obtain ⟨_, _, ⟨T120, L120, k120, n120⟩, -, X120, ⟨Lc120, hQ120, l120, y120, z120⟩, st120⟩ := Jvm.LawKit.callS X119 hx (y := (⟨"com/example/sealwright/sealwright/io/XmlWriterReadPinLaw", "slot", "([BIIIILjava/lang/String;)Z"⟩ : MethodName)) hown109 (mvT hZ109 (hw _ (List.mem_of_getElem? (i := 106) rfl))) (mvT hZ109 (hw _ (List.mem_of_getElem? (i := 107) rfl))) (mvT hZ109 (hw _ (List.mem_of_getElem? (i := 108) rfl))) (mvT hZ109 (hw _ (List.mem_of_getElem? (i := 109) rfl))) (by decide) (backOf (W := 0) (rm_slot l Z a0 hw [] b104 (1 : Int32) yo r117 r110 sa102 k104 (own_cp own_B1 (List.replicate 8 (0 : Int32)) (vs110).toNatClampNeg (yo).toNatClampNeg (r117).toNatClampNeg) sb102 ks102 T117.heap n0 Z117 Ax_117 G_c117 ⟨Es_102_c117, Fc_102_c117, Fv_102_c117, As_102_c117⟩ (by decide) (own_sl (1 : Int32) yo r117 r110 vs110 ve110 ⟨by decide, by decide⟩ hbo ⟨hr2_.1, by omega⟩ ⟨hr1_.1, by omega⟩ (by have q := hst1; rw [Int.zero_add] at q; exact q) (by omega)).1 (own_sl (1 : Int32) yo r117 r110 vs110 ve110 ⟨by decide, by decide⟩ hbo ⟨hr2_.1, by omega⟩ ⟨hr1_.1, by omega⟩ (by have q := hst1; rw [Int.zero_add] at q; exact q) (by omega)).2) hZ109 (hw _ (List.mem_of_getElem? (i := 109) rfl)) (hw _ (List.mem_of_getElem? (i := 108) rfl)) (by decide) (by decide)) (g := (mkF m 185 #[.val (.int vp), .val (.int va), .val (.int vb), .val (.ref sa102), .val (.ref b103), .val (.ref b104), .val (.ref b105), .val (.ref b106), .val (.ref b107), .val (.int yk), .val (.int yo), .val (.int yl), .val (.ref b108), .val (.int r110), .val (.int r117), .unset, .unset, .unset] [(.ref sa102), (.int r110), (.int r117), (.int yo), (.int (1 : Int32)), (.ref b104)])) rfl (by rw [hml]; rfl) (argsL := [(.ref b104), (.int (1 : Int32)), (.int yo), (.int r117), (.int r110), (.ref sa102)]) (rest := []) (lenOf pd_16 rfl) rfl (by show 2 * 0 + _ ≤ _; exact Nat.le_of_eq rfl) (hb hby at_185) (fun _ _ => ⟨rfl, e119, (by decide : 13 + 0 ≤ _), (by decide : 1507 + 0 ≤ _)⟩)
  dsimp only [Pt.U, Pt.locs, Pt.cells, Pt.slots] at X120 l120 y120 z120 st120 hQ120
  subst l120 y120 z120
  obtain ⟨⟨r120, rfl, hr120⟩, N120q, e120⟩ := hQ120
  have N120 := Fr.app N119 N120q
  obtain ⟨_, _, ⟨T121, L121, k121, n121⟩, -, X121, ⟨Lc121, hQ121, l121, y121, z121⟩, st121⟩ := Jvm.LawKit.callS X120 hx (y := (⟨"com/example/sealwright/sealwright/io/XmlWriterReadPinLaw", "slot", "([BIIIILjava/lang/String;)Z"⟩ : MethodName)) hown109 (mvT hZ109 (hw _ (List.mem_of_getElem? (i := 106) rfl))) (mvT hZ109 (hw _ (List.mem_of_getElem? (i := 107) rfl))) (mvT hZ109 (hw _ (List.mem_of_getElem? (i := 108) rfl))) (mvT hZ109 (hw _ (List.mem_of_getElem? (i := 109) rfl))) (by decide) (backOf (W := 0) (rm_slot l Z a0 hw [] b104 (2 : Int32) yo r117 r110 sa102 k104 (own_cp own_B1 (List.replicate 8 (0 : Int32)) (vs110).toNatClampNeg (yo).toNatClampNeg (r117).toNatClampNeg) sb102 ks102 T117.heap n0 Z117 Ax_117 G_c117 ⟨Es_102_c117, Fc_102_c117, Fv_102_c117, As_102_c117⟩ (by decide) (own_sl (2 : Int32) yo r117 r110 vs110 ve110 ⟨by decide, by decide⟩ hbo ⟨hr2_.1, by omega⟩ ⟨hr1_.1, by omega⟩ (by have q := hst1; rw [Int.zero_add] at q; exact q) (by omega)).1 (own_sl (2 : Int32) yo r117 r110 vs110 ve110 ⟨by decide, by decide⟩ hbo ⟨hr2_.1, by omega⟩ ⟨hr1_.1, by omega⟩ (by have q := hst1; rw [Int.zero_add] at q; exact q) (by omega)).2) hZ109 (hw _ (List.mem_of_getElem? (i := 109) rfl)) (hw _ (List.mem_of_getElem? (i := 108) rfl)) (by decide) (by decide)) (g := (mkF m 201 #[.val (.int vp), .val (.int va), .val (.int vb), .val (.ref sa102), .val (.ref b103), .val (.ref b104), .val (.ref b105), .val (.ref b106), .val (.ref b107), .val (.int yk), .val (.int yo), .val (.int yl), .val (.ref b108), .val (.int r110), .val (.int r117), .unset, .unset, .unset] [(.ref sa102), (.int r110), (.int r117), (.int yo), (.int (2 : Int32)), (.ref b104)])) rfl (by rw [hml]; rfl) (argsL := [(.ref b104), (.int (2 : Int32)), (.int yo), (.int r117), (.int r110), (.ref sa102)]) (rest := []) (lenOf pd_16 rfl) rfl (by show 2 * 0 + _ ≤ _; exact Nat.le_of_eq rfl) (hb hby at_201) (fun _ _ => ⟨rfl, e120, (by decide : 13 + 0 ≤ _), (by decide : 1507 + 0 ≤ _)⟩)
  dsimp only [Pt.U, Pt.locs, Pt.cells, Pt.slots] at X121 l121 y121 z121 st121 hQ121
  subst l121 y121 z121
  obtain ⟨⟨r121, rfl, hr121⟩, N121q, e121⟩ := hQ121
  have N121 := Fr.app N120 N121q
  obtain ⟨_, _, ⟨T122, L122, k122, n122⟩, -, X122, ⟨Lc122, hQ122, l122, y122, z122⟩, st122⟩ := Jvm.LawKit.callS X121 hx (y := (⟨"com/example/sealwright/sealwright/io/XmlWriterReadPinLaw", "slot", "([BIIIILjava/lang/String;)Z"⟩ : MethodName)) hown109 (mvT hZ109 (hw _ (List.mem_of_getElem? (i := 106) rfl))) (mvT hZ109 (hw _ (List.mem_of_getElem? (i := 107) rfl))) (mvT hZ109 (hw _ (List.mem_of_getElem? (i := 108) rfl))) (mvT hZ109 (hw _ (List.mem_of_getElem? (i := 109) rfl))) (by decide) (backOf (W := 0) (rm_slot l Z a0 hw [] b104 (3 : Int32) yo r117 r110 sa102 k104 (own_cp own_B1 (List.replicate 8 (0 : Int32)) (vs110).toNatClampNeg (yo).toNatClampNeg (r117).toNatClampNeg) sb102 ks102 T117.heap n0 Z117 Ax_117 G_c117 ⟨Es_102_c117, Fc_102_c117, Fv_102_c117, As_102_c117⟩ (by decide) (own_sl (3 : Int32) yo r117 r110 vs110 ve110 ⟨by decide, by decide⟩ hbo ⟨hr2_.1, by omega⟩ ⟨hr1_.1, by omega⟩ (by have q := hst1; rw [Int.zero_add] at q; exact q) (by omega)).1 (own_sl (3 : Int32) yo r117 r110 vs110 ve110 ⟨by decide, by decide⟩ hbo ⟨hr2_.1, by omega⟩ ⟨hr1_.1, by omega⟩ (by have q := hst1; rw [Int.zero_add] at q; exact q) (by omega)).2) hZ109 (hw _ (List.mem_of_getElem? (i := 109) rfl)) (hw _ (List.mem_of_getElem? (i := 108) rfl)) (by decide) (by decide)) (g := (mkF m 217 #[.val (.int vp), .val (.int va), .val (.int vb), .val (.ref sa102), .val (.ref b103), .val (.ref b104), .val (.ref b105), .val (.ref b106), .val (.ref b107), .val (.int yk), .val (.int yo), .val (.int yl), .val (.ref b108), .val (.int r110), .val (.int r117), .unset, .unset, .unset] [(.ref sa102), (.int r110), (.int r117), (.int yo), (.int (3 : Int32)), (.ref b104)])) rfl (by rw [hml]; rfl) (argsL := [(.ref b104), (.int (3 : Int32)), (.int yo), (.int r117), (.int r110), (.ref sa102)]) (rest := []) (lenOf pd_16 rfl) rfl (by show 2 * 0 + _ ≤ _; exact Nat.le_of_eq rfl) (hb hby at_217) (fun _ _ => ⟨rfl, e121, (by decide : 13 + 0 ≤ _), (by decide : 1507 + 0 ≤ _)⟩)
  dsimp only [Pt.U, Pt.locs, Pt.cells, Pt.slots] at X122 l122 y122 z122 st122 hQ122
  subst l122 y122 z122
  obtain ⟨⟨r122, rfl, hr122⟩, N122q, e122⟩ := hQ122
  have N122 := Fr.app N121 N122q
  obtain ⟨_, _, ⟨T123, L123, k123, n123⟩, -, X123, ⟨Lc123, hQ123, l123, y123, z123⟩, st123⟩ := Jvm.LawKit.callS X122 hx (y := (⟨"com/example/sealwright/sealwright/io/XmlWriterReadPinLaw", "slot", "([BIIIILjava/lang/String;)Z"⟩ : MethodName)) hown109 (mvT hZ109 (hw _ (List.mem_of_getElem? (i := 106) rfl))) (mvT hZ109 (hw _ (List.mem_of_getElem? (i := 107) rfl))) (mvT hZ109 (hw _ (List.mem_of_getElem? (i := 108) rfl))) (mvT hZ109 (hw _ (List.mem_of_getElem? (i := 109) rfl))) (by decide) (backOf (W := 0) (rm_slot l Z a0 hw [] b104 (4 : Int32) yo r117 r110 sa102 k104 (own_cp own_B1 (List.replicate 8 (0 : Int32)) (vs110).toNatClampNeg (yo).toNatClampNeg (r117).toNatClampNeg) sb102 ks102 T117.heap n0 Z117 Ax_117 G_c117 ⟨Es_102_c117, Fc_102_c117, Fv_102_c117, As_102_c117⟩ (by decide) (own_sl (4 : Int32) yo r117 r110 vs110 ve110 ⟨by decide, by decide⟩ hbo ⟨hr2_.1, by omega⟩ ⟨hr1_.1, by omega⟩ (by have q := hst1; rw [Int.zero_add] at q; exact q) (by omega)).1 (own_sl (4 : Int32) yo r117 r110 vs110 ve110 ⟨by decide, by decide⟩ hbo ⟨hr2_.1, by omega⟩ ⟨hr1_.1, by omega⟩ (by have q := hst1; rw [Int.zero_add] at q; exact q) (by omega)).2) hZ109 (hw _ (List.mem_of_getElem? (i := 109) rfl)) (hw _ (List.mem_of_getElem? (i := 108) rfl)) (by decide) (by decide)) (g := (mkF m 233 #[.val (.int vp), .val (.int va), .val (.int vb), .val (.ref sa102), .val (.ref b103), .val (.ref b104), .val (.ref b105), .val (.ref b106), .val (.ref b107), .val (.int yk), .val (.int yo), .val (.int yl), .val (.ref b108), .val (.int r110), .val (.int r117), .unset, .unset, .unset] [(.ref sa102), (.int r110), (.int r117), (.int yo), (.int (4 : Int32)), (.ref b104)])) rfl (by rw [hml]; rfl) (argsL := [(.ref b104), (.int (4 : Int32)), (.int yo), (.int r117), (.int r110), (.ref sa102)]) (rest := []) (lenOf pd_16 rfl) rfl (by show 2 * 0 + _ ≤ _; exact Nat.le_of_eq rfl) (hb hby at_233) (fun _ _ => ⟨rfl, e122, (by decide : 13 + 0 ≤ _), (by decide : 1507 + 0 ≤ _)⟩)
  dsimp only [Pt.U, Pt.locs, Pt.cells, Pt.slots] at X123 l123 y123 z123 st123 hQ123
  subst l123 y123 z123
  obtain ⟨⟨r123, rfl, hr123⟩, N123q, e123⟩ := hQ123
  have N123 := Fr.app N122 N123q
  obtain ⟨_, _, ⟨T124, L124, k124, n124⟩, -, X124, ⟨Lc124, hQ124, l124, y124, z124⟩, st124⟩ := Jvm.LawKit.callS X123 hx (y := (⟨"com/example/sealwright/sealwright/io/XmlWriterReadPinLaw", "slot", "([BIIIILjava/lang/String;)Z"⟩ : MethodName)) hown109 (mvT hZ109 (hw _ (List.mem_of_getElem? (i := 106) rfl))) (mvT hZ109 (hw _ (List.mem_of_getElem? (i := 107) rfl))) (mvT hZ109 (hw _ (List.mem_of_getElem? (i := 108) rfl))) (mvT hZ109 (hw _ (List.mem_of_getElem? (i := 109) rfl))) (by decide) (backOf (W := 0) (rm_slot l Z a0 hw [] b104 (5 : Int32) yo r117 r110 sa102 k104 (own_cp own_B1 (List.replicate 8 (0 : Int32)) (vs110).toNatClampNeg (yo).toNatClampNeg (r117).toNatClampNeg) sb102 ks102 T117.heap n0 Z117 Ax_117 G_c117 ⟨Es_102_c117, Fc_102_c117, Fv_102_c117, As_102_c117⟩ (by decide) (own_sl (5 : Int32) yo r117 r110 vs110 ve110 ⟨by decide, by decide⟩ hbo ⟨hr2_.1, by omega⟩ ⟨hr1_.1, by omega⟩ (by have q := hst1; rw [Int.zero_add] at q; exact q) (by omega)).1 (own_sl (5 : Int32) yo r117 r110 vs110 ve110 ⟨by decide, by decide⟩ hbo ⟨hr2_.1, by omega⟩ ⟨hr1_.1, by omega⟩ (by have q := hst1; rw [Int.zero_add] at q; exact q) (by omega)).2) hZ109 (hw _ (List.mem_of_getElem? (i := 109) rfl)) (hw _ (List.mem_of_getElem? (i := 108) rfl)) (by decide) (by decide)) (g := (mkF m 249 #[.val (.int vp), .val (.int va), .val (.int vb), .val (.ref sa102), .val (.ref b103), .val (.ref b104), .val (.ref b105), .val (.ref b106), .val (.ref b107), .val (.int yk), .val (.int yo), .val (.int yl), .val (.ref b108), .val (.int r110), .val (.int r117), .unset, .unset, .unset] [(.ref sa102), (.int r110), (.int r117), (.int yo), (.int (5 : Int32)), (.ref b104)])) rfl (by rw [hml]; rfl) (argsL := [(.ref b104), (.int (5 : Int32)), (.int yo), (.int r117), (.int r110), (.ref sa102)]) (rest := []) (lenOf pd_16 rfl) rfl (by show 2 * 0 + _ ≤ _; exact Nat.le_of_eq rfl) (hb hby at_249) (fun _ _ => ⟨rfl, e123, (by decide : 13 + 0 ≤ _), (by decide : 1507 + 0 ≤ _)⟩)
  dsimp only [Pt.U, Pt.locs, Pt.cells, Pt.slots] at X124 l124 y124 z124 st124 hQ124
  subst l124 y124 z124
  obtain ⟨⟨r124, rfl, hr124⟩, N124q, e124⟩ := hQ124
  have N124 := Fr.app N123 N124q
  obtain ⟨_, _, ⟨T125, L125, k125, n125⟩, -, X125, ⟨Lc125, hQ125, l125, y125, z125⟩, st125⟩ := Jvm.LawKit.callS X124 hx (y := (⟨"com/example/sealwright/sealwright/io/XmlWriterReadPinLaw", "slot", "([BIIIILjava/lang/String;)Z"⟩ : MethodName)) hown109 (mvT hZ109 (hw _ (List.mem_of_getElem? (i := 106) rfl))) (mvT hZ109 (hw _ (List.mem_of_getElem? (i := 107) rfl))) (mvT hZ109 (hw _ (List.mem_of_getElem? (i := 108) rfl))) (mvT hZ109 (hw _ (List.mem_of_getElem? (i := 109) rfl))) (by decide) (backOf (W := 0) (rm_slot l Z a0 hw [] b104 (6 : Int32) yo r117 r110 sa102 k104 (own_cp own_B1 (List.replicate 8 (0 : Int32)) (vs110).toNatClampNeg (yo).toNatClampNeg (r117).toNatClampNeg) sb102 ks102 T117.heap n0 Z117 Ax_117 G_c117 ⟨Es_102_c117, Fc_102_c117, Fv_102_c117, As_102_c117⟩ (by decide) (own_sl (6 : Int32) yo r117 r110 vs110 ve110 ⟨by decide, by decide⟩ hbo ⟨hr2_.1, by omega⟩ ⟨hr1_.1, by omega⟩ (by have q := hst1; rw [Int.zero_add] at q; exact q) (by omega)).1 (own_sl (6 : Int32) yo r117 r110 vs110 ve110 ⟨by decide, by decide⟩ hbo ⟨hr2_.1, by omega⟩ ⟨hr1_.1, by omega⟩ (by have q := hst1; rw [Int.zero_add] at q; exact q) (by omega)).2) hZ109 (hw _ (List.mem_of_getElem? (i := 109) rfl)) (hw _ (List.mem_of_getElem? (i := 108) rfl)) (by decide) (by decide)) (g := (mkF m 266 #[.val (.int vp), .val (.int va), .val (.int vb), .val (.ref sa102), .val (.ref b103), .val (.ref b104), .val (.ref b105), .val (.ref b106), .val (.ref b107), .val (.int yk), .val (.int yo), .val (.int yl), .val (.ref b108), .val (.int r110), .val (.int r117), .unset, .unset, .unset] [(.ref sa102), (.int r110), (.int r117), (.int yo), (.int (6 : Int32)), (.ref b104)])) rfl (by rw [hml]; rfl) (argsL := [(.ref b104), (.int (6 : Int32)), (.int yo), (.int r117), (.int r110), (.ref sa102)]) (rest := []) (lenOf pd_16 rfl) rfl (by show 2 * 0 + _ ≤ _; exact Nat.le_of_eq rfl) (hb hby at_266) (fun _ _ => ⟨rfl, e124, (by decide : 13 + 0 ≤ _), (by decide : 1507 + 0 ≤ _)⟩)
  dsimp only [Pt.U, Pt.locs, Pt.cells, Pt.slots] at X125 l125 y125 z125 st125 hQ125
  subst l125 y125 z125
  obtain ⟨⟨r125, rfl, hr125⟩, N125q, e125⟩ := hQ125
  have N125 := Fr.app N124 N125q
  obtain ⟨_, _, ⟨T126, L126, k126, n126⟩, -, X126, ⟨Lc126, hQ126, l126, y126, z126⟩, st126⟩ := Jvm.LawKit.callS X125 hx (y := (⟨"com/example/sealwright/sealwright/io/XmlWriterReadPinLaw", "slot", "([BIIIILjava/lang/String;)Z"⟩ : MethodName)) hown109 (mvT hZ109 (hw _ (List.mem_of_getElem? (i := 106) rfl))) (mvT hZ109 (hw _ (List.mem_of_getElem? (i := 107) rfl))) (mvT hZ109 (hw _ (List.mem_of_getElem? (i := 108) rfl))) (mvT hZ109 (hw _ (List.mem_of_getElem? (i := 109) rfl))) (by decide) (backOf (W := 0) (rm_slot l Z a0 hw [] b104 (7 : Int32) yo r117 r110 sa102 k104 (own_cp own_B1 (List.replicate 8 (0 : Int32)) (vs110).toNatClampNeg (yo).toNatClampNeg (r117).toNatClampNeg) sb102 ks102 T117.heap n0 Z117 Ax_117 G_c117 ⟨Es_102_c117, Fc_102_c117, Fv_102_c117, As_102_c117⟩ (by decide) (own_sl (7 : Int32) yo r117 r110 vs110 ve110 ⟨by decide, by decide⟩ hbo ⟨hr2_.1, by omega⟩ ⟨hr1_.1, by omega⟩ (by have q := hst1; rw [Int.zero_add] at q; exact q) (by omega)).1 (own_sl (7 : Int32) yo r117 r110 vs110 ve110 ⟨by decide, by decide⟩ hbo ⟨hr2_.1, by omega⟩ ⟨hr1_.1, by omega⟩ (by have q := hst1; rw [Int.zero_add] at q; exact q) (by omega)).2) hZ109 (hw _ (List.mem_of_getElem? (i := 109) rfl)) (hw _ (List.mem_of_getElem? (i := 108) rfl)) (by decide) (by decide)) (g := (mkF m 283 #[.val (.int vp), .val (.int va), .val (.int vb), .val (.ref sa102), .val (.ref b103), .val (.ref b104), .val (.ref b105), .val (.ref b106), .val (.ref b107), .val (.int yk), .val (.int yo), .val (.int yl), .val (.ref b108), .val (.int r110), .val (.int r117), .unset, .unset, .unset] [(.ref sa102), (.int r110), (.int r117), (.int yo), (.int (7 : Int32)), (.ref b104)])) rfl (by rw [hml]; rfl) (argsL := [(.ref b104), (.int (7 : Int32)), (.int yo), (.int r117), (.int r110), (.ref sa102)]) (rest := []) (lenOf pd_16 rfl) rfl (by show 2 * 0 + _ ≤ _; exact Nat.le_of_eq rfl) (hb hby at_283) (fun _ _ => ⟨rfl, e125, (by decide : 13 + 0 ≤ _), (by decide : 1507 + 0 ≤ _)⟩)
  dsimp only [Pt.U, Pt.locs, Pt.cells, Pt.slots] at X126 l126 y126 z126 st126 hQ126
  subst l126 y126 z126
  obtain ⟨⟨r126, rfl, hr126⟩, N126q, e126⟩ := hQ126
  have N126 := Fr.app N125 N126q
  obtain ⟨cq127, kq127, q127a, q127b, q127c⟩ := isOf hZ109 e126 Eq_117
  obtain ⟨_, _, ⟨T127, L127, k127, n127⟩, -, X127, ⟨Lc127, hQ127, l127, y127, z127⟩, st127⟩ := X126.virtualBack hx (y := (⟨"com/example/sealwright/sealwright/io/XmlWriter", "read", "([BII)I"⟩ : MethodName)) (z := (⟨"com/example/sealwright/sealwright/io/XmlWriter", "read", "([BII)I"⟩ : MethodName)) hown109 (mvT hZ109 (hw _ (List.mem_of_getElem? (i := 90) rfl))) (mvT hZ109 (hw _ (List.mem_of_getElem? (i := 91) rfl))) (notFace_of_selects (args := #[]) (mvT hZ109 (hw _ (List.mem_of_getElem? (i := 93) rfl)))) (mvT hZ109 (hw _ (List.mem_of_getElem? (i := 93) rfl))) (mvT hZ109 (hw _ (List.mem_of_getElem? (i := 92) rfl))) (by decide) (backOf (W := 0) (rm_read l Z a0 hw [] b108 b105 (0 : Int32) (41 : Int32) rb109 rd109 kb109 vs117 ve117 own_B1 k105 (41 : Int32) (List.replicate 41 (0 : Int32)) T117.heap n0 Z117 ⟨Eq_117, Fb_117, Fs_117, Fe_117, Fo_117, Aq_117⟩ g_b108 cg109 Av_b105_105_c117 g_b105 ne_b105_rb109 (by rw [List.length_replicate]; decide) (own_st_b _ _ _ hst2) (by decide) (by decide) (by decide)) hZ109 (hw _ (List.mem_of_getElem? (i := 94) rfl)) (hw _ (List.mem_of_getElem? (i := 11) rfl)) (by decide) (by decide)) q127a q127c (g := (mkF m 310 #[.val (.int vp), .val (.int va), .val (.int vb), .val (.ref sa102), .val (.ref b103), .val (.ref b104), .val (.ref b105), .val (.ref b106), .val (.ref b107), .val (.int yk), .val (.int yo), .val (.int yl), .val (.ref b108), .val (.int r110), .val (.int r117), .val (.int (1 : Int32)), .unset, .unset] [(.int (41 : Int32)), (.int (0 : Int32)), (.ref b105), (.ref b108)])) rfl (by rw [hml]; rfl) (Steps.refl _) (argsL := [(.ref b105), (.int (0 : Int32)), (.int (41 : Int32))]) (rest := []) (lenOf pd_15 rfl) rfl (by show 2 * 0 + _ ≤ _; exact Nat.le_of_eq rfl) (hb hby at_310) (fun _ _ => ⟨rfl, e126, (by decide : 13 + 0 ≤ _), (by decide : 1507 + 0 ≤ _)⟩)
  dsimp only [Pt.U, Pt.locs, Pt.cells, Pt.slots] at X127 l127 y127 z127 st127 hQ127
  subst l127 y127 z127
  obtain ⟨⟨r127, rfl, hr127⟩, N127q, K127⟩ := hQ127
  have N127 := Fr.app N126 N127q
  have G_c127 := own_G.keep G_c117 K127 (allS g_b108 (allS g_b105 all0))
  have Es_102_c127 := Es_102_c117.keep K127
  have Fc_102_c127 := Fc_102_c117.keep K127 (ninS (Exa.ne Es_102_c117 Eq_117 (by decide)) (ninS (Exa.neArv Es_102_c117 Av_b105_105_c117 (hw _ (List.mem_of_getElem? (i := 2) rfl))) nin0))
  have Fv_102_c127 := Fv_102_c117.keep K127 (ninS (Exa.ne Es_102_c117 Eq_117 (by decide)) (ninS (Exa.neArv Es_102_c117 Av_b105_105_c117 (hw _ (List.mem_of_getElem? (i := 2) rfl))) nin0))
  have As_102_c127 := As_102_c117.keep K127 (ninS (Ne.symm (Exa.neArv Eq_117 As_102_c117 (hw _ (List.mem_of_getElem? (i := 10) rfl)))) (ninS (arv_ne As_102_c117 Av_b105_105_c117 (Or.inl (by decide))) nin0))
  have Av_b106_106_c127 := Av_b106_106_c117.keep K127 (ninS ne_b106_b108 (ninS (Ne.symm ne_b105_b106) nin0))
  have Av_b107_107_c127 := Av_b107_107_c117.keep K127 (ninS ne_b107_b108 (ninS (Ne.symm ne_b105_b107) nin0))
  have Eq_117_c127 := Eq_117.keep K127
  have Aq_117_c127 := Aq_117.keep K127 (ninS (Ne.symm ne_b108_rb109) (ninS (Ne.symm ne_b105_rb109) nin0))
  have Ed_109_c127 := Ed_109_c117.keep K127
  have Fl_109_c127 := Fl_109_c117.keep K127 (ninS (Ne.symm ne_b108_rd109) (ninS (Ne.symm ne_b105_rd109) nin0))
  have Ft_109_c127 := Ft_109_c117.keep K127 (ninS (Ne.symm ne_b108_rd109) (ninS (Ne.symm ne_b105_rd109) nin0))
  have Fh_109_c127 := Fh_109_c117.keep K127 (ninS (Ne.symm ne_b108_rd109) (ninS (Ne.symm ne_b105_rd109) nin0))
  have Al_109_c127 := Al_109_c117.keep K127 (ninS (Ne.symm ne_b108_re109) (ninS (Ne.symm ne_b105_re109) nin0))
  have Ax_110_c127 := Ax_110_c117.keep K127 (ninS ne_b103_b108 (ninS ne_b103_b105 nin0))
  have Ax_117_c127 := Ax_117.keep K127 (ninS ne_b104_b108 (ninS ne_b104_b105 nin0))
  have CR127 := CR117.trans (CHr.keep K127 (sfS (Safe.exa hZ109.alike Eq_117 (by decide) (by decide)) (sfS (own_safe hZ109 (own_EWl hw) Av_b105_105_c117 (by decide)) sf0)) CR117.1)
  have kl127 := Nat.le_trans kl117 K127.1
  have Z127 : n0 ≤ T127.heap.size := Nat.le_trans Z117 K127.1
  obtain ⟨hp127, ⟨Eq_127, Fb_127, Fs_127, Fe_127, Fo_127, Aq_127⟩, Ax_127⟩ := hr127
  obtain ⟨vs127, hvs127⟩ : ∃ z, z = own_s vs117 ve117 r127 := ⟨_, rfl⟩
  obtain ⟨ve127, hve127⟩ : ∃ z, z = own_e vs117 ve117 r127 := ⟨_, rfl⟩
  rw [← hvs127] at Fs_127
  rw [← hve127] at Fe_127
  have hst3 := own_st_s _ _ _ _ _ _ _ hst2 hp127 hvs127 hve127
  have hr3_ := own_st_r _ _ _ _ _ hst2 hp127
  have hst3' : own_st 39 vs127 ve127 := by have q := hst3; rw [u41] at hr3_; rw [show (0 : Int) + r110.toInt + r117.toInt + r127.toInt = 39 by omega] at q; exact q
  have hrt := own_addn r110 r117 hr1_.1 (by omega) hr2_.1 (by omega)
  have hr3b := hr3_
  obtain ⟨hp128, T128, L128, X128, N128, e128, st128⟩ : (True) ∧ ∃ (T' : State) (Lc : List Loc), Stand p l e room_1 (s.setVm T109.vm) m #[(.int vp), (.int va), (.int vb)] below meth c T' Lc 13 1507 ∧ Fr n0 Lc ∧ T'.heap = T127.heap ∧ ∀ t, Steps p.tables e below (T'.setTop (mkF m 365 #[.val (.int vp), .val (.int va), .val (.int vb), .val (.ref sa102), .val (.ref b103), .val (.ref b104), .val (.ref b105), .val (.ref b106), .val (.ref b107), .val (.int yk), .val (.int yo), .val (.int yl), .val (.ref b108), .val (.int r110), .val (.int r117), .val (.int (1 : Int32)), .val (.int r127), .unset] [])) t → Steps p.tables e below (T127.setTop (mkF m 330 #[.val (.int vp), .val (.int va), .val (.int vb), .val (.ref sa102), .val (.ref b103), .val (.ref b104), .val (.ref b105), .val (.ref b106), .val (.ref b107), .val (.int yk), .val (.int yo), .val (.int yl), .val (.ref b108), .val (.int r110), .val (.int r117), .val (.int (1 : Int32)), .val (.int r127), .unset] [])) t := by
    by_cases h332_129 : (0 : Int32) < r127
    · obtain ⟨cq131, kq131, q131a, q131b, q131c⟩ := isOf hZ109 rfl Es_102_c127
      obtain ⟨_, _, ⟨T131, L131, k131, n131⟩, -, X131, ⟨Lc131, hQ131, l131, y131, z131⟩, st131⟩ := X127.virtualBack hx (y := (⟨"java/lang/String", "charAt", "(I)C"⟩ : MethodName)) (z := (⟨"java/lang/String", "charAt", "(I)C"⟩ : MethodName)) hown109 (mvT hZ109 (hw _ (List.mem_of_getElem? (i := 110) rfl))) (mvT hZ109 (hw _ (List.mem_of_getElem? (i := 111) rfl))) (notFace_of_selects (args := #[]) (mvT hZ109 (hw _ (List.mem_of_getElem? (i := 113) rfl)))) (mvT hZ109 (hw _ (List.mem_of_getElem? (i := 113) rfl))) (mvT hZ109 (hw _ (List.mem_of_getElem? (i := 112) rfl))) (by decide) (backOf (W := 1) (rm_cat l Z a0 hw [] sa102 (r110 + r117) sb102 ks102 (39 : Int32) own_D T127.heap n0 Z127 G_c127 ⟨Es_102_c127, Fc_102_c127, Fv_102_c127, As_102_c127⟩ (own_i39 _ _ (by rw [hrt]; omega) (by rw [hrt, u39]; have := own_pos _ h332_129; omega)) own_D_a) hZ109 (hw _ (List.mem_of_getElem? (i := 114) rfl)) (hw _ (List.mem_of_getElem? (i := 1) rfl)) (by decide) (by decide)) q131a q131c (g := (mkF m 345 #[.val (.int vp), .val (.int va), .val (.int vb), .val (.ref sa102), .val (.ref b103), .val (.ref b104), .val (.ref b105), .val (.ref b106), .val (.ref b107), .val (.int yk), .val (.int yo), .val (.int yl), .val (.ref b108), .val (.int r110), .val (.int r117), .val (.int (1 : Int32)), .val (.int r127), .unset] [(.int (r110 + r117)), (.ref sa102), (.int ((own_cp own_B1 (List.replicate 41 (0 : Int32)) (vs117).toNatClampNeg ((0 : Int32)).toNatClampNeg (r127).toNatClampNeg).getD ((0 : Int32)).toNatClampNeg 0))])) rfl (by rw [hml]; rfl) (Steps.refl _) (argsL := [(.int (r110 + r117))]) (rest := [(.int ((own_cp own_B1 (List.replicate 41 (0 : Int32)) (vs117).toNatClampNeg ((0 : Int32)).toNatClampNeg (r127).toNatClampNeg).getD ((0 : Int32)).toNatClampNeg 0))]) (lenOf pd_14 rfl) rfl (by show 2 * 0 + _ ≤ _; exact Nat.le_of_eq rfl) (hb hby at_345) (fun _ _ => ⟨rfl, rfl, (by decide : 13 + 0 ≤ _), (by decide : 1507 + 0 ≤ _)⟩)
      dsimp only [Pt.U, Pt.locs, Pt.cells, Pt.slots] at X131 l131 y131 z131 st131 hQ131
      subst l131 y131 z131
      obtain ⟨⟨r131, rfl, hr131⟩, N131q, e131⟩ := hQ131
      have N131 := Fr.app N127 N131q
      refine ⟨trivial, T131, _, X131, N131, e131, fun t kt => ?_⟩
      show Steps p.tables e below (T127.setTop (mkF m 330 #[.val (.int vp), .val (.int va), .val (.int vb), .val (.ref sa102), .val (.ref b103), .val (.ref b104), .val (.ref b105), .val (.ref b106), .val (.ref b107), .val (.int yk), .val (.int yo), .val (.int yl), .val (.ref b108), .val (.int r110), .val (.int r117), .val (.int (1 : Int32)), .val (.int r127), .unset] [])) _
      refine XS.iload X127.here hx rfl (hb hby at_330) rfl ?_
      show Steps p.tables e below (T127.setTop (mkF m 332 #[.val (.int vp), .val (.int va), .val (.int vb), .val (.ref sa102), .val (.ref b103), .val (.ref b104), .val (.ref b105), .val (.ref b106), .val (.ref b107), .val (.int yk), .val (.int yo), .val (.int yl), .val (.ref b108), .val (.int r110), .val (.int r117), .val (.int (1 : Int32)), .val (.int r127), .unset] [(.int r127)])) _
      refine XS.ifNo X127.here hx rfl (hb hby at_332) rfl ((if0 _ _).trans (tlt h332_129).2.2.2) ?_
      show Steps p.tables e below (T127.setTop (mkF m 335 #[.val (.int vp), .val (.int va), .val (.int vb), .val (.ref sa102), .val (.ref b103), .val (.ref b104), .val (.ref b105), .val (.ref b106), .val (.ref b107), .val (.int yk), .val (.int yo), .val (.int yl), .val (.ref b108), .val (.int r110), .val (.int r117), .val (.int (1 : Int32)), .val (.int r127), .unset] [])) _
      refine XS.aload X127.here hx rfl (hb hby at_335) rfl rfl ?_
      show Steps p.tables e below (T127.setTop (mkF m 337 #[.val (.int vp), .val (.int va), .val (.int vb), .val (.ref sa102), .val (.ref b103), .val (.ref b104), .val (.ref b105), .val (.ref b106), .val (.ref b107), .val (.int yk), .val (.int yo), .val (.int yl), .val (.ref b108), .val (.int r110), .val (.int r117), .val (.int (1 : Int32)), .val (.int r127), .unset] [(.ref b105)])) _
      refine XS.iconst X127.here hx rfl (hb hby at_337) ?_
      show Steps p.tables e below (T127.setTop (mkF m 338 #[.val (.int vp), .val (.int va), .val (.int vb), .val (.ref sa102), .val (.ref b103), .val (.ref b104), .val (.ref b105), .val (.ref b106), .val (.ref b107), .val (.int yk), .val (.int yo), .val (.int yl), .val (.ref b108), .val (.int r110), .val (.int r117), .val (.int (1 : Int32)), .val (.int r127), .unset] [(.int (0 : Int32)), (.ref b105)])) _
      obtain ⟨cl130, Ar130, q130, S130, N130a, H130, G130⟩ := id Ax_127
      have hin130 : ¬ ((0 : Int32) < 0 ∨ cl130.slots.size ≤ ((0 : Int32)).toNatClampNeg) := inb_of S130 (⟨by decide, by decide⟩)
      have hat130 : cl130.slots[((0 : Int32)).toNatClampNeg]? = some (.int ((own_cp own_B1 (List.replicate 41 (0 : Int32)) (vs117).toNatClampNeg ((0 : Int32)).toNatClampNeg (r127).toNatClampNeg).getD ((0 : Int32)).toNatClampNeg 0)) := H130.at hin130 (own_getD (own_cp own_B1 (List.replicate 41 (0 : Int32)) (vs117).toNatClampNeg ((0 : Int32)).toNatClampNeg (r127).toNatClampNeg) _)
      refine X127.baloadBytes hx (j := (0 : Int32)) (v := (.int ((own_cp own_B1 (List.replicate 41 (0 : Int32)) (vs117).toNatClampNeg ((0 : Int32)).toNatClampNeg (r127).toNatClampNeg).getD ((0 : Int32)).toNatClampNeg 0))) Ar130.1 (State.isArrayOf_alike hZ109.alike Ar130.2.1) Ar130.2.2 hin130 hat130 (g := (mkF m 338 #[.val (.int vp), .val (.int va), .val (.int vb), .val (.ref sa102), .val (.ref b103), .val (.ref b104), .val (.ref b105), .val (.ref b106), .val (.ref b107), .val (.int yk), .val (.int yo), .val (.int yl), .val (.ref b108), .val (.int r110), .val (.int r117), .val (.int (1 : Int32)), .val (.int r127), .unset] [(.int (0 : Int32)), (.ref b105)])) rfl rfl (hb hby at_338) _ ?_
      show Steps p.tables e below (T127.setTop (mkF m 339 #[.val (.int vp), .val (.int va), .val (.int vb), .val (.ref sa102), .val (.ref b103), .val (.ref b104), .val (.ref b105), .val (.ref b106), .val (.ref b107), .val (.int yk), .val (.int yo), .val (.int yl), .val (.ref b108), .val (.int r110), .val (.int r117), .val (.int (1 : Int32)), .val (.int r127), .unset] [(.int ((own_cp own_B1 (List.replicate 41 (0 : Int32)) (vs117).toNatClampNeg ((0 : Int32)).toNatClampNeg (r127).toNatClampNeg).getD ((0 : Int32)).toNatClampNeg 0))])) _
      refine XS.aloadN X127.here hx rfl (hb hby at_339) rfl rfl ?_
      show Steps p.tables e below (T127.setTop (mkF m 340 #[.val (.int vp), .val (.int va), .val (.int vb), .val (.ref sa102), .val (.ref b103), .val (.ref b104), .val (.ref b105), .val (.ref b106), .val (.ref b107), .val (.int yk), .val (.int yo), .val (.int yl), .val (.ref b108), .val (.int r110), .val (.int r117), .val (.int (1 : Int32)), .val (.int r127), .unset] [(.ref sa102), (.int ((own_cp own_B1 (List.replicate 41 (0 : Int32)) (vs117).toNatClampNeg ((0 : Int32)).toNatClampNeg (r127).toNatClampNeg).getD ((0 : Int32)).toNatClampNeg 0))])) _
      refine XS.iload X127.here hx rfl (hb hby at_340) rfl ?_
      show Steps p.tables e below (T127.setTop (mkF m 342 #[.val (.int vp), .val (.int va), .val (.int vb), .val (.ref sa102), .val (.ref b103), .val (.ref b104), .val (.ref b105), .val (.ref b106), .val (.ref b107), .val (.int yk), .val (.int yo), .val (.int yl), .val (.ref b108), .val (.int r110), .val (.int r117), .val (.int (1 : Int32)), .val (.int r127), .unset] [(.int r110), (.ref sa102), (.int ((own_cp own_B1 (List.replicate 41 (0 : Int32)) (vs117).toNatClampNeg ((0 : Int32)).toNatClampNeg (r127).toNatClampNeg).getD ((0 : Int32)).toNatClampNeg 0))])) _
      refine XS.iload X127.here hx rfl (hb hby at_342) rfl ?_
      show Steps p.tables e below (T127.setTop (mkF m 344 #[.val (.int vp), .val (.int va), .val (.int vb), .val (.ref sa102), .val (.ref b103), .val (.ref b104), .val (.ref b105), .val (.ref b106), .val (.ref b107), .val (.int yk), .val (.int yo), .val (.int yl), .val (.ref b108), .val (.int r110), .val (.int r117), .val (.int (1 : Int32)), .val (.int r127), .unset] [(.int r117), (.int r110), (.ref sa102), (.int ((own_cp own_B1 (List.replicate 41 (0 : Int32)) (vs117).toNatClampNeg ((0 : Int32)).toNatClampNeg (r127).toNatClampNeg).getD ((0 : Int32)).toNatClampNeg 0))])) _
      refine XS.iadd X127.here hx rfl (hb hby at_344) rfl ?_
      show Steps p.tables e below (T127.setTop (mkF m 345 #[.val (.int vp), .val (.int va), .val (.int vb), .val (.ref sa102), .val (.ref b103), .val (.ref b104), .val (.ref b105), .val (.ref b106), .val (.ref b107), .val (.int yk), .val (.int yo), .val (.int yl), .val (.ref b108), .val (.int r110), .val (.int r117), .val (.int (1 : Int32)), .val (.int r127), .unset] [(.int (r110 + r117)), (.ref sa102), (.int ((own_cp own_B1 (List.replicate 41 (0 : Int32)) (vs117).toNatClampNeg ((0 : Int32)).toNatClampNeg (r127).toNatClampNeg).getD ((0 : Int32)).toNatClampNeg 0))])) _
      refine st131.trans ?_
      show Steps p.tables e below (T131.setTop (mkF m 348 #[.val (.int vp), .val (.int va), .val (.int vb), .val (.ref sa102), .val (.ref b103), .val (.ref b104), .val (.ref b105), .val (.ref b106), .val (.ref b107), .val (.int yk), .val (.int yo), .val (.int yl), .val (.ref b108), .val (.int r110), .val (.int r117), .val (.int (1 : Int32)), .val (.int r127), .unset] [(.int r131), (.int ((own_cp own_B1 (List.replicate 41 (0 : Int32)) (vs117).toNatClampNeg ((0 : Int32)).toNatClampNeg (r127).toNatClampNeg).getD ((0 : Int32)).toNatClampNeg 0))])) _
      refine XS.icmpNo X131.here hx rfl (hb hby at_348) rfl (teq (by rw [hr131]; have p := own_pos _ h332_129; have n1 := own_nat (r110 + r117) (by rw [hrt]; omega); have q := own_got 41 _ vs117 ve117 (0 : Int32) r127 0 hst2 (by decide) hr3_.1 (by omega) (by rw [u0]; omega) (by decide) (by rw [u0]; omega); rw [show ((0 : Int32)).toNatClampNeg = 0 from by decide] at q ⊢; rw [q]; congr 1; rw [u0]; omega : ((own_cp own_B1 (List.replicate 41 (0 : Int32)) (vs117).toNatClampNeg ((0 : Int32)).toNatClampNeg (r127).toNatClampNeg).getD ((0 : Int32)).toNatClampNeg 0) = r131)).2 ?_
      show Steps p.tables e below (T131.setTop (mkF m 351 #[.val (.int vp), .val (.int va), .val (.int vb), .val (.ref sa102), .val (.ref b103), .val (.ref b104), .val (.ref b105), .val (.ref b106), .val (.ref b107), .val (.int yk), .val (.int yo), .val (.int yl), .val (.ref b108), .val (.int r110), .val (.int r117), .val (.int (1 : Int32)), .val (.int r127), .unset] [])) _
      refine XS.aload X131.here hx rfl (hb hby at_351) rfl rfl ?_
      show Steps p.tables e below (T131.setTop (mkF m 353 #[.val (.int vp), .val (.int va), .val (.int vb), .val (.ref sa102), .val (.ref b103), .val (.ref b104), .val (.ref b105), .val (.ref b106), .val (.ref b107), .val (.int yk), .val (.int yo), .val (.int yl), .val (.ref b108), .val (.int r110), .val (.int r117), .val (.int (1 : Int32)), .val (.int r127), .unset] [(.ref b105)])) _
      refine XS.iload X131.here hx rfl (hb hby at_353) rfl ?_
      show Steps p.tables e below (T131.setTop (mkF m 355 #[.val (.int vp), .val (.int va), .val (.int vb), .val (.ref sa102), .val (.ref b103), .val (.ref b104), .val (.ref b105), .val (.ref b106), .val (.ref b107), .val (.int yk), .val (.int yo), .val (.int yl), .val (.ref b108), .val (.int r110), .val (.int r117), .val (.int (1 : Int32)), .val (.int r127), .unset] [(.int r127), (.ref b105)])) _
      refine XS.iconst X131.here hx rfl (hb hby at_355) ?_
      show Steps p.tables e below (T131.setTop (mkF m 356 #[.val (.int vp), .val (.int va), .val (.int vb), .val (.ref sa102), .val (.ref b103), .val (.ref b104), .val (.ref b105), .val (.ref b106), .val (.ref b107), .val (.int yk), .val (.int yo), .val (.int yl), .val (.ref b108), .val (.int r110), .val (.int r117), .val (.int (1 : Int32)), .val (.int r127), .unset] [(.int (1 : Int32)), (.int r127), (.ref b105)])) _
      refine XS.isub X131.here hx rfl (hb hby at_356) rfl ?_
      show Steps p.tables e below (T131.setTop (mkF m 357 #[.val (.int vp), .val (.int va), .val (.int vb), .val (.ref sa102), .val (.ref b103), .val (.ref b104), .val (.ref b105), .val (.ref b106), .val (.ref b107), .val (.int yk), .val (.int yo), .val (.int yl), .val (.ref b108), .val (.int r110), .val (.int r117), .val (.int (1 : Int32)), .val (.int r127), .unset] [(.int (r127 - (1 : Int32))), (.ref b105)])) _
      obtain ⟨cl132, Ar132, q132, S132, N132a, H132, G132⟩ := id Ax_127
      have hin132 : ¬ ((r127 - (1 : Int32)) < 0 ∨ cl132.slots.size ≤ ((r127 - (1 : Int32))).toNatClampNeg) := inb_of S132 (own_i39 _ _ (by rw [own_sub1 _ (own_pos _ h332_129)]; have := own_pos _ h332_129; omega) (by rw [own_sub1 _ (own_pos _ h332_129), u41]; omega))
      have hat132 : cl132.slots[((r127 - (1 : Int32))).toNatClampNeg]? = some (.int ((own_cp own_B1 (List.replicate 41 (0 : Int32)) (vs117).toNatClampNeg ((0 : Int32)).toNatClampNeg (r127).toNatClampNeg).getD ((r127 - (1 : Int32))).toNatClampNeg 0)) := H132.at hin132 (own_getD (own_cp own_B1 (List.replicate 41 (0 : Int32)) (vs117).toNatClampNeg ((0 : Int32)).toNatClampNeg (r127).toNatClampNeg) _)
      refine X131.baloadBytes hx (j := (r127 - (1 : Int32))) (v := (.int ((own_cp own_B1 (List.replicate 41 (0 : Int32)) (vs117).toNatClampNeg ((0 : Int32)).toNatClampNeg (r127).toNatClampNeg).getD ((r127 - (1 : Int32))).toNatClampNeg 0))) (by rw [e131]; exact Ar132.1) (State.isArrayOf_alike hZ109.alike Ar132.2.1) Ar132.2.2 hin132 hat132 (g := (mkF m 357 #[.val (.int vp), .val (.int va), .val (.int vb), .val (.ref sa102), .val (.ref b103), .val (.ref b104), .val (.ref b105), .val (.ref b106), .val (.ref b107), .val (.int yk), .val (.int yo), .val (.int yl), .val (.ref b108), .val (.int r110), .val (.int r117), .val (.int (1 : Int32)), .val (.int r127), .unset] [(.int (r127 - (1 : Int32))), (.ref b105)])) rfl rfl (hb hby at_357) _ ?_
      show Steps p.tables e below (T131.setTop (mkF m 358 #[.val (.int vp), .val (.int va), .val (.int vb), .val (.ref sa102), .val (.ref b103), .val (.ref b104), .val (.ref b105), .val (.ref b106), .val (.ref b107), .val (.int yk), .val (.int yo), .val (.int yl), .val (.ref b108), .val (.int r110), .val (.int r117), .val (.int (1 : Int32)), .val (.int r127), .unset] [(.int ((own_cp own_B1 (List.replicate 41 (0 : Int32)) (vs117).toNatClampNeg ((0 : Int32)).toNatClampNeg (r127).toNatClampNeg).getD ((r127 - (1 : Int32))).toNatClampNeg 0))])) _
      refine XS.bipush X131.here hx rfl (hb hby at_358) ?_
      show Steps p.tables e below (T131.setTop (mkF m 360 #[.val (.int vp), .val (.int va), .val (.int vb), .val (.ref sa102), .val (.ref b103), .val (.ref b104), .val (.ref b105), .val (.ref b106), .val (.ref b107), .val (.int yk), .val (.int yo), .val (.int yl), .val (.ref b108), .val (.int r110), .val (.int r117), .val (.int (1 : Int32)), .val (.int r127), .unset] [(.int (10 : Int32)), (.int ((own_cp own_B1 (List.replicate 41 (0 : Int32)) (vs117).toNatClampNeg ((0 : Int32)).toNatClampNeg (r127).toNatClampNeg).getD ((r127 - (1 : Int32))).toNatClampNeg 0))])) _
      refine XS.icmpYes X131.here hx rfl (pc0 := 360) (pc' := 365) rfl (hb hby at_360) rfl (teq (by have p := own_pos _ h332_129; have s1 := own_sub1 _ p; have n1 := own_nat (r127 - (1 : Int32)) (by omega); have q := own_got 41 _ vs117 ve117 (0 : Int32) r127 (r127 - (1 : Int32)).toNatClampNeg hst2 (by decide) hr3_.1 (by omega) (by rw [u0]; omega) (by rw [u0]; omega) (by rw [u0]; omega); rw [q, show ((0 : Int) + r110.toInt + r117.toInt + (((r127 - (1 : Int32)).toNatClampNeg : Int) - (0 : Int32).toInt)).toNat = 38 by rw [u0]; omega]; decide +kernel : ((own_cp own_B1 (List.replicate 41 (0 : Int32)) (vs117).toNatClampNeg ((0 : Int32)).toNatClampNeg (r127).toNatClampNeg).getD ((r127 - (1 : Int32))).toNatClampNeg 0) = (10 : Int32))).1 (by decide) (by decide) ?_
      exact kt
    · refine ⟨trivial, T127, _, X127, N127, rfl, fun t kt => ?_⟩
      show Steps p.tables e below (T127.setTop (mkF m 330 #[.val (.int vp), .val (.int va), .val (.int vb), .val (.ref sa102), .val (.ref b103), .val (.ref b104), .val (.ref b105), .val (.ref b106), .val (.ref b107), .val (.int yk), .val (.int yo), .val (.int yl), .val (.ref b108), .val (.int r110), .val (.int r117), .val (.int (1 : Int32)), .val (.int r127), .unset] [])) _
      refine XS.iload X127.here hx rfl (hb hby at_330) rfl ?_
      show Steps p.tables e below (T127.setTop (mkF m 332 #[.val (.int vp), .val (.int va), .val (.int vb), .val (.ref sa102), .val (.ref b103), .val (.ref b104), .val (.ref b105), .val (.ref b106), .val (.ref b107), .val (.int yk), .val (.int yo), .val (.int yl), .val (.ref b108), .val (.int r110), .val (.int r117), .val (.int (1 : Int32)), .val (.int r127), .unset] [(.int r127)])) _
      refine XS.ifYes X127.here hx rfl (pc0 := 332) (pc' := 365) rfl (hb hby at_332) rfl ((if0 _ _).trans (flt h332_129).2.2.2) (by decide) (by decide) ?_
      exact kt
  obtain ⟨cq133, kq133, q133a, q133b, q133c⟩ := isOf hZ109 e128 Eq_127
  obtain ⟨_, _, ⟨T133, L133, k133, n133⟩, -, X133, ⟨Lc133, hQ133, l133, y133, z133⟩, st133⟩ := X128.virtualBack hx (y := (⟨"com/example/sealwright/sealwright/io/XmlWriter", "read", "([BII)I"⟩ : MethodName)) (z := (⟨"com/example/sealwright/sealwright/io/XmlWriter", "read", "([BII)I"⟩ : MethodName)) hown109 (mvT hZ109 (hw _ (List.mem_of_getElem? (i := 90) rfl))) (mvT hZ109 (hw _ (List.mem_of_getElem? (i := 91) rfl))) (notFace_of_selects (args := #[]) (mvT hZ109 (hw _ (List.mem_of_getElem? (i := 93) rfl)))) (mvT hZ109 (hw _ (List.mem_of_getElem? (i := 93) rfl))) (mvT hZ109 (hw _ (List.mem_of_getElem? (i := 92) rfl))) (by decide) (backOf (W := 0) (rm_read l Z a0 hw [] b108 b106 (0 : Int32) (41 : Int32) rb109 rd109 kb109 vs127 ve127 own_B1 k106 (41 : Int32) (List.replicate 41 (0 : Int32)) T127.heap n0 Z127 ⟨Eq_127, Fb_127, Fs_127, Fe_127, Fo_127, Aq_127⟩ g_b108 cg109 Av_b106_106_c127 g_b106 ne_b106_rb109 (by rw [List.length_replicate]; decide) (own_st_b _ _ _ hst3') (by decide) (by decide) (by decide)) hZ109 (hw _ (List.mem_of_getElem? (i := 94) rfl)) (hw _ (List.mem_of_getElem? (i := 11) rfl)) (by decide) (by decide)) q133a q133c (g := (mkF m 372 #[.val (.int vp), .val (.int va), .val (.int vb), .val (.ref sa102), .val (.ref b103), .val (.ref b104), .val (.ref b105), .val (.ref b106), .val (.ref b107), .val (.int yk), .val (.int yo), .val (.int yl), .val (.ref b108), .val (.int r110), .val (.int r117), .val (.int (1 : Int32)), .val (.int r127), .unset] [(.int (41 : Int32)), (.int (0 : Int32)), (.ref b106), (.ref b108)])) rfl (by rw [hml]; rfl) (Steps.refl _) (argsL := [(.ref b106), (.int (0 : Int32)), (.int (41 : Int32))]) (rest := []) (lenOf pd_15 rfl) rfl (by show 2 * 0 + _ ≤ _; exact Nat.le_of_eq rfl) (hb hby at_372) (fun _ _ => ⟨rfl, e128, (by decide : 13 + 0 ≤ _), (by decide : 1507 + 0 ≤ _)⟩)
  dsimp only [Pt.U, Pt.locs, Pt.cells, Pt.slots] at X133 l133 y133 z133 st133 hQ133
  subst l133 y133 z133
  obtain ⟨⟨r133, rfl, hr133⟩, N133q, K133⟩ := hQ133
  have N133 := Fr.app N128 N133q
  have G_c133 := own_G.keep G_c127 K133 (allS g_b108 (allS g_b106 all0))
  have Es_102_c133 := Es_102_c127.keep K133
  have Fc_102_c133 := Fc_102_c127.keep K133 (ninS (Exa.ne Es_102_c127 Eq_127 (by decide)) (ninS (Exa.neArv Es_102_c127 Av_b106_106_c127 (hw _ (List.mem_of_getElem? (i := 2) rfl))) nin0))
  have Fv_102_c133 := Fv_102_c127.keep K133 (ninS (Exa.ne Es_102_c127 Eq_127 (by decide)) (ninS (Exa.neArv Es_102_c127 Av_b106_106_c127 (hw _ (List.mem_of_getElem? (i := 2) rfl))) nin0))
  have As_102_c133 := As_102_c127.keep K133 (ninS (Ne.symm (Exa.neArv Eq_127 As_102_c127 (hw _ (List.mem_of_getElem? (i := 10) rfl)))) (ninS (arv_ne As_102_c127 Av_b106_106_c127 (Or.inl (by decide))) nin0))
  have Av_b107_107_c133 := Av_b107_107_c127.keep K133 (ninS ne_b107_b108 (ninS (Ne.symm ne_b106_b107) nin0))
  have Eq_127_c133 := Eq_127.keep K133
  have Aq_127_c133 := Aq_127.keep K133 (ninS (Ne.symm ne_b108_rb109) (ninS (Ne.symm ne_b106_rb109) nin0))
  have Ed_109_c133 := Ed_109_c127.keep K133
  have Fl_109_c133 := Fl_109_c127.keep K133 (ninS (Ne.symm ne_b108_rd109) (ninS (Ne.symm ne_b106_rd109) nin0))
  have Ft_109_c133 := Ft_109_c127.keep K133 (ninS (Ne.symm ne_b108_rd109) (ninS (Ne.symm ne_b106_rd109) nin0))
  have Fh_109_c133 := Fh_109_c127.keep K133 (ninS (Ne.symm ne_b108_rd109) (ninS (Ne.symm ne_b106_rd109) nin0))
  have Al_109_c133 := Al_109_c127.keep K133 (ninS (Ne.symm ne_b108_re109) (ninS (Ne.symm ne_b106_re109) nin0))
  have Ax_110_c133 := Ax_110_c127.keep K133 (ninS ne_b103_b108 (ninS ne_b103_b106 nin0))
  have Ax_117_c133 := Ax_117_c127.keep K133 (ninS ne_b104_b108 (ninS ne_b104_b106 nin0))
  have Ax_127_c133 := Ax_127.keep K133 (ninS ne_b105_b108 (ninS ne_b105_b106 nin0))
  have CR133 := CR127.trans (CHr.keep K133 (sfS (Safe.exa hZ109.alike Eq_127 (by decide) (by decide)) (sfS (own_safe hZ109 (own_EWl hw) Av_b106_106_c127 (by decide)) sf0)) CR127.1)
  have kl133 := Nat.le_trans kl127 K133.1
  have Z133 : n0 ≤ T133.heap.size := Nat.le_trans Z127 K133.1
  obtain ⟨hp133, ⟨Eq_133, Fb_133, Fs_133, Fe_133, Fo_133, Aq_133⟩, Ax_133⟩ := hr133
  obtain ⟨vs133, hvs133⟩ : ∃ z, z = own_s vs127 ve127 r133 := ⟨_, rfl⟩
  obtain ⟨ve133, hve133⟩ : ∃ z, z = own_e vs127 ve127 r133 := ⟨_, rfl⟩
  rw [← hvs133] at Fs_133
  rw [← hve133] at Fe_133
  have hst3 := hst3'
  have hst4 := own_st_s _ _ _ _ _ _ _ hst3 hp133 hvs133 hve133
  have hr4_ := own_st_r _ _ _ _ _ hst3 hp133
  have hz4 : r133.toInt = 0 := by omega
  have hq4_vs133 : (0 : Int32) = vs133 := Int32.toInt_inj.mp (by rw [u0]; rcases hst4 with h | h <;> omega)
  have hq4_ve133 : (0 : Int32) = ve133 := Int32.toInt_inj.mp (by rw [u0]; rcases hst4 with h | h <;> omega)
  rw [← hq4_vs133] at Fs_133
  rw [← hq4_ve133] at Fe_133
  obtain ⟨sa134, T134, h134, k134, sb134, ks134, X134, e134, E134, hS134, kq134, hZ134, hown134, Es_134, Fc_134, Fv_134, As_134, la134, lb134, CL134, Lt134, SF134, st134⟩ := ldcCH X133 hx hZ109 hown109 (hw _ (List.mem_of_getElem? (i := 120) rfl)) (own_wS hw) rfl hS109 kl133 (own_EW hw) (List.mem_of_getElem? (i := 6) rfl) CR133.1 (vs := own_ta.map Value.int) (z := (1 : Int32)) own_ta_t (by decide) (by decide) (g := (mkF m 382 #[.val (.int vp), .val (.int va), .val (.int vb), .val (.ref sa102), .val (.ref b103), .val (.ref b104), .val (.ref b105), .val (.ref b106), .val (.ref b107), .val (.int yk), .val (.int yo), .val (.int yl), .val (.ref b108), .val (.int r110), .val (.int r117), .val (.int (1 : Int32)), .val (.int r127), .unset] [(.ref b108)])) rfl (hb hby at_382) (n := 4) (by decide) (by decide) (by decide) (by decide)
  have G_c134 := own_G.ext G_c133 E134
  have Es_102_c134 := Es_102_c133.ext E134
  have Fc_102_c134 := Fc_102_c133.ext E134
  have Fv_102_c134 := Fv_102_c133.ext E134
  have As_102_c134 := As_102_c133.ext E134
  have Av_b107_107_c134 := Av_b107_107_c133.ext E134
  have Eq_133_c134 := Eq_133.ext E134
  have Aq_133_c134 := Aq_133.ext E134
  have Ed_109_c134 := Ed_109_c133.ext E134
  have Fl_109_c134 := Fl_109_c133.ext E134
  have Ft_109_c134 := Ft_109_c133.ext E134
  have Fh_109_c134 := Fh_109_c133.ext E134
  have Al_109_c134 := Al_109_c133.ext E134
  have Ax_110_c134 := Ax_110_c133.ext E134
  have Ax_117_c134 := Ax_117_c133.ext E134
  have Ax_127_c134 := Ax_127_c133.ext E134
  have Fb_133_c134 := Fb_133.ext E134
  have Fs_133_c134 := Fs_133.ext E134
  have Fe_133_c134 := Fe_133.ext E134
  have Fo_133_c134 := Fo_133.ext E134
  have Ax_133_c134 := Ax_133.ext E134
  have CR134 := CR133.trans (CHr.ext E134 CR133.1)
  have kl134 := Nat.le_trans kl133 E134.1
  have CX134 := CR133.trans CL134
  have Z134 : n0 ≤ h134.size := Nat.le_trans Z133 E134.1
  obtain ⟨sa135, T135, h135, k135, sb135, ks135, X135, e135, E135, hS135, kq135, hZ135, hown135, Es_135, Fc_135, Fv_135, As_135, la135, lb135, CL135, Lt135, SF135, st135⟩ := ldcCH X134 hx hZ134 hown134 (hw _ (List.mem_of_getElem? (i := 121) rfl)) (own_wS hw) e134 hS134 kq134 (own_EW hw) (List.mem_of_getElem? (i := 7) rfl) CX134.1 (vs := own_te.map Value.int) (z := (0 : Int32)) own_te_t (by decide) (by decide) (g := (mkF m 384 #[.val (.int vp), .val (.int va), .val (.int vb), .val (.ref sa102), .val (.ref b103), .val (.ref b104), .val (.ref b105), .val (.ref b106), .val (.ref b107), .val (.int yk), .val (.int yo), .val (.int yl), .val (.ref b108), .val (.int r110), .val (.int r117), .val (.int (1 : Int32)), .val (.int r127), .unset] [(.ref sa134), (.ref b108)])) rfl (hb hby at_384) (n := 0) (by decide) (by decide) (by decide) (by decide)
  have G_c135 := own_G.ext G_c134 E135
  have Es_102_c135 := Es_102_c134.ext E135
  have Fc_102_c135 := Fc_102_c134.ext E135
  have Fv_102_c135 := Fv_102_c134.ext E135
  have As_102_c135 := As_102_c134.ext E135
  have Av_b107_107_c135 := Av_b107_107_c134.ext E135
  have Eq_133_c135 := Eq_133_c134.ext E135
  have Aq_133_c135 := Aq_133_c134.ext E135
  have Ed_109_c135 := Ed_109_c134.ext E135
  have Fl_109_c135 := Fl_109_c134.ext E135
  have Ft_109_c135 := Ft_109_c134.ext E135
  have Fh_109_c135 := Fh_109_c134.ext E135
  have Al_109_c135 := Al_109_c134.ext E135
  have Ax_110_c135 := Ax_110_c134.ext E135
  have Ax_117_c135 := Ax_117_c134.ext E135
  have Ax_127_c135 := Ax_127_c134.ext E135
  have Fb_133_c135 := Fb_133_c134.ext E135
  have Fs_133_c135 := Fs_133_c134.ext E135
  have Fe_133_c135 := Fe_133_c134.ext E135
  have Fo_133_c135 := Fo_133_c134.ext E135
  have Ax_133_c135 := Ax_133_c134.ext E135
  have Es_134_c135 := Es_134.ext E135
  have Fc_134_c135 := Fc_134.ext E135
  have Fv_134_c135 := Fv_134.ext E135
  have As_134_c135 := As_134.ext E135
  have CR135 := CX134.trans (CHr.ext E135 CX134.1)
  have kl135 := Nat.le_trans kq134 E135.1
  have CX135 := CX134.trans CL135
  have Z135 : n0 ≤ h135.size := Nat.le_trans Z134 E135.1
  obtain ⟨cq136, kq136, q136a, q136b, q136c⟩ := isOf hZ135 e135 Eq_133_c135
  obtain ⟨_, _, ⟨T136, L136, k136, n136⟩, -, Xa136, Sa136, gr136, ⟨Lc136, hQ136, l136, y136, z136, CL136⟩, st136⟩ := X135.virtualBackS hx (y := (⟨"com/example/sealwright/sealwright/io/XmlWriter", "element", "(Ljava/lang/String;Ljava/lang/CharSequence;)Lcom/example/sealwright/sealwright/io/XmlWriter;"⟩ : MethodName)) (z := (⟨"com/example/sealwright/sealwright/io/XmlWriter", "element", "(Ljava/lang/String;Ljava/lang/CharSequence;)Lcom/example/sealwright/sealwright/io/XmlWriter;"⟩ : MethodName)) hown135 (mvT hZ135 (hw _ (List.mem_of_getElem? (i := 122) rfl))) (mvT hZ135 (hw _ (List.mem_of_getElem? (i := 123) rfl))) (notFace_of_selects (args := #[]) (mvT hZ135 (hw _ (List.mem_of_getElem? (i := 125) rfl)))) (mvT hZ135 (hw _ (List.mem_of_getElem? (i := 125) rfl))) (mvT hZ135 (hw _ (List.mem_of_getElem? (i := 124) rfl))) (by decide) (backOfSH (W := 0) (rm_elem l Z a0 hw [] b108 sa134 sa135 rb109 rd109 kb109 re109 ke109 sb134 ks134 sb135 ks135 h135 n0 Z135 ⟨Eq_133_c135, Fb_133_c135, Fs_133_c135, Fe_133_c135, Fo_133_c135, Aq_133_c135⟩ g_b108 cg109 G_c135 ⟨Ed_109_c135, Fl_109_c135, Ft_109_c135, Fh_109_c135, Al_109_c135⟩ ⟨Es_134_c135, Fc_134_c135, Fv_134_c135, As_134_c135⟩ ⟨Es_135, Fc_135, Fv_135, As_135⟩) hZ135 (hw _ (List.mem_of_getElem? (i := 126) rfl)) (hw _ (List.mem_of_getElem? (i := 11) rfl)) (by decide) (by decide) (own_EW hw) CX135.1) q136a q136c (g := (mkF m 386 #[.val (.int vp), .val (.int va), .val (.int vb), .val (.ref sa102), .val (.ref b103), .val (.ref b104), .val (.ref b105), .val (.ref b106), .val (.ref b107), .val (.int yk), .val (.int yo), .val (.int yl), .val (.ref b108), .val (.int r110), .val (.int r117), .val (.int (1 : Int32)), .val (.int r127), .unset] [(.ref sa135), (.ref sa134), (.ref b108)])) rfl (by rw [hml]; rfl) (Steps.refl _) (argsL := [(.ref sa134), (.ref sa135)]) (rest := []) (lenOf pd_17 rfl) rfl (by show 2 * 0 + _ ≤ _; exact Nat.le_of_eq rfl) (hb hby at_386) (fun _ _ => ⟨rfl, e135, (by decide : 17 + 10 ≤ _), (by decide : 1519 + 44 ≤ _)⟩)
  dsimp only [Pt.U, Pt.locs, Pt.cells, Pt.slots] at Xa136 Sa136 gr136 l136 y136 z136 st136 hQ136 CL136
  subst l136 y136 z136
  obtain ⟨X136, hS136, hZ136, hown136⟩ := rebS hS135 (n1 := T135.heap.size) (by rw [e135]; exact kq135) Xa136 Sa136 gr136 hZ135 hown135
  obtain ⟨⟨r136, rfl, hr136⟩, N136q, K136⟩ := hQ136
  have N136 := Fr.app N133 N136q
  have G_c136 := own_G.keep G_c135 K136 (allS g_b108 (allS cg109 all0))
  have Es_102_c136 := Es_102_c135.keep K136
  have Fc_102_c136 := Fc_102_c135.keep K136 (ninS (Exa.ne Es_102_c135 Eq_133_c135 (by decide)) (ninS (Exa.neArv Es_102_c135 Aq_133_c135 (hw _ (List.mem_of_getElem? (i := 2) rfl))) nin0))
  have Fv_102_c136 := Fv_102_c135.keep K136 (ninS (Exa.ne Es_102_c135 Eq_133_c135 (by decide)) (ninS (Exa.neArv Es_102_c135 Aq_133_c135 (hw _ (List.mem_of_getElem? (i := 2) rfl))) nin0))
  have As_102_c136 := As_102_c135.keep K136 (ninS (Ne.symm (Exa.neArv Eq_133_c135 As_102_c135 (hw _ (List.mem_of_getElem? (i := 10) rfl)))) (ninS (arv_ne As_102_c135 Aq_133_c135 (Or.inl (by decide))) nin0))
  have Av_b107_107_c136 := Av_b107_107_c135.keep K136 (ninS ne_b107_b108 (ninS ne_b107_rb109 nin0))
  have Eq_133_c136 := Eq_133_c135.keep K136
  have Ed_109_c136 := Ed_109_c135.keep K136
  have Fl_109_c136 := Fl_109_c135.keep K136 (ninS (Ne.symm ne_b108_rd109) (ninS (Exa.neArv Ed_109_c135 Aq_133_c135 (hw _ (List.mem_of_getElem? (i := 21) rfl))) nin0))
  have Ft_109_c136 := Ft_109_c135.keep K136 (ninS (Ne.symm ne_b108_rd109) (ninS (Exa.neArv Ed_109_c135 Aq_133_c135 (hw _ (List.mem_of_getElem? (i := 21) rfl))) nin0))
  have Fh_109_c136 := Fh_109_c135.keep K136 (ninS (Ne.symm ne_b108_rd109) (ninS (Exa.neArv Ed_109_c135 Aq_133_c135 (hw _ (List.mem_of_getElem? (i := 21) rfl))) nin0))
  have Al_109_c136 := Al_109_c135.keep K136 (ninS (Ne.symm ne_b108_re109) (ninS (arv_ne Al_109_c135 Aq_133_c135 (Or.inl (by decide))) nin0))
  have Ax_110_c136 := Ax_110_c135.keep K136 (ninS ne_b103_b108 (ninS ne_b103_rb109 nin0))
  have Ax_117_c136 := Ax_117_c135.keep K136 (ninS ne_b104_b108 (ninS ne_b104_rb109 nin0))
  have Ax_127_c136 := Ax_127_c135.keep K136 (ninS ne_b105_b108 (ninS ne_b105_rb109 nin0))
  have Ax_133_c136 := Ax_133_c135.keep K136 (ninS ne_b106_b108 (ninS ne_b106_rb109 nin0))
  have Es_134_c136 := Es_134_c135.keep K136
  have Fc_134_c136 := Fc_134_c135.keep K136 (ninS (Exa.ne Es_134_c135 Eq_133_c135 (by decide)) (ninS (Exa.neArv Es_134_c135 Aq_133_c135 (hw _ (List.mem_of_getElem? (i := 2) rfl))) nin0))
  have Fv_134_c136 := Fv_134_c135.keep K136 (ninS (Exa.ne Es_134_c135 Eq_133_c135 (by decide)) (ninS (Exa.neArv Es_134_c135 Aq_133_c135 (hw _ (List.mem_of_getElem? (i := 2) rfl))) nin0))
  have As_134_c136 := As_134_c135.keep K136 (ninS (Ne.symm (Exa.neArv Eq_133_c135 As_134_c135 (hw _ (List.mem_of_getElem? (i := 10) rfl)))) (ninS (arv_ne As_134_c135 Aq_133_c135 (Or.inl (by decide))) nin0))
  have Es_135_c136 := Es_135.keep K136
  have Fc_135_c136 := Fc_135.keep K136 (ninS (Exa.ne Es_135 Eq_133_c135 (by decide)) (ninS (Exa.neArv Es_135 Aq_133_c135 (hw _ (List.mem_of_getElem? (i := 2) rfl))) nin0))
  have Fv_135_c136 := Fv_135.keep K136 (ninS (Exa.ne Es_135 Eq_133_c135 (by decide)) (ninS (Exa.neArv Es_135 Aq_133_c135 (hw _ (List.mem_of_getElem? (i := 2) rfl))) nin0))
  have As_135_c136 := As_135.keep K136 (ninS (Ne.symm (Exa.neArv Eq_133_c135 As_135 (hw _ (List.mem_of_getElem? (i := 10) rfl)))) (ninS (arv_ne As_135 Aq_133_c135 (Or.inl (by decide))) nin0))
  have CR136 := CX135.trans CL136
  have kl136 : T136.heap.size ≤ T136.heap.size := Nat.le_refl _
  have Z136 : n0 ≤ T136.heap.size := Nat.le_trans Z135 K136.1
  obtain ⟨hz136, ⟨Eq_136, Fb_136, Fs_136, Fe_136, Fo_136, Aq_136⟩⟩ := hr136
  obtain ⟨cq137, kq137, q137a, q137b, q137c⟩ := isOf hZ136 rfl Eq_136
  obtain ⟨_, _, ⟨T137, L137, k137, n137⟩, -, X137, ⟨Lc137, hQ137, l137, y137, z137⟩, st137⟩ := X136.virtualBack hx (y := (⟨"com/example/sealwright/sealwright/io/XmlWriter", "read", "([BII)I"⟩ : MethodName)) (z := (⟨"com/example/sealwright/sealwright/io/XmlWriter", "read", "([BII)I"⟩ : MethodName)) hown136 (mvT hZ136 (hw _ (List.mem_of_getElem? (i := 90) rfl))) (mvT hZ136 (hw _ (List.mem_of_getElem? (i := 91) rfl))) (notFace_of_selects (args := #[]) (mvT hZ136 (hw _ (List.mem_of_getElem? (i := 93) rfl)))) (mvT hZ136 (hw _ (List.mem_of_getElem? (i := 93) rfl))) (mvT hZ136 (hw _ (List.mem_of_getElem? (i := 92) rfl))) (by decide) (backOf (W := 0) (rm_read l Z a0 hw [] b108 b107 (0 : Int32) (8 : Int32) rb109 rd109 kb109 (0 : Int32) (8 : Int32) own_C7 k107 (8 : Int32) (List.replicate 8 (0 : Int32)) T136.heap n0 Z136 ⟨Eq_136, Fb_136, Fs_136, Fe_136, Fo_136, Aq_136⟩ g_b108 cg109 Av_b107_107_c136 g_b107 ne_b107_rb109 (by rw [List.length_replicate]; decide) ⟨by decide, by decide, by decide⟩ (by decide) (by decide) (by decide)) hZ136 (hw _ (List.mem_of_getElem? (i := 94) rfl)) (hw _ (List.mem_of_getElem? (i := 11) rfl)) (by decide) (by decide)) q137a q137c (g := (mkF m 397 #[.val (.int vp), .val (.int va), .val (.int vb), .val (.ref sa102), .val (.ref b103), .val (.ref b104), .val (.ref b105), .val (.ref b106), .val (.ref b107), .val (.int yk), .val (.int yo), .val (.int yl), .val (.ref b108), .val (.int r110), .val (.int r117), .val (.int (1 : Int32)), .val (.int r127), .unset] [(.int (8 : Int32)), (.int (0 : Int32)), (.ref b107), (.ref b108)])) rfl (by rw [hml]; rfl) (Steps.refl _) (argsL := [(.ref b107), (.int (0 : Int32)), (.int (8 : Int32))]) (rest := []) (lenOf pd_15 rfl) rfl (by show 2 * 0 + _ ≤ _; exact Nat.le_of_eq rfl) (hb hby at_397) (fun _ _ => ⟨rfl, rfl, (by decide : 27 + 0 ≤ _), (by decide : 1563 + 0 ≤ _)⟩)
  dsimp only [Pt.U, Pt.locs, Pt.cells, Pt.slots] at X137 l137 y137 z137 st137 hQ137
  subst l137 y137 z137
  obtain ⟨⟨r137, rfl, hr137⟩, N137q, K137⟩ := hQ137
  have N137 := Fr.app N136 N137q
  have G_c137 := own_G.keep G_c136 K137 (allS g_b108 (allS g_b107 all0))
  have Es_102_c137 := Es_102_c136.keep K137
  have Fc_102_c137 := Fc_102_c136.keep K137 (ninS (Exa.ne Es_102_c136 Eq_136 (by decide)) (ninS (Exa.neArv Es_102_c136 Av_b107_107_c136 (hw _ (List.mem_of_getElem? (i := 2) rfl))) nin0))
  have Fv_102_c137 := Fv_102_c136.keep K137 (ninS (Exa.ne Es_102_c136 Eq_136 (by decide)) (ninS (Exa.neArv Es_102_c136 Av_b107_107_c136 (hw _ (List.mem_of_getElem? (i := 2) rfl))) nin0))
  have As_102_c137 := As_102_c136.keep K137 (ninS (Ne.symm (Exa.neArv Eq_136 As_102_c136 (hw _ (List.mem_of_getElem? (i := 10) rfl)))) (ninS (arv_ne As_102_c136 Av_b107_107_c136 (Or.inl (by decide))) nin0))
  have Eq_136_c137 := Eq_136.keep K137
  have Ed_109_c137 := Ed_109_c136.keep K137
  have Fl_109_c137 := Fl_109_c136.keep K137 (ninS (Ne.symm ne_b108_rd109) (ninS (Ne.symm ne_b107_rd109) nin0))
  have Ft_109_c137 := Ft_109_c136.keep K137 (ninS (Ne.symm ne_b108_rd109) (ninS (Ne.symm ne_b107_rd109) nin0))
  have Fh_109_c137 := Fh_109_c136.keep K137 (ninS (Ne.symm ne_b108_rd109) (ninS (Ne.symm ne_b107_rd109) nin0))
  have Al_109_c137 := Al_109_c136.keep K137 (ninS (Ne.symm ne_b108_re109) (ninS (Ne.symm ne_b107_re109) nin0))
  have Ax_110_c137 := Ax_110_c136.keep K137 (ninS ne_b103_b108 (ninS ne_b103_b107 nin0))
  have Ax_117_c137 := Ax_117_c136.keep K137 (ninS ne_b104_b108 (ninS ne_b104_b107 nin0))
  have Ax_127_c137 := Ax_127_c136.keep K137 (ninS ne_b105_b108 (ninS ne_b105_b107 nin0))
  have Ax_133_c137 := Ax_133_c136.keep K137 (ninS ne_b106_b108 (ninS ne_b106_b107 nin0))
  have Es_134_c137 := Es_134_c136.keep K137
  have Fc_134_c137 := Fc_134_c136.keep K137 (ninS (Exa.ne Es_134_c136 Eq_136 (by decide)) (ninS (Exa.neArv Es_134_c136 Av_b107_107_c136 (hw _ (List.mem_of_getElem? (i := 2) rfl))) nin0))
  have Fv_134_c137 := Fv_134_c136.keep K137 (ninS (Exa.ne Es_134_c136 Eq_136 (by decide)) (ninS (Exa.neArv Es_134_c136 Av_b107_107_c136 (hw _ (List.mem_of_getElem? (i := 2) rfl))) nin0))
  have As_134_c137 := As_134_c136.keep K137 (ninS (Ne.symm (Exa.neArv Eq_136 As_134_c136 (hw _ (List.mem_of_getElem? (i := 10) rfl)))) (ninS (arv_ne As_134_c136 Av_b107_107_c136 (Or.inl (by decide))) nin0))
  have Es_135_c137 := Es_135_c136.keep K137
  have Fc_135_c137 := Fc_135_c136.keep K137 (ninS (Exa.ne Es_135_c136 Eq_136 (by decide)) (ninS (Exa.neArv Es_135_c136 Av_b107_107_c136 (hw _ (List.mem_of_getElem? (i := 2) rfl))) nin0))
  have Fv_135_c137 := Fv_135_c136.keep K137 (ninS (Exa.ne Es_135_c136 Eq_136 (by decide)) (ninS (Exa.neArv Es_135_c136 Av_b107_107_c136 (hw _ (List.mem_of_getElem? (i := 2) rfl))) nin0))
  have As_135_c137 := As_135_c136.keep K137 (ninS (Ne.symm (Exa.neArv Eq_136 As_135_c136 (hw _ (List.mem_of_getElem? (i := 10) rfl)))) (ninS (arv_ne As_135_c136 Av_b107_107_c136 (Or.inl (by decide))) nin0))
  have Aq_136_c137 := Aq_136.keep K137 (ninS (Ne.symm ne_b108_rb109) (ninS (Ne.symm ne_b107_rb109) nin0))
  have CR137 := CR136.trans (CHr.keep K137 (sfS (Safe.exa hZ136.alike Eq_136 (by decide) (by decide)) (sfS (own_safe hZ136 (own_EWl hw) Av_b107_107_c136 (by decide)) sf0)) CR136.1)
  have kl137 := Nat.le_trans kl136 K137.1
  have Z137 : n0 ≤ T137.heap.size := Nat.le_trans Z136 K137.1
  obtain ⟨hp137, ⟨Eq_137, Fb_137, Fs_137, Fe_137, Fo_137, Aq_137⟩, Ax_137⟩ := hr137
  obtain ⟨vs137, hvs137⟩ : ∃ z, z = own_s (0 : Int32) (8 : Int32) r137 := ⟨_, rfl⟩
  obtain ⟨ve137, hve137⟩ : ∃ z, z = own_e (0 : Int32) (8 : Int32) r137 := ⟨_, rfl⟩
  rw [← hvs137] at Fs_137
  rw [← hve137] at Fe_137
  obtain rfl : (8 : Int32) = r137 := Int32.toInt_inj.mp (by have := hp137; simp only [own_rdp, u0, u8] at this; omega)
  obtain ⟨fs, hr, hrun, hended, hRE⟩ := X137.leaveW hS136 (by rw [show T137.heap = T137.heap from rfl]; exact kl137) (v := some (.int (1 : Int32))) (fun h => by rw [Bd.returns] at h; cases h)
  refine ⟨_, _, pre0 _ ?_, hrun, hended, _, _, rfl, ?_, ?_, hRE.1, hRE.2.1, hRE.2.2.1, hRE.2.2.2.mono (by decide) (by decide)⟩
  · show Steps p.tables e below (s₁.setTop (mkF m 0 #[.val (.int vp), .val (.int va), .val (.int vb), .unset, .unset, .unset, .unset, .unset, .unset, .unset, .unset, .unset, .unset, .unset, .unset, .unset, .unset, .unset] [])) _
    refine st102 _ ?_
    show Steps p.tables e below (T102.setTop (mkF m 2 #[.val (.int vp), .val (.int va), .val (.int vb), .unset, .unset, .unset, .unset, .unset, .unset, .unset, .unset, .unset, .unset, .unset, .unset, .unset, .unset, .unset] [(.ref sa102)])) _
    refine XS.astoreN X102.here hx rfl (hb hby at_2) rfl rfl (l' := #[.val (.int vp), .val (.int va), .val (.int vb), .val (.ref sa102), .unset, .unset, .unset, .unset, .unset, .unset, .unset, .unset, .unset, .unset, .unset, .unset, .unset, .unset]) rfl ?_
    show Steps p.tables e below (T102.setTop (mkF m 3 #[.val (.int vp), .val (.int va), .val (.int vb), .val (.ref sa102), .unset, .unset, .unset, .unset, .unset, .unset, .unset, .unset, .unset, .unset, .unset, .unset, .unset, .unset] [])) _
    refine XS.bipush X102.here hx rfl (hb hby at_3) ?_
    show Steps p.tables e below (T102.setTop (mkF m 5 #[.val (.int vp), .val (.int va), .val (.int vb), .val (.ref sa102), .unset, .unset, .unset, .unset, .unset, .unset, .unset, .unset, .unset, .unset, .unset, .unset, .unset, .unset] [(.int (41 : Int32))])) _
    refine st103 _ ?_
    show Steps p.tables e below (T103.setTop (mkF m 7 #[.val (.int vp), .val (.int va), .val (.int vb), .val (.ref sa102), .unset, .unset, .unset, .unset, .unset, .unset, .unset, .unset, .unset, .unset, .unset, .unset, .unset, .unset] [(.ref b103)])) _
    refine XS.astore X103.here hx rfl (hb hby at_7) rfl rfl (l' := #[.val (.int vp), .val (.int va), .val (.int vb), .val (.ref sa102), .val (.ref b103), .unset, .unset, .unset, .unset, .unset, .unset, .unset, .unset, .unset, .unset, .unset, .unset, .unset]) rfl ?_
    show Steps p.tables e below (T103.setTop (mkF m 9 #[.val (.int vp), .val (.int va), .val (.int vb), .val (.ref sa102), .val (.ref b103), .unset, .unset, .unset, .unset, .unset, .unset, .unset, .unset, .unset, .unset, .unset, .unset, .unset] [])) _
    refine XS.bipush X103.here hx rfl (hb hby at_9) ?_
    show Steps p.tables e below (T103.setTop (mkF m 11 #[.val (.int vp), .val (.int va), .val (.int vb), .val (.ref sa102), .val (.ref b103), .unset, .unset, .unset, .unset, .unset, .unset, .unset, .unset, .unset, .unset, .unset, .unset, .unset] [(.int (8 : Int32))])) _
    refine st104 _ ?_
    show Steps p.tables e below (T104.setTop (mkF m 13 #[.val (.int vp), .val (.int va), .val (.int vb), .val (.ref sa102), .val (.ref b103), .unset, .unset, .unset, .unset, .unset, .unset, .unset, .unset, .unset, .unset, .unset, .unset, .unset] [(.ref b104)])) _
    refine XS.astore X104.here hx rfl (hb hby at_13) rfl rfl (l' := #[.val (.int vp), .val (.int va), .val (.int vb), .val (.ref sa102), .val (.ref b103), .val (.ref b104), .unset, .unset, .unset, .unset, .unset, .unset, .unset, .unset, .unset, .unset, .unset, .unset]) rfl ?_
    show Steps p.tables e below (T104.setTop (mkF m 15 #[.val (.int vp), .val (.int va), .val (.int vb), .val (.ref sa102), .val (.ref b103), .val (.ref b104), .unset, .unset, .unset, .unset, .unset, .unset, .unset, .unset, .unset, .unset, .unset, .unset] [])) _
    refine XS.bipush X104.here hx rfl (hb hby at_15) ?_
    show Steps p.tables e below (T104.setTop (mkF m 17 #[.val (.int vp), .val (.int va), .val (.int vb), .val (.ref sa102), .val (.ref b103), .val (.ref b104), .unset, .unset, .unset, .unset, .unset, .unset, .unset, .unset, .unset, .unset, .unset, .unset] [(.int (41 : Int32))])) _
    refine st105 _ ?_
    show Steps p.tables e below (T105.setTop (mkF m 19 #[.val (.int vp), .val (.int va), .val (.int vb), .val (.ref sa102), .val (.ref b103), .val (.ref b104), .unset, .unset, .unset, .unset, .unset, .unset, .unset, .unset, .unset, .unset, .unset, .unset] [(.ref b105)])) _
    refine XS.astore X105.here hx rfl (hb hby at_19) rfl rfl (l' := #[.val (.int vp), .val (.int va), .val (.int vb), .val (.ref sa102), .val (.ref b103), .val (.ref b104), .val (.ref b105), .unset, .unset, .unset, .unset, .unset, .unset, .unset, .unset, .unset, .unset, .unset]) rfl ?_
    show Steps p.tables e below (T105.setTop (mkF m 21 #[.val (.int vp), .val (.int va), .val (.int vb), .val (.ref sa102), .val (.ref b103), .val (.ref b104), .val (.ref b105), .unset, .unset, .unset, .unset, .unset, .unset, .unset, .unset, .unset, .unset, .unset] [])) _
    refine XS.bipush X105.here hx rfl (hb hby at_21) ?_
    show Steps p.tables e below (T105.setTop (mkF m 23 #[.val (.int vp), .val (.int va), .val (.int vb), .val (.ref sa102), .val (.ref b103), .val (.ref b104), .val (.ref b105), .unset, .unset, .unset, .unset, .unset, .unset, .unset, .unset, .unset, .unset, .unset] [(.int (41 : Int32))])) _
    refine st106 _ ?_
    show Steps p.tables e below (T106.setTop (mkF m 25 #[.val (.int vp), .val (.int va), .val (.int vb), .val (.ref sa102), .val (.ref b103), .val (.ref b104), .val (.ref b105), .unset, .unset, .unset, .unset, .unset, .unset, .unset, .unset, .unset, .unset, .unset] [(.ref b106)])) _
    refine XS.astore X106.here hx rfl (hb hby at_25) rfl rfl (l' := #[.val (.int vp), .val (.int va), .val (.int vb), .val (.ref sa102), .val (.ref b103), .val (.ref b104), .val (.ref b105), .val (.ref b106), .unset, .unset, .unset, .unset, .unset, .unset, .unset, .unset, .unset, .unset]) rfl ?_
    show Steps p.tables e below (T106.setTop (mkF m 27 #[.val (.int vp), .val (.int va), .val (.int vb), .val (.ref sa102), .val (.ref b103), .val (.ref b104), .val (.ref b105), .val (.ref b106), .unset, .unset, .unset, .unset, .unset, .unset, .unset, .unset, .unset, .unset] [])) _
    refine XS.bipush X106.here hx rfl (hb hby at_27) ?_
    show Steps p.tables e below (T106.setTop (mkF m 29 #[.val (.int vp), .val (.int va), .val (.int vb), .val (.ref sa102), .val (.ref b103), .val (.ref b104), .val (.ref b105), .val (.ref b106), .unset, .unset, .unset, .unset, .unset, .unset, .unset, .unset, .unset, .unset] [(.int (8 : Int32))])) _
    refine st107 _ ?_
    show Steps p.tables e below (T107.setTop (mkF m 31 #[.val (.int vp), .val (.int va), .val (.int vb), .val (.ref sa102), .val (.ref b103), .val (.ref b104), .val (.ref b105), .val (.ref b106), .unset, .unset, .unset, .unset, .unset, .unset, .unset, .unset, .unset, .unset] [(.ref b107)])) _
    refine XS.astore X107.here hx rfl (hb hby at_31) rfl rfl (l' := #[.val (.int vp), .val (.int va), .val (.int vb), .val (.ref sa102), .val (.ref b103), .val (.ref b104), .val (.ref b105), .val (.ref b106), .val (.ref b107), .unset, .unset, .unset, .unset, .unset, .unset, .unset, .unset, .unset]) rfl ?_
    show Steps p.tables e below (T107.setTop (mkF m 33 #[.val (.int vp), .val (.int va), .val (.int vb), .val (.ref sa102), .val (.ref b103), .val (.ref b104), .val (.ref b105), .val (.ref b106), .val (.ref b107), .unset, .unset, .unset, .unset, .unset, .unset, .unset, .unset, .unset] [])) _
    refine XS.iloadN X107.here hx rfl (hb hby at_33) rfl ?_
    show Steps p.tables e below (T107.setTop (mkF m 34 #[.val (.int vp), .val (.int va), .val (.int vb), .val (.ref sa102), .val (.ref b103), .val (.ref b104), .val (.ref b105), .val (.ref b106), .val (.ref b107), .unset, .unset, .unset, .unset, .unset, .unset, .unset, .unset, .unset] [(.int vp)])) _
    refine X107.ldcInt hx hown102 (mvT hZ102 (hw _ (List.mem_of_getElem? (i := 8) rfl))) (g := (mkF m 34 #[.val (.int vp), .val (.int va), .val (.int vb), .val (.ref sa102), .val (.ref b103), .val (.ref b104), .val (.ref b105), .val (.ref b106), .val (.ref b107), .unset, .unset, .unset, .unset, .unset, .unset, .unset, .unset, .unset] [(.int vp)])) rfl (hb hby at_34) _ ?_
    show Steps p.tables e below (T107.setTop (mkF m 36 #[.val (.int vp), .val (.int va), .val (.int vb), .val (.ref sa102), .val (.ref b103), .val (.ref b104), .val (.ref b105), .val (.ref b106), .val (.ref b107), .unset, .unset, .unset, .unset, .unset, .unset, .unset, .unset, .unset] [(.int (2147483647 : Int32)), (.int vp)])) _
    refine XS.iand X107.here hx rfl (hb hby at_36) rfl ?_
    show Steps p.tables e below (T107.setTop (mkF m 37 #[.val (.int vp), .val (.int va), .val (.int vb), .val (.ref sa102), .val (.ref b103), .val (.ref b104), .val (.ref b105), .val (.ref b106), .val (.ref b107), .unset, .unset, .unset, .unset, .unset, .unset, .unset, .unset, .unset] [(.int (vp &&& (2147483647 : Int32)))])) _
    refine XS.bipush X107.here hx rfl (hb hby at_37) ?_
    show Steps p.tables e below (T107.setTop (mkF m 39 #[.val (.int vp), .val (.int va), .val (.int vb), .val (.ref sa102), .val (.ref b103), .val (.ref b104), .val (.ref b105), .val (.ref b106), .val (.ref b107), .unset, .unset, .unset, .unset, .unset, .unset, .unset, .unset, .unset] [(.int (41 : Int32)), (.int (vp &&& (2147483647 : Int32)))])) _
    refine iremM X107 hx rfl (hb hby at_39) rfl (by decide) ?_
    show Steps p.tables e below (T107.setTop (mkF m 40 #[.val (.int vp), .val (.int va), .val (.int vb), .val (.ref sa102), .val (.ref b103), .val (.ref b104), .val (.ref b105), .val (.ref b106), .val (.ref b107), .unset, .unset, .unset, .unset, .unset, .unset, .unset, .unset, .unset] [(.int ((vp &&& (2147483647 : Int32)) % (41 : Int32)))])) _
    rw [← hyk]
    show Steps p.tables e below (T107.setTop (mkF m 40 #[.val (.int vp), .val (.int va), .val (.int vb), .val (.ref sa102), .val (.ref b103), .val (.ref b104), .val (.ref b105), .val (.ref b106), .val (.ref b107), .unset, .unset, .unset, .unset, .unset, .unset, .unset, .unset, .unset] [(.int yk)])) _
    refine XS.istore X107.here hx rfl (hb hby at_40) rfl (l' := #[.val (.int vp), .val (.int va), .val (.int vb), .val (.ref sa102), .val (.ref b103), .val (.ref b104), .val (.ref b105), .val (.ref b106), .val (.ref b107), .val (.int yk), .unset, .unset, .unset, .unset, .unset, .unset, .unset, .unset]) rfl ?_
    show Steps p.tables e below (T107.setTop (mkF m 42 #[.val (.int vp), .val (.int va), .val (.int vb), .val (.ref sa102), .val (.ref b103), .val (.ref b104), .val (.ref b105), .val (.ref b106), .val (.ref b107), .val (.int yk), .unset, .unset, .unset, .unset, .unset, .unset, .unset, .unset] [])) _
    refine XS.iloadN X107.here hx rfl (hb hby at_42) rfl ?_
    show Steps p.tables e below (T107.setTop (mkF m 43 #[.val (.int vp), .val (.int va), .val (.int vb), .val (.ref sa102), .val (.ref b103), .val (.ref b104), .val (.ref b105), .val (.ref b106), .val (.ref b107), .val (.int yk), .unset, .unset, .unset, .unset, .unset, .unset, .unset, .unset] [(.int va)])) _
    refine XS.bipush X107.here hx rfl (hb hby at_43) ?_
    show Steps p.tables e below (T107.setTop (mkF m 45 #[.val (.int vp), .val (.int va), .val (.int vb), .val (.ref sa102), .val (.ref b103), .val (.ref b104), .val (.ref b105), .val (.ref b106), .val (.ref b107), .val (.int yk), .unset, .unset, .unset, .unset, .unset, .unset, .unset, .unset] [(.int (7 : Int32)), (.int va)])) _
    refine XS.iand X107.here hx rfl (hb hby at_45) rfl ?_
    show Steps p.tables e below (T107.setTop (mkF m 46 #[.val (.int vp), .val (.int va), .val (.int vb), .val (.ref sa102), .val (.ref b103), .val (.ref b104), .val (.ref b105), .val (.ref b106), .val (.ref b107), .val (.int yk), .unset, .unset, .unset, .unset, .unset, .unset, .unset, .unset] [(.int (va &&& (7 : Int32)))])) _
    rw [← hyo]
    show Steps p.tables e below (T107.setTop (mkF m 46 #[.val (.int vp), .val (.int va), .val (.int vb), .val (.ref sa102), .val (.ref b103), .val (.ref b104), .val (.ref b105), .val (.ref b106), .val (.ref b107), .val (.int yk), .unset, .unset, .unset, .unset, .unset, .unset, .unset, .unset] [(.int yo)])) _
    refine XS.istore X107.here hx rfl (hb hby at_46) rfl (l' := #[.val (.int vp), .val (.int va), .val (.int vb), .val (.ref sa102), .val (.ref b103), .val (.ref b104), .val (.ref b105), .val (.ref b106), .val (.ref b107), .val (.int yk), .val (.int yo), .unset, .unset, .unset, .unset, .unset, .unset, .unset]) rfl ?_
    show Steps p.tables e below (T107.setTop (mkF m 48 #[.val (.int vp), .val (.int va), .val (.int vb), .val (.ref sa102), .val (.ref b103), .val (.ref b104), .val (.ref b105), .val (.ref b106), .val (.ref b107), .val (.int yk), .val (.int yo), .unset, .unset, .unset, .unset, .unset, .unset, .unset] [])) _
    refine XS.iloadN X107.here hx rfl (hb hby at_48) rfl ?_
    show Steps p.tables e below (T107.setTop (mkF m 49 #[.val (.int vp), .val (.int va), .val (.int vb), .val (.ref sa102), .val (.ref b103), .val (.ref b104), .val (.ref b105), .val (.ref b106), .val (.ref b107), .val (.int yk), .val (.int yo), .unset, .unset, .unset, .unset, .unset, .unset, .unset] [(.int vb)])) _
    refine X107.ldcInt hx hown102 (mvT hZ102 (hw _ (List.mem_of_getElem? (i := 8) rfl))) (g := (mkF m 49 #[.val (.int vp), .val (.int va), .val (.int vb), .val (.ref sa102), .val (.ref b103), .val (.ref b104), .val (.ref b105), .val (.ref b106), .val (.ref b107), .val (.int yk), .val (.int yo), .unset, .unset, .unset, .unset, .unset, .unset, .unset] [(.int vb)])) rfl (hb hby at_49) _ ?_
    show Steps p.tables e below (T107.setTop (mkF m 51 #[.val (.int vp), .val (.int va), .val (.int vb), .val (.ref sa102), .val (.ref b103), .val (.ref b104), .val (.ref b105), .val (.ref b106), .val (.ref b107), .val (.int yk), .val (.int yo), .unset, .unset, .unset, .unset, .unset, .unset, .unset] [(.int (2147483647 : Int32)), (.int vb)])) _
    refine XS.iand X107.here hx rfl (hb hby at_51) rfl ?_
    show Steps p.tables e below (T107.setTop (mkF m 52 #[.val (.int vp), .val (.int va), .val (.int vb), .val (.ref sa102), .val (.ref b103), .val (.ref b104), .val (.ref b105), .val (.ref b106), .val (.ref b107), .val (.int yk), .val (.int yo), .unset, .unset, .unset, .unset, .unset, .unset, .unset] [(.int (vb &&& (2147483647 : Int32)))])) _
    refine XS.bipush X107.here hx rfl (hb hby at_52) ?_
    show Steps p.tables e below (T107.setTop (mkF m 54 #[.val (.int vp), .val (.int va), .val (.int vb), .val (.ref sa102), .val (.ref b103), .val (.ref b104), .val (.ref b105), .val (.ref b106), .val (.ref b107), .val (.int yk), .val (.int yo), .unset, .unset, .unset, .unset, .unset, .unset, .unset] [(.int (9 : Int32)), (.int (vb &&& (2147483647 : Int32)))])) _
    refine XS.iload X107.here hx rfl (hb hby at_54) rfl ?_
    show Steps p.tables e below (T107.setTop (mkF m 56 #[.val (.int vp), .val (.int va), .val (.int vb), .val (.ref sa102), .val (.ref b103), .val (.ref b104), .val (.ref b105), .val (.ref b106), .val (.ref b107), .val (.int yk), .val (.int yo), .unset, .unset, .unset, .unset, .unset, .unset, .unset] [(.int yo), (.int (9 : Int32)), (.int (vb &&& (2147483647 : Int32)))])) _
    refine XS.isub X107.here hx rfl (hb hby at_56) rfl ?_
    show Steps p.tables e below (T107.setTop (mkF m 57 #[.val (.int vp), .val (.int va), .val (.int vb), .val (.ref sa102), .val (.ref b103), .val (.ref b104), .val (.ref b105), .val (.ref b106), .val (.ref b107), .val (.int yk), .val (.int yo), .unset, .unset, .unset, .unset, .unset, .unset, .unset] [(.int ((9 : Int32) - yo)), (.int (vb &&& (2147483647 : Int32)))])) _
    refine iremM X107 hx rfl (hb hby at_57) rfl (own_9z yo hbo) ?_
    show Steps p.tables e below (T107.setTop (mkF m 58 #[.val (.int vp), .val (.int va), .val (.int vb), .val (.ref sa102), .val (.ref b103), .val (.ref b104), .val (.ref b105), .val (.ref b106), .val (.ref b107), .val (.int yk), .val (.int yo), .unset, .unset, .unset, .unset, .unset, .unset, .unset] [(.int ((vb &&& (2147483647 : Int32)) % ((9 : Int32) - yo)))])) _
    rw [← hyl]
    show Steps p.tables e below (T107.setTop (mkF m 58 #[.val (.int vp), .val (.int va), .val (.int vb), .val (.ref sa102), .val (.ref b103), .val (.ref b104), .val (.ref b105), .val (.ref b106), .val (.ref b107), .val (.int yk), .val (.int yo), .unset, .unset, .unset, .unset, .unset, .unset, .unset] [(.int yl)])) _
    refine XS.istore X107.here hx rfl (hb hby at_58) rfl (l' := #[.val (.int vp), .val (.int va), .val (.int vb), .val (.ref sa102), .val (.ref b103), .val (.ref b104), .val (.ref b105), .val (.ref b106), .val (.ref b107), .val (.int yk), .val (.int yo), .val (.int yl), .unset, .unset, .unset, .unset, .unset, .unset]) rfl ?_
    show Steps p.tables e below (T107.setTop (mkF m 60 #[.val (.int vp), .val (.int va), .val (.int vb), .val (.ref sa102), .val (.ref b103), .val (.ref b104), .val (.ref b105), .val (.ref b106), .val (.ref b107), .val (.int yk), .val (.int yo), .val (.int yl), .unset, .unset, .unset, .unset, .unset, .unset] [])) _
    refine st108 _ ?_
    show Steps p.tables e below (T108.setTop (mkF m 63 #[.val (.int vp), .val (.int va), .val (.int vb), .val (.ref sa102), .val (.ref b103), .val (.ref b104), .val (.ref b105), .val (.ref b106), .val (.ref b107), .val (.int yk), .val (.int yo), .val (.int yl), .unset, .unset, .unset, .unset, .unset, .unset] [(.ref b108)])) _
    refine XS.dup X108.here hx rfl (hb hby at_63) rfl rfl ?_
    show Steps p.tables e below (T108.setTop (mkF m 64 #[.val (.int vp), .val (.int va), .val (.int vb), .val (.ref sa102), .val (.ref b103), .val (.ref b104), .val (.ref b105), .val (.ref b106), .val (.ref b107), .val (.int yk), .val (.int yo), .val (.int yl), .unset, .unset, .unset, .unset, .unset, .unset] [(.ref b108), (.ref b108)])) _
    refine st109.trans ?_
    show Steps p.tables e below (T109.setTop (mkF m 67 #[.val (.int vp), .val (.int va), .val (.int vb), .val (.ref sa102), .val (.ref b103), .val (.ref b104), .val (.ref b105), .val (.ref b106), .val (.ref b107), .val (.int yk), .val (.int yo), .val (.int yl), .unset, .unset, .unset, .unset, .unset, .unset] [(.ref b108)])) _
    refine XS.astore X109.here hx rfl (hb hby at_67) rfl rfl (l' := #[.val (.int vp), .val (.int va), .val (.int vb), .val (.ref sa102), .val (.ref b103), .val (.ref b104), .val (.ref b105), .val (.ref b106), .val (.ref b107), .val (.int yk), .val (.int yo), .val (.int yl), .val (.ref b108), .unset, .unset, .unset, .unset, .unset]) rfl ?_
    show Steps p.tables e below (T109.setTop (mkF m 69 #[.val (.int vp), .val (.int va), .val (.int vb), .val (.ref sa102), .val (.ref b103), .val (.ref b104), .val (.ref b105), .val (.ref b106), .val (.ref b107), .val (.int yk), .val (.int yo), .val (.int yl), .val (.ref b108), .unset, .unset, .unset, .unset, .unset] [])) _
    refine XS.aload X109.here hx rfl (hb hby at_69) rfl rfl ?_
    show Steps p.tables e below (T109.setTop (mkF m 71 #[.val (.int vp), .val (.int va), .val (.int vb), .val (.ref sa102), .val (.ref b103), .val (.ref b104), .val (.ref b105), .val (.ref b106), .val (.ref b107), .val (.int yk), .val (.int yo), .val (.int yl), .val (.ref b108), .unset, .unset, .unset, .unset, .unset] [(.ref b108)])) _
    refine XS.aload X109.here hx rfl (hb hby at_71) rfl rfl ?_
    show Steps p.tables e below (T109.setTop (mkF m 73 #[.val (.int vp), .val (.int va), .val (.int vb), .val (.ref sa102), .val (.ref b103), .val (.ref b104), .val (.ref b105), .val (.ref b106), .val (.ref b107), .val (.int yk), .val (.int yo), .val (.int yl), .val (.ref b108), .unset, .unset, .unset, .unset, .unset] [(.ref b103), (.ref b108)])) _
    refine XS.iconst X109.here hx rfl (hb hby at_73) ?_
    show Steps p.tables e below (T109.setTop (mkF m 74 #[.val (.int vp), .val (.int va), .val (.int vb), .val (.ref sa102), .val (.ref b103), .val (.ref b104), .val (.ref b105), .val (.ref b106), .val (.ref b107), .val (.int yk), .val (.int yo), .val (.int yl), .val (.ref b108), .unset, .unset, .unset, .unset, .unset] [(.int (0 : Int32)), (.ref b103), (.ref b108)])) _
    refine XS.iload X109.here hx rfl (hb hby at_74) rfl ?_
    show Steps p.tables e below (T109.setTop (mkF m 76 #[.val (.int vp), .val (.int va), .val (.int vb), .val (.ref sa102), .val (.ref b103), .val (.ref b104), .val (.ref b105), .val (.ref b106), .val (.ref b107), .val (.int yk), .val (.int yo), .val (.int yl), .val (.ref b108), .unset, .unset, .unset, .unset, .unset] [(.int yk), (.int (0 : Int32)), (.ref b103), (.ref b108)])) _
    refine st110.trans ?_
    show Steps p.tables e below (T110.setTop (mkF m 79 #[.val (.int vp), .val (.int va), .val (.int vb), .val (.ref sa102), .val (.ref b103), .val (.ref b104), .val (.ref b105), .val (.ref b106), .val (.ref b107), .val (.int yk), .val (.int yo), .val (.int yl), .val (.ref b108), .unset, .unset, .unset, .unset, .unset] [(.int r110)])) _
    refine XS.istore X110.here hx rfl (hb hby at_79) rfl (l' := #[.val (.int vp), .val (.int va), .val (.int vb), .val (.ref sa102), .val (.ref b103), .val (.ref b104), .val (.ref b105), .val (.ref b106), .val (.ref b107), .val (.int yk), .val (.int yo), .val (.int yl), .val (.ref b108), .val (.int r110), .unset, .unset, .unset, .unset]) rfl ?_
    show Steps p.tables e below (T110.setTop (mkF m 81 #[.val (.int vp), .val (.int va), .val (.int vb), .val (.ref sa102), .val (.ref b103), .val (.ref b104), .val (.ref b105), .val (.ref b106), .val (.ref b107), .val (.int yk), .val (.int yo), .val (.int yl), .val (.ref b108), .val (.int r110), .unset, .unset, .unset, .unset] [])) _
    refine XS.iload X110.here hx rfl (hb hby at_81) rfl ?_
    show Steps p.tables e below (T110.setTop (mkF m 83 #[.val (.int vp), .val (.int va), .val (.int vb), .val (.ref sa102), .val (.ref b103), .val (.ref b104), .val (.ref b105), .val (.ref b106), .val (.ref b107), .val (.int yk), .val (.int yo), .val (.int yl), .val (.ref b108), .val (.int r110), .unset, .unset, .unset, .unset] [(.int r110)])) _
    refine XS.iload X110.here hx rfl (hb hby at_83) rfl ?_
    show Steps p.tables e below (T110.setTop (mkF m 85 #[.val (.int vp), .val (.int va), .val (.int vb), .val (.ref sa102), .val (.ref b103), .val (.ref b104), .val (.ref b105), .val (.ref b106), .val (.ref b107), .val (.int yk), .val (.int yo), .val (.int yl), .val (.ref b108), .val (.int r110), .unset, .unset, .unset, .unset] [(.int yk), (.int r110)])) _
    refine XS.bipush X110.here hx rfl (hb hby at_85) ?_
    show Steps p.tables e below (T110.setTop (mkF m 87 #[.val (.int vp), .val (.int va), .val (.int vb), .val (.ref sa102), .val (.ref b103), .val (.ref b104), .val (.ref b105), .val (.ref b106), .val (.ref b107), .val (.int yk), .val (.int yo), .val (.int yl), .val (.ref b108), .val (.int r110), .unset, .unset, .unset, .unset] [(.int (39 : Int32)), (.int yk), (.int r110)])) _
    refine st111 _ ?_
    show Steps p.tables e below (T111.setTop (mkF m 90 #[.val (.int vp), .val (.int va), .val (.int vb), .val (.ref sa102), .val (.ref b103), .val (.ref b104), .val (.ref b105), .val (.ref b106), .val (.ref b107), .val (.int yk), .val (.int yo), .val (.int yl), .val (.ref b108), .val (.int r110), .unset, .unset, .unset, .unset] [(.int r111), (.int r110)])) _
    refine XS.icmpYes X111.here hx rfl (pc0 := 90) (pc' := 95) rfl (hb hby at_90) rfl (teq (own_mineq _ _ _ _ hr111 hr1_.2.1 (by rw [u39]; omega) (by rw [u39]; omega) : r110 = r111)).1 (by decide) (by decide) ?_
    show Steps p.tables e below (T111.setTop (mkF m 95 #[.val (.int vp), .val (.int va), .val (.int vb), .val (.ref sa102), .val (.ref b103), .val (.ref b104), .val (.ref b105), .val (.ref b106), .val (.ref b107), .val (.int yk), .val (.int yo), .val (.int yl), .val (.ref b108), .val (.int r110), .unset, .unset, .unset, .unset] [])) _
    refine st112 _ ?_
    show Steps p.tables e below (T112.setTop (mkF m 129 #[.val (.int vp), .val (.int va), .val (.int vb), .val (.ref sa102), .val (.ref b103), .val (.ref b104), .val (.ref b105), .val (.ref b106), .val (.ref b107), .val (.int yk), .val (.int yo), .val (.int yl), .val (.ref b108), .val (.int r110), .unset, .unset, .unset, .unset] [])) _
    refine XS.aload X112.here hx rfl (hb hby at_129) rfl rfl ?_
    show Steps p.tables e below (T112.setTop (mkF m 131 #[.val (.int vp), .val (.int va), .val (.int vb), .val (.ref sa102), .val (.ref b103), .val (.ref b104), .val (.ref b105), .val (.ref b106), .val (.ref b107), .val (.int yk), .val (.int yo), .val (.int yl), .val (.ref b108), .val (.int r110), .unset, .unset, .unset, .unset] [(.ref b108)])) _
    refine XS.aload X112.here hx rfl (hb hby at_131) rfl rfl ?_
    show Steps p.tables e below (T112.setTop (mkF m 133 #[.val (.int vp), .val (.int va), .val (.int vb), .val (.ref sa102), .val (.ref b103), .val (.ref b104), .val (.ref b105), .val (.ref b106), .val (.ref b107), .val (.int yk), .val (.int yo), .val (.int yl), .val (.ref b108), .val (.int r110), .unset, .unset, .unset, .unset] [(.ref b104), (.ref b108)])) _
    refine XS.iload X112.here hx rfl (hb hby at_133) rfl ?_
    show Steps p.tables e below (T112.setTop (mkF m 135 #[.val (.int vp), .val (.int va), .val (.int vb), .val (.ref sa102), .val (.ref b103), .val (.ref b104), .val (.ref b105), .val (.ref b106), .val (.ref b107), .val (.int yk), .val (.int yo), .val (.int yl), .val (.ref b108), .val (.int r110), .unset, .unset, .unset, .unset] [(.int yo), (.ref b104), (.ref b108)])) _
    refine XS.iload X112.here hx rfl (hb hby at_135) rfl ?_
    show Steps p.tables e below (T112.setTop (mkF m 137 #[.val (.int vp), .val (.int va), .val (.int vb), .val (.ref sa102), .val (.ref b103), .val (.ref b104), .val (.ref b105), .val (.ref b106), .val (.ref b107), .val (.int yk), .val (.int yo), .val (.int yl), .val (.ref b108), .val (.int r110), .unset, .unset, .unset, .unset] [(.int yl), (.int yo), (.ref b104), (.ref b108)])) _
    refine st117.trans ?_
    show Steps p.tables e below (T117.setTop (mkF m 140 #[.val (.int vp), .val (.int va), .val (.int vb), .val (.ref sa102), .val (.ref b103), .val (.ref b104), .val (.ref b105), .val (.ref b106), .val (.ref b107), .val (.int yk), .val (.int yo), .val (.int yl), .val (.ref b108), .val (.int r110), .unset, .unset, .unset, .unset] [(.int r117)])) _
    refine XS.istore X117.here hx rfl (hb hby at_140) rfl (l' := #[.val (.int vp), .val (.int va), .val (.int vb), .val (.ref sa102), .val (.ref b103), .val (.ref b104), .val (.ref b105), .val (.ref b106), .val (.ref b107), .val (.int yk), .val (.int yo), .val (.int yl), .val (.ref b108), .val (.int r110), .val (.int r117), .unset, .unset, .unset]) rfl ?_
    show Steps p.tables e below (T117.setTop (mkF m 142 #[.val (.int vp), .val (.int va), .val (.int vb), .val (.ref sa102), .val (.ref b103), .val (.ref b104), .val (.ref b105), .val (.ref b106), .val (.ref b107), .val (.int yk), .val (.int yo), .val (.int yl), .val (.ref b108), .val (.int r110), .val (.int r117), .unset, .unset, .unset] [])) _
    refine XS.iload X117.here hx rfl (hb hby at_142) rfl ?_
    show Steps p.tables e below (T117.setTop (mkF m 144 #[.val (.int vp), .val (.int va), .val (.int vb), .val (.ref sa102), .val (.ref b103), .val (.ref b104), .val (.ref b105), .val (.ref b106), .val (.ref b107), .val (.int yk), .val (.int yo), .val (.int yl), .val (.ref b108), .val (.int r110), .val (.int r117), .unset, .unset, .unset] [(.int r117)])) _
    refine XS.iload X117.here hx rfl (hb hby at_144) rfl ?_
    show Steps p.tables e below (T117.setTop (mkF m 146 #[.val (.int vp), .val (.int va), .val (.int vb), .val (.ref sa102), .val (.ref b103), .val (.ref b104), .val (.ref b105), .val (.ref b106), .val (.ref b107), .val (.int yk), .val (.int yo), .val (.int yl), .val (.ref b108), .val (.int r110), .val (.int r117), .unset, .unset, .unset] [(.int yl), (.int r117)])) _
    refine XS.bipush X117.here hx rfl (hb hby at_146) ?_
    show Steps p.tables e below (T117.setTop (mkF m 148 #[.val (.int vp), .val (.int va), .val (.int vb), .val (.ref sa102), .val (.ref b103), .val (.ref b104), .val (.ref b105), .val (.ref b106), .val (.ref b107), .val (.int yk), .val (.int yo), .val (.int yl), .val (.ref b108), .val (.int r110), .val (.int r117), .unset, .unset, .unset] [(.int (39 : Int32)), (.int yl), (.int r117)])) _
    refine XS.iload X117.here hx rfl (hb hby at_148) rfl ?_
    show Steps p.tables e below (T117.setTop (mkF m 150 #[.val (.int vp), .val (.int va), .val (.int vb), .val (.ref sa102), .val (.ref b103), .val (.ref b104), .val (.ref b105), .val (.ref b106), .val (.ref b107), .val (.int yk), .val (.int yo), .val (.int yl), .val (.ref b108), .val (.int r110), .val (.int r117), .unset, .unset, .unset] [(.int r110), (.int (39 : Int32)), (.int yl), (.int r117)])) _
    refine XS.isub X117.here hx rfl (hb hby at_150) rfl ?_
    show Steps p.tables e below (T117.setTop (mkF m 151 #[.val (.int vp), .val (.int va), .val (.int vb), .val (.ref sa102), .val (.ref b103), .val (.ref b104), .val (.ref b105), .val (.ref b106), .val (.ref b107), .val (.int yk), .val (.int yo), .val (.int yl), .val (.ref b108), .val (.int r110), .val (.int r117), .unset, .unset, .unset] [(.int ((39 : Int32) - r110)), (.int yl), (.int r117)])) _
    refine st118 _ ?_
    show Steps p.tables e below (T118.setTop (mkF m 154 #[.val (.int vp), .val (.int va), .val (.int vb), .val (.ref sa102), .val (.ref b103), .val (.ref b104), .val (.ref b105), .val (.ref b106), .val (.ref b107), .val (.int yk), .val (.int yo), .val (.int yl), .val (.ref b108), .val (.int r110), .val (.int r117), .unset, .unset, .unset] [(.int r118), (.int r117)])) _
    refine XS.icmpYes X118.here hx rfl (pc0 := 154) (pc' := 159) rfl (hb hby at_154) rfl (teq (own_mineq _ _ _ _ hr118 hr2_.2.1 (by rw [own_39 _ ⟨hr1_.1, by omega⟩]; omega) (by rw [own_39 _ ⟨hr1_.1, by omega⟩]; omega) : r117 = r118)).1 (by decide) (by decide) ?_
    show Steps p.tables e below (T118.setTop (mkF m 159 #[.val (.int vp), .val (.int va), .val (.int vb), .val (.ref sa102), .val (.ref b103), .val (.ref b104), .val (.ref b105), .val (.ref b106), .val (.ref b107), .val (.int yk), .val (.int yo), .val (.int yl), .val (.ref b108), .val (.int r110), .val (.int r117), .unset, .unset, .unset] [])) _
    refine XS.aload X118.here hx rfl (hb hby at_159) rfl rfl ?_
    show Steps p.tables e below (T118.setTop (mkF m 161 #[.val (.int vp), .val (.int va), .val (.int vb), .val (.ref sa102), .val (.ref b103), .val (.ref b104), .val (.ref b105), .val (.ref b106), .val (.ref b107), .val (.int yk), .val (.int yo), .val (.int yl), .val (.ref b108), .val (.int r110), .val (.int r117), .unset, .unset, .unset] [(.ref b104)])) _
    refine XS.iconst X118.here hx rfl (hb hby at_161) ?_
    show Steps p.tables e below (T118.setTop (mkF m 162 #[.val (.int vp), .val (.int va), .val (.int vb), .val (.ref sa102), .val (.ref b103), .val (.ref b104), .val (.ref b105), .val (.ref b106), .val (.ref b107), .val (.int yk), .val (.int yo), .val (.int yl), .val (.ref b108), .val (.int r110), .val (.int r117), .unset, .unset, .unset] [(.int (0 : Int32)), (.ref b104)])) _
    refine XS.iload X118.here hx rfl (hb hby at_162) rfl ?_
    show Steps p.tables e below (T118.setTop (mkF m 164 #[.val (.int vp), .val (.int va), .val (.int vb), .val (.ref sa102), .val (.ref b103), .val (.ref b104), .val (.ref b105), .val (.ref b106), .val (.ref b107), .val (.int yk), .val (.int yo), .val (.int yl), .val (.ref b108), .val (.int r110), .val (.int r117), .unset, .unset, .unset] [(.int yo), (.int (0 : Int32)), (.ref b104)])) _
    refine XS.iload X118.here hx rfl (hb hby at_164) rfl ?_
    show Steps p.tables e below (T118.setTop (mkF m 166 #[.val (.int vp), .val (.int va), .val (.int vb), .val (.ref sa102), .val (.ref b103), .val (.ref b104), .val (.ref b105), .val (.ref b106), .val (.ref b107), .val (.int yk), .val (.int yo), .val (.int yl), .val (.ref b108), .val (.int r110), .val (.int r117), .unset, .unset, .unset] [(.int r117), (.int yo), (.int (0 : Int32)), (.ref b104)])) _
    refine XS.iload X118.here hx rfl (hb hby at_166) rfl ?_
    show Steps p.tables e below (T118.setTop (mkF m 168 #[.val (.int vp), .val (.int va), .val (.int vb), .val (.ref sa102), .val (.ref b103), .val (.ref b104), .val (.ref b105), .val (.ref b106), .val (.ref b107), .val (.int yk), .val (.int yo), .val (.int yl), .val (.ref b108), .val (.int r110), .val (.int r117), .unset, .unset, .unset] [(.int r110), (.int r117), (.int yo), (.int (0 : Int32)), (.ref b104)])) _
    refine XS.aloadN X118.here hx rfl (hb hby at_168) rfl rfl ?_
    show Steps p.tables e below (T118.setTop (mkF m 169 #[.val (.int vp), .val (.int va), .val (.int vb), .val (.ref sa102), .val (.ref b103), .val (.ref b104), .val (.ref b105), .val (.ref b106), .val (.ref b107), .val (.int yk), .val (.int yo), .val (.int yl), .val (.ref b108), .val (.int r110), .val (.int r117), .unset, .unset, .unset] [(.ref sa102), (.int r110), (.int r117), (.int yo), (.int (0 : Int32)), (.ref b104)])) _
    refine st119 _ ?_
    show Steps p.tables e below (T119.setTop (mkF m 172 #[.val (.int vp), .val (.int va), .val (.int vb), .val (.ref sa102), .val (.ref b103), .val (.ref b104), .val (.ref b105), .val (.ref b106), .val (.ref b107), .val (.int yk), .val (.int yo), .val (.int yl), .val (.ref b108), .val (.int r110), .val (.int r117), .unset, .unset, .unset] [(.int r119)])) _
    refine XS.ifNo X119.here hx rfl (hb hby at_172) rfl ((if0 _ _).trans (feq (by rw [hr119]; decide : ¬ (r119 = (0 : Int32)))).1) ?_
    show Steps p.tables e below (T119.setTop (mkF m 175 #[.val (.int vp), .val (.int va), .val (.int vb), .val (.ref sa102), .val (.ref b103), .val (.ref b104), .val (.ref b105), .val (.ref b106), .val (.ref b107), .val (.int yk), .val (.int yo), .val (.int yl), .val (.ref b108), .val (.int r110), .val (.int r117), .unset, .unset, .unset] [])) _
    refine XS.aload X119.here hx rfl (hb hby at_175) rfl rfl ?_
    show Steps p.tables e below (T119.setTop (mkF m 177 #[.val (.int vp), .val (.int va), .val (.int vb), .val (.ref sa102), .val (.ref b103), .val (.ref b104), .val (.ref b105), .val (.ref b106), .val (.ref b107), .val (.int yk), .val (.int yo), .val (.int yl), .val (.ref b108), .val (.int r110), .val (.int r117), .unset, .unset, .unset] [(.ref b104)])) _
    refine XS.iconst X119.here hx rfl (hb hby at_177) ?_
    show Steps p.tables e below (T119.setTop (mkF m 178 #[.val (.int vp), .val (.int va), .val (.int vb), .val (.ref sa102), .val (.ref b103), .val (.ref b104), .val (.ref b105), .val (.ref b106), .val (.ref b107), .val (.int yk), .val (.int yo), .val (.int yl), .val (.ref b108), .val (.int r110), .val (.int r117), .unset, .unset, .unset] [(.int (1 : Int32)), (.ref b104)])) _
    refine XS.iload X119.here hx rfl (hb hby at_178) rfl ?_
    show Steps p.tables e below (T119.setTop (mkF m 180 #[.val (.int vp), .val (.int va), .val (.int vb), .val (.ref sa102), .val (.ref b103), .val (.ref b104), .val (.ref b105), .val (.ref b106), .val (.ref b107), .val (.int yk), .val (.int yo), .val (.int yl), .val (.ref b108), .val (.int r110), .val (.int r117), .unset, .unset, .unset] [(.int yo), (.int (1 : Int32)), (.ref b104)])) _
    refine XS.iload X119.here hx rfl (hb hby at_180) rfl ?_
    show Steps p.tables e below (T119.setTop (mkF m 182 #[.val (.int vp), .val (.int va), .val (.int vb), .val (.ref sa102), .val (.ref b103), .val (.ref b104), .val (.ref b105), .val (.ref b106), .val (.ref b107), .val (.int yk), .val (.int yo), .val (.int yl), .val (.ref b108), .val (.int r110), .val (.int r117), .unset, .unset, .unset] [(.int r117), (.int yo), (.int (1 : Int32)), (.ref b104)])) _
    refine XS.iload X119.here hx rfl (hb hby at_182) rfl ?_
    show Steps p.tables e below (T119.setTop (mkF m 184 #[.val (.int vp), .val (.int va), .val (.int vb), .val (.ref sa102), .val (.ref b103), .val (.ref b104), .val (.ref b105), .val (.ref b106), .val (.ref b107), .val (.int yk), .val (.int yo), .val (.int yl), .val (.ref b108), .val (.int r110), .val (.int r117), .unset, .unset, .unset] [(.int r110), (.int r117), (.int yo), (.int (1 : Int32)), (.ref b104)])) _
    refine XS.aloadN X119.here hx rfl (hb hby at_184) rfl rfl ?_
    show Steps p.tables e below (T119.setTop (mkF m 185 #[.val (.int vp), .val (.int va), .val (.int vb), .val (.ref sa102), .val (.ref b103), .val (.ref b104), .val (.ref b105), .val (.ref b106), .val (.ref b107), .val (.int yk), .val (.int yo), .val (.int yl), .val (.ref b108), .val (.int r110), .val (.int r117), .unset, .unset, .unset] [(.ref sa102), (.int r110), (.int r117), (.int yo), (.int (1 : Int32)), (.ref b104)])) _
    refine st120 _ ?_
    show Steps p.tables e below (T120.setTop (mkF m 188 #[.val (.int vp), .val (.int va), .val (.int vb), .val (.ref sa102), .val (.ref b103), .val (.ref b104), .val (.ref b105), .val (.ref b106), .val (.ref b107), .val (.int yk), .val (.int yo), .val (.int yl), .val (.ref b108), .val (.int r110), .val (.int r117), .unset, .unset, .unset] [(.int r120)])) _
    refine XS.ifNo X120.here hx rfl (hb hby at_188) rfl ((if0 _ _).trans (feq (by rw [hr120]; decide : ¬ (r120 = (0 : Int32)))).1) ?_
    show Steps p.tables e below (T120.setTop (mkF m 191 #[.val (.int vp), .val (.int va), .val (.int vb), .val (.ref sa102), .val (.ref b103), .val (.ref b104), .val (.ref b105), .val (.ref b106), .val (.ref b107), .val (.int yk), .val (.int yo), .val (.int yl), .val (.ref b108), .val (.int r110), .val (.int r117), .unset, .unset, .unset] [])) _
    refine XS.aload X120.here hx rfl (hb hby at_191) rfl rfl ?_
    show Steps p.tables e below (T120.setTop (mkF m 193 #[.val (.int vp), .val (.int va), .val (.int vb), .val (.ref sa102), .val (.ref b103), .val (.ref b104), .val (.ref b105), .val (.ref b106), .val (.ref b107), .val (.int yk), .val (.int yo), .val (.int yl), .val (.ref b108), .val (.int r110), .val (.int r117), .unset, .unset, .unset] [(.ref b104)])) _
    refine XS.iconst X120.here hx rfl (hb hby at_193) ?_
    show Steps p.tables e below (T120.setTop (mkF m 194 #[.val (.int vp), .val (.int va), .val (.int vb), .val (.ref sa102), .val (.ref b103), .val (.ref b104), .val (.ref b105), .val (.ref b106), .val (.ref b107), .val (.int yk), .val (.int yo), .val (.int yl), .val (.ref b108), .val (.int r110), .val (.int r117), .unset, .unset, .unset] [(.int (2 : Int32)), (.ref b104)])) _
    refine XS.iload X120.here hx rfl (hb hby at_194) rfl ?_
    show Steps p.tables e below (T120.setTop (mkF m 196 #[.val (.int vp), .val (.int va), .val (.int vb), .val (.ref sa102), .val (.ref b103), .val (.ref b104), .val (.ref b105), .val (.ref b106), .val (.ref b107), .val (.int yk), .val (.int yo), .val (.int yl), .val (.ref b108), .val (.int r110), .val (.int r117), .unset, .unset, .unset] [(.int yo), (.int (2 : Int32)), (.ref b104)])) _
    refine XS.iload X120.here hx rfl (hb hby at_196) rfl ?_
    show Steps p.tables e below (T120.setTop (mkF m 198 #[.val (.int vp), .val (.int va), .val (.int vb), .val (.ref sa102), .val (.ref b103), .val (.ref b104), .val (.ref b105), .val (.ref b106), .val (.ref b107), .val (.int yk), .val (.int yo), .val (.int yl), .val (.ref b108), .val (.int r110), .val (.int r117), .unset, .unset, .unset] [(.int r117), (.int yo), (.int (2 : Int32)), (.ref b104)])) _
    refine XS.iload X120.here hx rfl (hb hby at_198) rfl ?_
    show Steps p.tables e below (T120.setTop (mkF m 200 #[.val (.int vp), .val (.int va), .val (.int vb), .val (.ref sa102), .val (.ref b103), .val (.ref b104), .val (.ref b105), .val (.ref b106), .val (.ref b107), .val (.int yk), .val (.int yo), .val (.int yl), .val (.ref b108), .val (.int r110), .val (.int r117), .unset, .unset, .unset] [(.int r110), (.int r117), (.int yo), (.int (2 : Int32)), (.ref b104)])) _
    refine XS.aloadN X120.here hx rfl (hb hby at_200) rfl rfl ?_
    show Steps p.tables e below (T120.setTop (mkF m 201 #[.val (.int vp), .val (.int va), .val (.int vb), .val (.ref sa102), .val (.ref b103), .val (.ref b104), .val (.ref b105), .val (.ref b106), .val (.ref b107), .val (.int yk), .val (.int yo), .val (.int yl), .val (.ref b108), .val (.int r110), .val (.int r117), .unset, .unset, .unset] [(.ref sa102), (.int r110), (.int r117), (.int yo), (.int (2 : Int32)), (.ref b104)])) _
    refine st121 _ ?_
    show Steps p.tables e below (T121.setTop (mkF m 204 #[.val (.int vp), .val (.int va), .val (.int vb), .val (.ref sa102), .val (.ref b103), .val (.ref b104), .val (.ref b105), .val (.ref b106), .val (.ref b107), .val (.int yk), .val (.int yo), .val (.int yl), .val (.ref b108), .val (.int r110), .val (.int r117), .unset, .unset, .unset] [(.int r121)])) _
    refine XS.ifNo X121.here hx rfl (hb hby at_204) rfl ((if0 _ _).trans (feq (by rw [hr121]; decide : ¬ (r121 = (0 : Int32)))).1) ?_
    show Steps p.tables e below (T121.setTop (mkF m 207 #[.val (.int vp), .val (.int va), .val (.int vb), .val (.ref sa102), .val (.ref b103), .val (.ref b104), .val (.ref b105), .val (.ref b106), .val (.ref b107), .val (.int yk), .val (.int yo), .val (.int yl), .val (.ref b108), .val (.int r110), .val (.int r117), .unset, .unset, .unset] [])) _
    refine XS.aload X121.here hx rfl (hb hby at_207) rfl rfl ?_
    show Steps p.tables e below (T121.setTop (mkF m 209 #[.val (.int vp), .val (.int va), .val (.int vb), .val (.ref sa102), .val (.ref b103), .val (.ref b104), .val (.ref b105), .val (.ref b106), .val (.ref b107), .val (.int yk), .val (.int yo), .val (.int yl), .val (.ref b108), .val (.int r110), .val (.int r117), .unset, .unset, .unset] [(.ref b104)])) _
    refine XS.iconst X121.here hx rfl (hb hby at_209) ?_
    show Steps p.tables e below (T121.setTop (mkF m 210 #[.val (.int vp), .val (.int va), .val (.int vb), .val (.ref sa102), .val (.ref b103), .val (.ref b104), .val (.ref b105), .val (.ref b106), .val (.ref b107), .val (.int yk), .val (.int yo), .val (.int yl), .val (.ref b108), .val (.int r110), .val (.int r117), .unset, .unset, .unset] [(.int (3 : Int32)), (.ref b104)])) _
    refine XS.iload X121.here hx rfl (hb hby at_210) rfl ?_
    show Steps p.tables e below (T121.setTop (mkF m 212 #[.val (.int vp), .val (.int va), .val (.int vb), .val (.ref sa102), .val (.ref b103), .val (.ref b104), .val (.ref b105), .val (.ref b106), .val (.ref b107), .val (.int yk), .val (.int yo), .val (.int yl), .val (.ref b108), .val (.int r110), .val (.int r117), .unset, .unset, .unset] [(.int yo), (.int (3 : Int32)), (.ref b104)])) _
    refine XS.iload X121.here hx rfl (hb hby at_212) rfl ?_
    show Steps p.tables e below (T121.setTop (mkF m 214 #[.val (.int vp), .val (.int va), .val (.int vb), .val (.ref sa102), .val (.ref b103), .val (.ref b104), .val (.ref b105), .val (.ref b106), .val (.ref b107), .val (.int yk), .val (.int yo), .val (.int yl), .val (.ref b108), .val (.int r110), .val (.int r117), .unset, .unset, .unset] [(.int r117), (.int yo), (.int (3 : Int32)), (.ref b104)])) _
    refine XS.iload X121.here hx rfl (hb hby at_214) rfl ?_
    show Steps p.tables e below (T121.setTop (mkF m 216 #[.val (.int vp), .val (.int va), .val (.int vb), .val (.ref sa102), .val (.ref b103), .val (.ref b104), .val (.ref b105), .val (.ref b106), .val (.ref b107), .val (.int yk), .val (.int yo), .val (.int yl), .val (.ref b108), .val (.int r110), .val (.int r117), .unset, .unset, .unset] [(.int r110), (.int r117), (.int yo), (.int (3 : Int32)), (.ref b104)])) _
    refine XS.aloadN X121.here hx rfl (hb hby at_216) rfl rfl ?_
    show Steps p.tables e below (T121.setTop (mkF m 217 #[.val (.int vp), .val (.int va), .val (.int vb), .val (.ref sa102), .val (.ref b103), .val (.ref b104), .val (.ref b105), .val (.ref b106), .val (.ref b107), .val (.int yk), .val (.int yo), .val (.int yl), .val (.ref b108), .val (.int r110), .val (.int r117), .unset, .unset, .unset] [(.ref sa102), (.int r110), (.int r117), (.int yo), (.int (3 : Int32)), (.ref b104)])) _
    refine st122 _ ?_
    show Steps p.tables e below (T122.setTop (mkF m 220 #[.val (.int vp), .val (.int va), .val (.int vb), .val (.ref sa102), .val (.ref b103), .val (.ref b104), .val (.ref b105), .val (.ref b106), .val (.ref b107), .val (.int yk), .val (.int yo), .val (.int yl), .val (.ref b108), .val (.int r110), .val (.int r117), .unset, .unset, .unset] [(.int r122)])) _
    refine XS.ifNo X122.here hx rfl (hb hby at_220) rfl ((if0 _ _).trans (feq (by rw [hr122]; decide : ¬ (r122 = (0 : Int32)))).1) ?_
    show Steps p.tables e below (T122.setTop (mkF m 223 #[.val (.int vp), .val (.int va), .val (.int vb), .val (.ref sa102), .val (.ref b103), .val (.ref b104), .val (.ref b105), .val (.ref b106), .val (.ref b107), .val (.int yk), .val (.int yo), .val (.int yl), .val (.ref b108), .val (.int r110), .val (.int r117), .unset, .unset, .unset] [])) _
    refine XS.aload X122.here hx rfl (hb hby at_223) rfl rfl ?_
    show Steps p.tables e below (T122.setTop (mkF m 225 #[.val (.int vp), .val (.int va), .val (.int vb), .val (.ref sa102), .val (.ref b103), .val (.ref b104), .val (.ref b105), .val (.ref b106), .val (.ref b107), .val (.int yk), .val (.int yo), .val (.int yl), .val (.ref b108), .val (.int r110), .val (.int r117), .unset, .unset, .unset] [(.ref b104)])) _
    refine XS.iconst X122.here hx rfl (hb hby at_225) ?_
    show Steps p.tables e below (T122.setTop (mkF m 226 #[.val (.int vp), .val (.int va), .val (.int vb), .val (.ref sa102), .val (.ref b103), .val (.ref b104), .val (.ref b105), .val (.ref b106), .val (.ref b107), .val (.int yk), .val (.int yo), .val (.int yl), .val (.ref b108), .val (.int r110), .val (.int r117), .unset, .unset, .unset] [(.int (4 : Int32)), (.ref b104)])) _
    refine XS.iload X122.here hx rfl (hb hby at_226) rfl ?_
    show Steps p.tables e below (T122.setTop (mkF m 228 #[.val (.int vp), .val (.int va), .val (.int vb), .val (.ref sa102), .val (.ref b103), .val (.ref b104), .val (.ref b105), .val (.ref b106), .val (.ref b107), .val (.int yk), .val (.int yo), .val (.int yl), .val (.ref b108), .val (.int r110), .val (.int r117), .unset, .unset, .unset] [(.int yo), (.int (4 : Int32)), (.ref b104)])) _
    refine XS.iload X122.here hx rfl (hb hby at_228) rfl ?_
    show Steps p.tables e below (T122.setTop (mkF m 230 #[.val (.int vp), .val (.int va), .val (.int vb), .val (.ref sa102), .val (.ref b103), .val (.ref b104), .val (.ref b105), .val (.ref b106), .val (.ref b107), .val (.int yk), .val (.int yo), .val (.int yl), .val (.ref b108), .val (.int r110), .val (.int r117), .unset, .unset, .unset] [(.int r117), (.int yo), (.int (4 : Int32)), (.ref b104)])) _
    refine XS.iload X122.here hx rfl (hb hby at_230) rfl ?_
    show Steps p.tables e below (T122.setTop (mkF m 232 #[.val (.int vp), .val (.int va), .val (.int vb), .val (.ref sa102), .val (.ref b103), .val (.ref b104), .val (.ref b105), .val (.ref b106), .val (.ref b107), .val (.int yk), .val (.int yo), .val (.int yl), .val (.ref b108), .val (.int r110), .val (.int r117), .unset, .unset, .unset] [(.int r110), (.int r117), (.int yo), (.int (4 : Int32)), (.ref b104)])) _
    refine XS.aloadN X122.here hx rfl (hb hby at_232) rfl rfl ?_
    show Steps p.tables e below (T122.setTop (mkF m 233 #[.val (.int vp), .val (.int va), .val (.int vb), .val (.ref sa102), .val (.ref b103), .val (.ref b104), .val (.ref b105), .val (.ref b106), .val (.ref b107), .val (.int yk), .val (.int yo), .val (.int yl), .val (.ref b108), .val (.int r110), .val (.int r117), .unset, .unset, .unset] [(.ref sa102), (.int r110), (.int r117), (.int yo), (.int (4 : Int32)), (.ref b104)])) _
    refine st123 _ ?_
    show Steps p.tables e below (T123.setTop (mkF m 236 #[.val (.int vp), .val (.int va), .val (.int vb), .val (.ref sa102), .val (.ref b103), .val (.ref b104), .val (.ref b105), .val (.ref b106), .val (.ref b107), .val (.int yk), .val (.int yo), .val (.int yl), .val (.ref b108), .val (.int r110), .val (.int r117), .unset, .unset, .unset] [(.int r123)])) _
    refine XS.ifNo X123.here hx rfl (hb hby at_236) rfl ((if0 _ _).trans (feq (by rw [hr123]; decide : ¬ (r123 = (0 : Int32)))).1) ?_
    show Steps p.tables e below (T123.setTop (mkF m 239 #[.val (.int vp), .val (.int va), .val (.int vb), .val (.ref sa102), .val (.ref b103), .val (.ref b104), .val (.ref b105), .val (.ref b106), .val (.ref b107), .val (.int yk), .val (.int yo), .val (.int yl), .val (.ref b108), .val (.int r110), .val (.int r117), .unset, .unset, .unset] [])) _
    refine XS.aload X123.here hx rfl (hb hby at_239) rfl rfl ?_
    show Steps p.tables e below (T123.setTop (mkF m 241 #[.val (.int vp), .val (.int va), .val (.int vb), .val (.ref sa102), .val (.ref b103), .val (.ref b104), .val (.ref b105), .val (.ref b106), .val (.ref b107), .val (.int yk), .val (.int yo), .val (.int yl), .val (.ref b108), .val (.int r110), .val (.int r117), .unset, .unset, .unset] [(.ref b104)])) _
    refine XS.iconst X123.here hx rfl (hb hby at_241) ?_
    show Steps p.tables e below (T123.setTop (mkF m 242 #[.val (.int vp), .val (.int va), .val (.int vb), .val (.ref sa102), .val (.ref b103), .val (.ref b104), .val (.ref b105), .val (.ref b106), .val (.ref b107), .val (.int yk), .val (.int yo), .val (.int yl), .val (.ref b108), .val (.int r110), .val (.int r117), .unset, .unset, .unset] [(.int (5 : Int32)), (.ref b104)])) _
    refine XS.iload X123.here hx rfl (hb hby at_242) rfl ?_
    show Steps p.tables e below (T123.setTop (mkF m 244 #[.val (.int vp), .val (.int va), .val (.int vb), .val (.ref sa102), .val (.ref b103), .val (.ref b104), .val (.ref b105), .val (.ref b106), .val (.ref b107), .val (.int yk), .val (.int yo), .val (.int yl), .val (.ref b108), .val (.int r110), .val (.int r117), .unset, .unset, .unset] [(.int yo), (.int (5 : Int32)), (.ref b104)])) _
    refine XS.iload X123.here hx rfl (hb hby at_244) rfl ?_
    show Steps p.tables e below (T123.setTop (mkF m 246 #[.val (.int vp), .val (.int va), .val (.int vb), .val (.ref sa102), .val (.ref b103), .val (.ref b104), .val (.ref b105), .val (.ref b106), .val (.ref b107), .val (.int yk), .val (.int yo), .val (.int yl), .val (.ref b108), .val (.int r110), .val (.int r117), .unset, .unset, .unset] [(.int r117), (.int yo), (.int (5 : Int32)), (.ref b104)])) _
    refine XS.iload X123.here hx rfl (hb hby at_246) rfl ?_
    show Steps p.tables e below (T123.setTop (mkF m 248 #[.val (.int vp), .val (.int va), .val (.int vb), .val (.ref sa102), .val (.ref b103), .val (.ref b104), .val (.ref b105), .val (.ref b106), .val (.ref b107), .val (.int yk), .val (.int yo), .val (.int yl), .val (.ref b108), .val (.int r110), .val (.int r117), .unset, .unset, .unset] [(.int r110), (.int r117), (.int yo), (.int (5 : Int32)), (.ref b104)])) _
    refine XS.aloadN X123.here hx rfl (hb hby at_248) rfl rfl ?_
    show Steps p.tables e below (T123.setTop (mkF m 249 #[.val (.int vp), .val (.int va), .val (.int vb), .val (.ref sa102), .val (.ref b103), .val (.ref b104), .val (.ref b105), .val (.ref b106), .val (.ref b107), .val (.int yk), .val (.int yo), .val (.int yl), .val (.ref b108), .val (.int r110), .val (.int r117), .unset, .unset, .unset] [(.ref sa102), (.int r110), (.int r117), (.int yo), (.int (5 : Int32)), (.ref b104)])) _
    refine st124 _ ?_
    show Steps p.tables e below (T124.setTop (mkF m 252 #[.val (.int vp), .val (.int va), .val (.int vb), .val (.ref sa102), .val (.ref b103), .val (.ref b104), .val (.ref b105), .val (.ref b106), .val (.ref b107), .val (.int yk), .val (.int yo), .val (.int yl), .val (.ref b108), .val (.int r110), .val (.int r117), .unset, .unset, .unset] [(.int r124)])) _
    refine XS.ifNo X124.here hx rfl (hb hby at_252) rfl ((if0 _ _).trans (feq (by rw [hr124]; decide : ¬ (r124 = (0 : Int32)))).1) ?_
    show Steps p.tables e below (T124.setTop (mkF m 255 #[.val (.int vp), .val (.int va), .val (.int vb), .val (.ref sa102), .val (.ref b103), .val (.ref b104), .val (.ref b105), .val (.ref b106), .val (.ref b107), .val (.int yk), .val (.int yo), .val (.int yl), .val (.ref b108), .val (.int r110), .val (.int r117), .unset, .unset, .unset] [])) _
    refine XS.aload X124.here hx rfl (hb hby at_255) rfl rfl ?_
    show Steps p.tables e below (T124.setTop (mkF m 257 #[.val (.int vp), .val (.int va), .val (.int vb), .val (.ref sa102), .val (.ref b103), .val (.ref b104), .val (.ref b105), .val (.ref b106), .val (.ref b107), .val (.int yk), .val (.int yo), .val (.int yl), .val (.ref b108), .val (.int r110), .val (.int r117), .unset, .unset, .unset] [(.ref b104)])) _
    refine XS.bipush X124.here hx rfl (hb hby at_257) ?_
    show Steps p.tables e below (T124.setTop (mkF m 259 #[.val (.int vp), .val (.int va), .val (.int vb), .val (.ref sa102), .val (.ref b103), .val (.ref b104), .val (.ref b105), .val (.ref b106), .val (.ref b107), .val (.int yk), .val (.int yo), .val (.int yl), .val (.ref b108), .val (.int r110), .val (.int r117), .unset, .unset, .unset] [(.int (6 : Int32)), (.ref b104)])) _
    refine XS.iload X124.here hx rfl (hb hby at_259) rfl ?_
    show Steps p.tables e below (T124.setTop (mkF m 261 #[.val (.int vp), .val (.int va), .val (.int vb), .val (.ref sa102), .val (.ref b103), .val (.ref b104), .val (.ref b105), .val (.ref b106), .val (.ref b107), .val (.int yk), .val (.int yo), .val (.int yl), .val (.ref b108), .val (.int r110), .val (.int r117), .unset, .unset, .unset] [(.int yo), (.int (6 : Int32)), (.ref b104)])) _
    refine XS.iload X124.here hx rfl (hb hby at_261) rfl ?_
    show Steps p.tables e below (T124.setTop (mkF m 263 #[.val (.int vp), .val (.int va), .val (.int vb), .val (.ref sa102), .val (.ref b103), .val (.ref b104), .val (.ref b105), .val (.ref b106), .val (.ref b107), .val (.int yk), .val (.int yo), .val (.int yl), .val (.ref b108), .val (.int r110), .val (.int r117), .unset, .unset, .unset] [(.int r117), (.int yo), (.int (6 : Int32)), (.ref b104)])) _
    refine XS.iload X124.here hx rfl (hb hby at_263) rfl ?_
    show Steps p.tables e below (T124.setTop (mkF m 265 #[.val (.int vp), .val (.int va), .val (.int vb), .val (.ref sa102), .val (.ref b103), .val (.ref b104), .val (.ref b105), .val (.ref b106), .val (.ref b107), .val (.int yk), .val (.int yo), .val (.int yl), .val (.ref b108), .val (.int r110), .val (.int r117), .unset, .unset, .unset] [(.int r110), (.int r117), (.int yo), (.int (6 : Int32)), (.ref b104)])) _
    refine XS.aloadN X124.here hx rfl (hb hby at_265) rfl rfl ?_
    show Steps p.tables e below (T124.setTop (mkF m 266 #[.val (.int vp), .val (.int va), .val (.int vb), .val (.ref sa102), .val (.ref b103), .val (.ref b104), .val (.ref b105), .val (.ref b106), .val (.ref b107), .val (.int yk), .val (.int yo), .val (.int yl), .val (.ref b108), .val (.int r110), .val (.int r117), .unset, .unset, .unset] [(.ref sa102), (.int r110), (.int r117), (.int yo), (.int (6 : Int32)), (.ref b104)])) _
    refine st125 _ ?_
    show Steps p.tables e below (T125.setTop (mkF m 269 #[.val (.int vp), .val (.int va), .val (.int vb), .val (.ref sa102), .val (.ref b103), .val (.ref b104), .val (.ref b105), .val (.ref b106), .val (.ref b107), .val (.int yk), .val (.int yo), .val (.int yl), .val (.ref b108), .val (.int r110), .val (.int r117), .unset, .unset, .unset] [(.int r125)])) _
    refine XS.ifNo X125.here hx rfl (hb hby at_269) rfl ((if0 _ _).trans (feq (by rw [hr125]; decide : ¬ (r125 = (0 : Int32)))).1) ?_
    show Steps p.tables e below (T125.setTop (mkF m 272 #[.val (.int vp), .val (.int va), .val (.int vb), .val (.ref sa102), .val (.ref b103), .val (.ref b104), .val (.ref b105), .val (.ref b106), .val (.ref b107), .val (.int yk), .val (.int yo), .val (.int yl), .val (.ref b108), .val (.int r110), .val (.int r117), .unset, .unset, .unset] [])) _
    refine XS.aload X125.here hx rfl (hb hby at_272) rfl rfl ?_
    show Steps p.tables e below (T125.setTop (mkF m 274 #[.val (.int vp), .val (.int va), .val (.int vb), .val (.ref sa102), .val (.ref b103), .val (.ref b104), .val (.ref b105), .val (.ref b106), .val (.ref b107), .val (.int yk), .val (.int yo), .val (.int yl), .val (.ref b108), .val (.int r110), .val (.int r117), .unset, .unset, .unset] [(.ref b104)])) _
    refine XS.bipush X125.here hx rfl (hb hby at_274) ?_
    show Steps p.tables e below (T125.setTop (mkF m 276 #[.val (.int vp), .val (.int va), .val (.int vb), .val (.ref sa102), .val (.ref b103), .val (.ref b104), .val (.ref b105), .val (.ref b106), .val (.ref b107), .val (.int yk), .val (.int yo), .val (.int yl), .val (.ref b108), .val (.int r110), .val (.int r117), .unset, .unset, .unset] [(.int (7 : Int32)), (.ref b104)])) _
    refine XS.iload X125.here hx rfl (hb hby at_276) rfl ?_
    show Steps p.tables e below (T125.setTop (mkF m 278 #[.val (.int vp), .val (.int va), .val (.int vb), .val (.ref sa102), .val (.ref b103), .val (.ref b104), .val (.ref b105), .val (.ref b106), .val (.ref b107), .val (.int yk), .val (.int yo), .val (.int yl), .val (.ref b108), .val (.int r110), .val (.int r117), .unset, .unset, .unset] [(.int yo), (.int (7 : Int32)), (.ref b104)])) _
    refine XS.iload X125.here hx rfl (hb hby at_278) rfl ?_
    show Steps p.tables e below (T125.setTop (mkF m 280 #[.val (.int vp), .val (.int va), .val (.int vb), .val (.ref sa102), .val (.ref b103), .val (.ref b104), .val (.ref b105), .val (.ref b106), .val (.ref b107), .val (.int yk), .val (.int yo), .val (.int yl), .val (.ref b108), .val (.int r110), .val (.int r117), .unset, .unset, .unset] [(.int r117), (.int yo), (.int (7 : Int32)), (.ref b104)])) _
    refine XS.iload X125.here hx rfl (hb hby at_280) rfl ?_
    show Steps p.tables e below (T125.setTop (mkF m 282 #[.val (.int vp), .val (.int va), .val (.int vb), .val (.ref sa102), .val (.ref b103), .val (.ref b104), .val (.ref b105), .val (.ref b106), .val (.ref b107), .val (.int yk), .val (.int yo), .val (.int yl), .val (.ref b108), .val (.int r110), .val (.int r117), .unset, .unset, .unset] [(.int r110), (.int r117), (.int yo), (.int (7 : Int32)), (.ref b104)])) _
    refine XS.aloadN X125.here hx rfl (hb hby at_282) rfl rfl ?_
    show Steps p.tables e below (T125.setTop (mkF m 283 #[.val (.int vp), .val (.int va), .val (.int vb), .val (.ref sa102), .val (.ref b103), .val (.ref b104), .val (.ref b105), .val (.ref b106), .val (.ref b107), .val (.int yk), .val (.int yo), .val (.int yl), .val (.ref b108), .val (.int r110), .val (.int r117), .unset, .unset, .unset] [(.ref sa102), (.int r110), (.int r117), (.int yo), (.int (7 : Int32)), (.ref b104)])) _
    refine st126 _ ?_
    show Steps p.tables e below (T126.setTop (mkF m 286 #[.val (.int vp), .val (.int va), .val (.int vb), .val (.ref sa102), .val (.ref b103), .val (.ref b104), .val (.ref b105), .val (.ref b106), .val (.ref b107), .val (.int yk), .val (.int yo), .val (.int yl), .val (.ref b108), .val (.int r110), .val (.int r117), .unset, .unset, .unset] [(.int r126)])) _
    refine XS.ifNo X126.here hx rfl (hb hby at_286) rfl ((if0 _ _).trans (feq (by rw [hr126]; decide : ¬ (r126 = (0 : Int32)))).1) ?_
    show Steps p.tables e below (T126.setTop (mkF m 289 #[.val (.int vp), .val (.int va), .val (.int vb), .val (.ref sa102), .val (.ref b103), .val (.ref b104), .val (.ref b105), .val (.ref b106), .val (.ref b107), .val (.int yk), .val (.int yo), .val (.int yl), .val (.ref b108), .val (.int r110), .val (.int r117), .unset, .unset, .unset] [])) _
    refine XS.iconst X126.here hx rfl (hb hby at_289) ?_
    show Steps p.tables e below (T126.setTop (mkF m 290 #[.val (.int vp), .val (.int va), .val (.int vb), .val (.ref sa102), .val (.ref b103), .val (.ref b104), .val (.ref b105), .val (.ref b106), .val (.ref b107), .val (.int yk), .val (.int yo), .val (.int yl), .val (.ref b108), .val (.int r110), .val (.int r117), .unset, .unset, .unset] [(.int (1 : Int32))])) _
    refine XS.goto X126.here hx rfl (pc0 := 290) (pc' := 294) rfl (hb hby at_290) (by decide) (by decide) ?_
    show Steps p.tables e below (T126.setTop (mkF m 294 #[.val (.int vp), .val (.int va), .val (.int vb), .val (.ref sa102), .val (.ref b103), .val (.ref b104), .val (.ref b105), .val (.ref b106), .val (.ref b107), .val (.int yk), .val (.int yo), .val (.int yl), .val (.ref b108), .val (.int r110), .val (.int r117), .unset, .unset, .unset] [(.int (1 : Int32))])) _
    refine XS.istore X126.here hx rfl (hb hby at_294) rfl (l' := #[.val (.int vp), .val (.int va), .val (.int vb), .val (.ref sa102), .val (.ref b103), .val (.ref b104), .val (.ref b105), .val (.ref b106), .val (.ref b107), .val (.int yk), .val (.int yo), .val (.int yl), .val (.ref b108), .val (.int r110), .val (.int r117), .val (.int (1 : Int32)), .unset, .unset]) rfl ?_
    show Steps p.tables e below (T126.setTop (mkF m 296 #[.val (.int vp), .val (.int va), .val (.int vb), .val (.ref sa102), .val (.ref b103), .val (.ref b104), .val (.ref b105), .val (.ref b106), .val (.ref b107), .val (.int yk), .val (.int yo), .val (.int yl), .val (.ref b108), .val (.int r110), .val (.int r117), .val (.int (1 : Int32)), .unset, .unset] [])) _
    refine XS.iload X126.here hx rfl (hb hby at_296) rfl ?_
    show Steps p.tables e below (T126.setTop (mkF m 298 #[.val (.int vp), .val (.int va), .val (.int vb), .val (.ref sa102), .val (.ref b103), .val (.ref b104), .val (.ref b105), .val (.ref b106), .val (.ref b107), .val (.int yk), .val (.int yo), .val (.int yl), .val (.ref b108), .val (.int r110), .val (.int r117), .val (.int (1 : Int32)), .unset, .unset] [(.int (1 : Int32))])) _
    refine XS.ifYes X126.here hx rfl (pc0 := 298) (pc' := 303) rfl (hb hby at_298) rfl ((if0 _ _).trans (feq (by decide : ¬ ((1 : Int32) = (0 : Int32)))).2) (by decide) (by decide) ?_
    show Steps p.tables e below (T126.setTop (mkF m 303 #[.val (.int vp), .val (.int va), .val (.int vb), .val (.ref sa102), .val (.ref b103), .val (.ref b104), .val (.ref b105), .val (.ref b106), .val (.ref b107), .val (.int yk), .val (.int yo), .val (.int yl), .val (.ref b108), .val (.int r110), .val (.int r117), .val (.int (1 : Int32)), .unset, .unset] [])) _
    refine XS.aload X126.here hx rfl (hb hby at_303) rfl rfl ?_
    show Steps p.tables e below (T126.setTop (mkF m 305 #[.val (.int vp), .val (.int va), .val (.int vb), .val (.ref sa102), .val (.ref b103), .val (.ref b104), .val (.ref b105), .val (.ref b106), .val (.ref b107), .val (.int yk), .val (.int yo), .val (.int yl), .val (.ref b108), .val (.int r110), .val (.int r117), .val (.int (1 : Int32)), .unset, .unset] [(.ref b108)])) _
    refine XS.aload X126.here hx rfl (hb hby at_305) rfl rfl ?_
    show Steps p.tables e below (T126.setTop (mkF m 307 #[.val (.int vp), .val (.int va), .val (.int vb), .val (.ref sa102), .val (.ref b103), .val (.ref b104), .val (.ref b105), .val (.ref b106), .val (.ref b107), .val (.int yk), .val (.int yo), .val (.int yl), .val (.ref b108), .val (.int r110), .val (.int r117), .val (.int (1 : Int32)), .unset, .unset] [(.ref b105), (.ref b108)])) _
    refine XS.iconst X126.here hx rfl (hb hby at_307) ?_
    show Steps p.tables e below (T126.setTop (mkF m 308 #[.val (.int vp), .val (.int va), .val (.int vb), .val (.ref sa102), .val (.ref b103), .val (.ref b104), .val (.ref b105), .val (.ref b106), .val (.ref b107), .val (.int yk), .val (.int yo), .val (.int yl), .val (.ref b108), .val (.int r110), .val (.int r117), .val (.int (1 : Int32)), .unset, .unset] [(.int (0 : Int32)), (.ref b105), (.ref b108)])) _
    refine XS.bipush X126.here hx rfl (hb hby at_308) ?_
    show Steps p.tables e below (T126.setTop (mkF m 310 #[.val (.int vp), .val (.int va), .val (.int vb), .val (.ref sa102), .val (.ref b103), .val (.ref b104), .val (.ref b105), .val (.ref b106), .val (.ref b107), .val (.int yk), .val (.int yo), .val (.int yl), .val (.ref b108), .val (.int r110), .val (.int r117), .val (.int (1 : Int32)), .unset, .unset] [(.int (41 : Int32)), (.int (0 : Int32)), (.ref b105), (.ref b108)])) _
    refine st127.trans ?_
    show Steps p.tables e below (T127.setTop (mkF m 313 #[.val (.int vp), .val (.int va), .val (.int vb), .val (.ref sa102), .val (.ref b103), .val (.ref b104), .val (.ref b105), .val (.ref b106), .val (.ref b107), .val (.int yk), .val (.int yo), .val (.int yl), .val (.ref b108), .val (.int r110), .val (.int r117), .val (.int (1 : Int32)), .unset, .unset] [(.int r127)])) _
    refine XS.istore X127.here hx rfl (hb hby at_313) rfl (l' := #[.val (.int vp), .val (.int va), .val (.int vb), .val (.ref sa102), .val (.ref b103), .val (.ref b104), .val (.ref b105), .val (.ref b106), .val (.ref b107), .val (.int yk), .val (.int yo), .val (.int yl), .val (.ref b108), .val (.int r110), .val (.int r117), .val (.int (1 : Int32)), .val (.int r127), .unset]) rfl ?_
    show Steps p.tables e below (T127.setTop (mkF m 315 #[.val (.int vp), .val (.int va), .val (.int vb), .val (.ref sa102), .val (.ref b103), .val (.ref b104), .val (.ref b105), .val (.ref b106), .val (.ref b107), .val (.int yk), .val (.int yo), .val (.int yl), .val (.ref b108), .val (.int r110), .val (.int r117), .val (.int (1 : Int32)), .val (.int r127), .unset] [])) _
    refine XS.iload X127.here hx rfl (hb hby at_315) rfl ?_
    show Steps p.tables e below (T127.setTop (mkF m 317 #[.val (.int vp), .val (.int va), .val (.int vb), .val (.ref sa102), .val (.ref b103), .val (.ref b104), .val (.ref b105), .val (.ref b106), .val (.ref b107), .val (.int yk), .val (.int yo), .val (.int yl), .val (.ref b108), .val (.int r110), .val (.int r117), .val (.int (1 : Int32)), .val (.int r127), .unset] [(.int r127)])) _
    refine XS.bipush X127.here hx rfl (hb hby at_317) ?_
    show Steps p.tables e below (T127.setTop (mkF m 319 #[.val (.int vp), .val (.int va), .val (.int vb), .val (.ref sa102), .val (.ref b103), .val (.ref b104), .val (.ref b105), .val (.ref b106), .val (.ref b107), .val (.int yk), .val (.int yo), .val (.int yl), .val (.ref b108), .val (.int r110), .val (.int r117), .val (.int (1 : Int32)), .val (.int r127), .unset] [(.int (39 : Int32)), (.int r127)])) _
    refine XS.iload X127.here hx rfl (hb hby at_319) rfl ?_
    show Steps p.tables e below (T127.setTop (mkF m 321 #[.val (.int vp), .val (.int va), .val (.int vb), .val (.ref sa102), .val (.ref b103), .val (.ref b104), .val (.ref b105), .val (.ref b106), .val (.ref b107), .val (.int yk), .val (.int yo), .val (.int yl), .val (.ref b108), .val (.int r110), .val (.int r117), .val (.int (1 : Int32)), .val (.int r127), .unset] [(.int r110), (.int (39 : Int32)), (.int r127)])) _
    refine XS.isub X127.here hx rfl (hb hby at_321) rfl ?_
    show Steps p.tables e below (T127.setTop (mkF m 322 #[.val (.int vp), .val (.int va), .val (.int vb), .val (.ref sa102), .val (.ref b103), .val (.ref b104), .val (.ref b105), .val (.ref b106), .val (.ref b107), .val (.int yk), .val (.int yo), .val (.int yl), .val (.ref b108), .val (.int r110), .val (.int r117), .val (.int (1 : Int32)), .val (.int r127), .unset] [(.int ((39 : Int32) - r110)), (.int r127)])) _
    refine XS.iload X127.here hx rfl (hb hby at_322) rfl ?_
    show Steps p.tables e below (T127.setTop (mkF m 324 #[.val (.int vp), .val (.int va), .val (.int vb), .val (.ref sa102), .val (.ref b103), .val (.ref b104), .val (.ref b105), .val (.ref b106), .val (.ref b107), .val (.int yk), .val (.int yo), .val (.int yl), .val (.ref b108), .val (.int r110), .val (.int r117), .val (.int (1 : Int32)), .val (.int r127), .unset] [(.int r117), (.int ((39 : Int32) - r110)), (.int r127)])) _
    refine XS.isub X127.here hx rfl (hb hby at_324) rfl ?_
    show Steps p.tables e below (T127.setTop (mkF m 325 #[.val (.int vp), .val (.int va), .val (.int vb), .val (.ref sa102), .val (.ref b103), .val (.ref b104), .val (.ref b105), .val (.ref b106), .val (.ref b107), .val (.int yk), .val (.int yo), .val (.int yl), .val (.ref b108), .val (.int r110), .val (.int r117), .val (.int (1 : Int32)), .val (.int r127), .unset] [(.int (((39 : Int32) - r110) - r117)), (.int r127)])) _
    refine XS.icmpYes X127.here hx rfl (pc0 := 325) (pc' := 330) rfl (hb hby at_325) rfl (teq (Int32.toInt_inj.mp (by rw [own_39' _ _ ⟨hr1_.1, by omega⟩ ⟨hr2_.1, by omega⟩]; omega) : r127 = (((39 : Int32) - r110) - r117))).1 (by decide) (by decide) ?_
    show Steps p.tables e below (T127.setTop (mkF m 330 #[.val (.int vp), .val (.int va), .val (.int vb), .val (.ref sa102), .val (.ref b103), .val (.ref b104), .val (.ref b105), .val (.ref b106), .val (.ref b107), .val (.int yk), .val (.int yo), .val (.int yl), .val (.ref b108), .val (.int r110), .val (.int r117), .val (.int (1 : Int32)), .val (.int r127), .unset] [])) _
    refine st128 _ ?_
    show Steps p.tables e below (T128.setTop (mkF m 365 #[.val (.int vp), .val (.int va), .val (.int vb), .val (.ref sa102), .val (.ref b103), .val (.ref b104), .val (.ref b105), .val (.ref b106), .val (.ref b107), .val (.int yk), .val (.int yo), .val (.int yl), .val (.ref b108), .val (.int r110), .val (.int r117), .val (.int (1 : Int32)), .val (.int r127), .unset] [])) _
    refine XS.aload X128.here hx rfl (hb hby at_365) rfl rfl ?_
    show Steps p.tables e below (T128.setTop (mkF m 367 #[.val (.int vp), .val (.int va), .val (.int vb), .val (.ref sa102), .val (.ref b103), .val (.ref b104), .val (.ref b105), .val (.ref b106), .val (.ref b107), .val (.int yk), .val (.int yo), .val (.int yl), .val (.ref b108), .val (.int r110), .val (.int r117), .val (.int (1 : Int32)), .val (.int r127), .unset] [(.ref b108)])) _
    refine XS.aload X128.here hx rfl (hb hby at_367) rfl rfl ?_
    show Steps p.tables e below (T128.setTop (mkF m 369 #[.val (.int vp), .val (.int va), .val (.int vb), .val (.ref sa102), .val (.ref b103), .val (.ref b104), .val (.ref b105), .val (.ref b106), .val (.ref b107), .val (.int yk), .val (.int yo), .val (.int yl), .val (.ref b108), .val (.int r110), .val (.int r117), .val (.int (1 : Int32)), .val (.int r127), .unset] [(.ref b106), (.ref b108)])) _
    refine XS.iconst X128.here hx rfl (hb hby at_369) ?_
    show Steps p.tables e below (T128.setTop (mkF m 370 #[.val (.int vp), .val (.int va), .val (.int vb), .val (.ref sa102), .val (.ref b103), .val (.ref b104), .val (.ref b105), .val (.ref b106), .val (.ref b107), .val (.int yk), .val (.int yo), .val (.int yl), .val (.ref b108), .val (.int r110), .val (.int r117), .val (.int (1 : Int32)), .val (.int r127), .unset] [(.int (0 : Int32)), (.ref b106), (.ref b108)])) _
    refine XS.bipush X128.here hx rfl (hb hby at_370) ?_
    show Steps p.tables e below (T128.setTop (mkF m 372 #[.val (.int vp), .val (.int va), .val (.int vb), .val (.ref sa102), .val (.ref b103), .val (.ref b104), .val (.ref b105), .val (.ref b106), .val (.ref b107), .val (.int yk), .val (.int yo), .val (.int yl), .val (.ref b108), .val (.int r110), .val (.int r117), .val (.int (1 : Int32)), .val (.int r127), .unset] [(.int (41 : Int32)), (.int (0 : Int32)), (.ref b106), (.ref b108)])) _
    refine st133.trans ?_
    show Steps p.tables e below (T133.setTop (mkF m 375 #[.val (.int vp), .val (.int va), .val (.int vb), .val (.ref sa102), .val (.ref b103), .val (.ref b104), .val (.ref b105), .val (.ref b106), .val (.ref b107), .val (.int yk), .val (.int yo), .val (.int yl), .val (.ref b108), .val (.int r110), .val (.int r117), .val (.int (1 : Int32)), .val (.int r127), .unset] [(.int r133)])) _
    refine XS.ifYes X133.here hx rfl (pc0 := 375) (pc' := 380) rfl (hb hby at_375) rfl ((if0 _ _).trans (teq (Int32.toInt_inj.mp (by rw [u0]; exact hz4) : r133 = (0 : Int32))).1) (by decide) (by decide) ?_
    show Steps p.tables e below (T133.setTop (mkF m 380 #[.val (.int vp), .val (.int va), .val (.int vb), .val (.ref sa102), .val (.ref b103), .val (.ref b104), .val (.ref b105), .val (.ref b106), .val (.ref b107), .val (.int yk), .val (.int yo), .val (.int yl), .val (.ref b108), .val (.int r110), .val (.int r117), .val (.int (1 : Int32)), .val (.int r127), .unset] [])) _
    refine XS.aload X133.here hx rfl (hb hby at_380) rfl rfl ?_
    show Steps p.tables e below (T133.setTop (mkF m 382 #[.val (.int vp), .val (.int va), .val (.int vb), .val (.ref sa102), .val (.ref b103), .val (.ref b104), .val (.ref b105), .val (.ref b106), .val (.ref b107), .val (.int yk), .val (.int yo), .val (.int yl), .val (.ref b108), .val (.int r110), .val (.int r117), .val (.int (1 : Int32)), .val (.int r127), .unset] [(.ref b108)])) _
    refine st134 _ ?_
    show Steps p.tables e below (T134.setTop (mkF m 384 #[.val (.int vp), .val (.int va), .val (.int vb), .val (.ref sa102), .val (.ref b103), .val (.ref b104), .val (.ref b105), .val (.ref b106), .val (.ref b107), .val (.int yk), .val (.int yo), .val (.int yl), .val (.ref b108), .val (.int r110), .val (.int r117), .val (.int (1 : Int32)), .val (.int r127), .unset] [(.ref sa134), (.ref b108)])) _
    refine st135 _ ?_
    show Steps p.tables e below (T135.setTop (mkF m 386 #[.val (.int vp), .val (.int va), .val (.int vb), .val (.ref sa102), .val (.ref b103), .val (.ref b104), .val (.ref b105), .val (.ref b106), .val (.ref b107), .val (.int yk), .val (.int yo), .val (.int yl), .val (.ref b108), .val (.int r110), .val (.int r117), .val (.int (1 : Int32)), .val (.int r127), .unset] [(.ref sa135), (.ref sa134), (.ref b108)])) _
    refine st136.trans ?_
    show Steps p.tables e below (T136.setTop (mkF m 389 #[.val (.int vp), .val (.int va), .val (.int vb), .val (.ref sa102), .val (.ref b103), .val (.ref b104), .val (.ref b105), .val (.ref b106), .val (.ref b107), .val (.int yk), .val (.int yo), .val (.int yl), .val (.ref b108), .val (.int r110), .val (.int r117), .val (.int (1 : Int32)), .val (.int r127), .unset] [(.ref r136)])) _
    refine XS.pop X136.here hx rfl (hb hby at_389) rfl rfl ?_
    show Steps p.tables e below (T136.setTop (mkF m 390 #[.val (.int vp), .val (.int va), .val (.int vb), .val (.ref sa102), .val (.ref b103), .val (.ref b104), .val (.ref b105), .val (.ref b106), .val (.ref b107), .val (.int yk), .val (.int yo), .val (.int yl), .val (.ref b108), .val (.int r110), .val (.int r117), .val (.int (1 : Int32)), .val (.int r127), .unset] [])) _
    refine XS.aload X136.here hx rfl (hb hby at_390) rfl rfl ?_
    show Steps p.tables e below (T136.setTop (mkF m 392 #[.val (.int vp), .val (.int va), .val (.int vb), .val (.ref sa102), .val (.ref b103), .val (.ref b104), .val (.ref b105), .val (.ref b106), .val (.ref b107), .val (.int yk), .val (.int yo), .val (.int yl), .val (.ref b108), .val (.int r110), .val (.int r117), .val (.int (1 : Int32)), .val (.int r127), .unset] [(.ref b108)])) _
    refine XS.aload X136.here hx rfl (hb hby at_392) rfl rfl ?_
    show Steps p.tables e below (T136.setTop (mkF m 394 #[.val (.int vp), .val (.int va), .val (.int vb), .val (.ref sa102), .val (.ref b103), .val (.ref b104), .val (.ref b105), .val (.ref b106), .val (.ref b107), .val (.int yk), .val (.int yo), .val (.int yl), .val (.ref b108), .val (.int r110), .val (.int r117), .val (.int (1 : Int32)), .val (.int r127), .unset] [(.ref b107), (.ref b108)])) _
    refine XS.iconst X136.here hx rfl (hb hby at_394) ?_
    show Steps p.tables e below (T136.setTop (mkF m 395 #[.val (.int vp), .val (.int va), .val (.int vb), .val (.ref sa102), .val (.ref b103), .val (.ref b104), .val (.ref b105), .val (.ref b106), .val (.ref b107), .val (.int yk), .val (.int yo), .val (.int yl), .val (.ref b108), .val (.int r110), .val (.int r117), .val (.int (1 : Int32)), .val (.int r127), .unset] [(.int (0 : Int32)), (.ref b107), (.ref b108)])) _
    refine XS.bipush X136.here hx rfl (hb hby at_395) ?_
    show Steps p.tables e below (T136.setTop (mkF m 397 #[.val (.int vp), .val (.int va), .val (.int vb), .val (.ref sa102), .val (.ref b103), .val (.ref b104), .val (.ref b105), .val (.ref b106), .val (.ref b107), .val (.int yk), .val (.int yo), .val (.int yl), .val (.ref b108), .val (.int r110), .val (.int r117), .val (.int (1 : Int32)), .val (.int r127), .unset] [(.int (8 : Int32)), (.int (0 : Int32)), (.ref b107), (.ref b108)])) _
    refine st137.trans ?_
    show Steps p.tables e below (T137.setTop (mkF m 400 #[.val (.int vp), .val (.int va), .val (.int vb), .val (.ref sa102), .val (.ref b103), .val (.ref b104), .val (.ref b105), .val (.ref b106), .val (.ref b107), .val (.int yk), .val (.int yo), .val (.int yl), .val (.ref b108), .val (.int r110), .val (.int r117), .val (.int (1 : Int32)), .val (.int r127), .unset] [(.int (8 : Int32))])) _
    refine XS.istore X137.here hx rfl (hb hby at_400) rfl (l' := #[.val (.int vp), .val (.int va), .val (.int vb), .val (.ref sa102), .val (.ref b103), .val (.ref b104), .val (.ref b105), .val (.ref b106), .val (.ref b107), .val (.int yk), .val (.int yo), .val (.int yl), .val (.ref b108), .val (.int r110), .val (.int r117), .val (.int (1 : Int32)), .val (.int r127), .val (.int (8 : Int32))]) rfl ?_
    show Steps p.tables e below (T137.setTop (mkF m 402 #[.val (.int vp), .val (.int va), .val (.int vb), .val (.ref sa102), .val (.ref b103), .val (.ref b104), .val (.ref b105), .val (.ref b106), .val (.ref b107), .val (.int yk), .val (.int yo), .val (.int yl), .val (.ref b108), .val (.int r110), .val (.int r117), .val (.int (1 : Int32)), .val (.int r127), .val (.int (8 : Int32))] [])) _
    refine XS.iload X137.here hx rfl (hb hby at_402) rfl ?_
    show Steps p.tables e below (T137.setTop (mkF m 404 #[.val (.int vp), .val (.int va), .val (.int vb), .val (.ref sa102), .val (.ref b103), .val (.ref b104), .val (.ref b105), .val (.ref b106), .val (.ref b107), .val (.int yk), .val (.int yo), .val (.int yl), .val (.ref b108), .val (.int r110), .val (.int r117), .val (.int (1 : Int32)), .val (.int r127), .val (.int (8 : Int32))] [(.int (8 : Int32))])) _
    refine XS.bipush X137.here hx rfl (hb hby at_404) ?_
    show Steps p.tables e below (T137.setTop (mkF m 406 #[.val (.int vp), .val (.int va), .val (.int vb), .val (.ref sa102), .val (.ref b103), .val (.ref b104), .val (.ref b105), .val (.ref b106), .val (.ref b107), .val (.int yk), .val (.int yo), .val (.int yl), .val (.ref b108), .val (.int r110), .val (.int r117), .val (.int (1 : Int32)), .val (.int r127), .val (.int (8 : Int32))] [(.int (8 : Int32)), (.int (8 : Int32))])) _
    refine XS.icmpNo X137.here hx rfl (hb hby at_406) rfl (teq (by decide : (8 : Int32) = (8 : Int32))).2 ?_
    show Steps p.tables e below (T137.setTop (mkF m 409 #[.val (.int vp), .val (.int va), .val (.int vb), .val (.ref sa102), .val (.ref b103), .val (.ref b104), .val (.ref b105), .val (.ref b106), .val (.ref b107), .val (.int yk), .val (.int yo), .val (.int yl), .val (.ref b108), .val (.int r110), .val (.int r117), .val (.int (1 : Int32)), .val (.int r127), .val (.int (8 : Int32))] [])) _
    refine XS.aload X137.here hx rfl (hb hby at_409) rfl rfl ?_
    show Steps p.tables e below (T137.setTop (mkF m 411 #[.val (.int vp), .val (.int va), .val (.int vb), .val (.ref sa102), .val (.ref b103), .val (.ref b104), .val (.ref b105), .val (.ref b106), .val (.ref b107), .val (.int yk), .val (.int yo), .val (.int yl), .val (.ref b108), .val (.int r110), .val (.int r117), .val (.int (1 : Int32)), .val (.int r127), .val (.int (8 : Int32))] [(.ref b107)])) _
    refine XS.iconst X137.here hx rfl (hb hby at_411) ?_
    show Steps p.tables e below (T137.setTop (mkF m 412 #[.val (.int vp), .val (.int va), .val (.int vb), .val (.ref sa102), .val (.ref b103), .val (.ref b104), .val (.ref b105), .val (.ref b106), .val (.ref b107), .val (.int yk), .val (.int yo), .val (.int yl), .val (.ref b108), .val (.int r110), .val (.int r117), .val (.int (1 : Int32)), .val (.int r127), .val (.int (8 : Int32))] [(.int (0 : Int32)), (.ref b107)])) _
    obtain ⟨cl138, Ar138, q138, S138, N138a, H138, G138⟩ := id Ax_137
    have hin138 : ¬ ((0 : Int32) < 0 ∨ cl138.slots.size ≤ ((0 : Int32)).toNatClampNeg) := inb_of S138 (⟨by decide, by decide⟩)
    have hat138 : cl138.slots[((0 : Int32)).toNatClampNeg]? = some (.int ((own_cp own_C7 (List.replicate 8 (0 : Int32)) ((0 : Int32)).toNatClampNeg ((0 : Int32)).toNatClampNeg ((8 : Int32)).toNatClampNeg).getD ((0 : Int32)).toNatClampNeg 0)) := H138.at hin138 (own_getD (own_cp own_C7 (List.replicate 8 (0 : Int32)) ((0 : Int32)).toNatClampNeg ((0 : Int32)).toNatClampNeg ((8 : Int32)).toNatClampNeg) _)
    refine X137.baloadBytes hx (j := (0 : Int32)) (v := (.int ((own_cp own_C7 (List.replicate 8 (0 : Int32)) ((0 : Int32)).toNatClampNeg ((0 : Int32)).toNatClampNeg ((8 : Int32)).toNatClampNeg).getD ((0 : Int32)).toNatClampNeg 0))) Ar138.1 (State.isArrayOf_alike hZ136.alike Ar138.2.1) Ar138.2.2 hin138 hat138 (g := (mkF m 412 #[.val (.int vp), .val (.int va), .val (.int vb), .val (.ref sa102), .val (.ref b103), .val (.ref b104), .val (.ref b105), .val (.ref b106), .val (.ref b107), .val (.int yk), .val (.int yo), .val (.int yl), .val (.ref b108), .val (.int r110), .val (.int r117), .val (.int (1 : Int32)), .val (.int r127), .val (.int (8 : Int32))] [(.int (0 : Int32)), (.ref b107)])) rfl rfl (hb hby at_412) _ ?_
    show Steps p.tables e below (T137.setTop (mkF m 413 #[.val (.int vp), .val (.int va), .val (.int vb), .val (.ref sa102), .val (.ref b103), .val (.ref b104), .val (.ref b105), .val (.ref b106), .val (.ref b107), .val (.int yk), .val (.int yo), .val (.int yl), .val (.ref b108), .val (.int r110), .val (.int r117), .val (.int (1 : Int32)), .val (.int r127), .val (.int (8 : Int32))] [(.int ((own_cp own_C7 (List.replicate 8 (0 : Int32)) ((0 : Int32)).toNatClampNeg ((0 : Int32)).toNatClampNeg ((8 : Int32)).toNatClampNeg).getD ((0 : Int32)).toNatClampNeg 0))])) _
    refine XS.bipush X137.here hx rfl (hb hby at_413) ?_
    show Steps p.tables e below (T137.setTop (mkF m 415 #[.val (.int vp), .val (.int va), .val (.int vb), .val (.ref sa102), .val (.ref b103), .val (.ref b104), .val (.ref b105), .val (.ref b106), .val (.ref b107), .val (.int yk), .val (.int yo), .val (.int yl), .val (.ref b108), .val (.int r110), .val (.int r117), .val (.int (1 : Int32)), .val (.int r127), .val (.int (8 : Int32))] [(.int (60 : Int32)), (.int ((own_cp own_C7 (List.replicate 8 (0 : Int32)) ((0 : Int32)).toNatClampNeg ((0 : Int32)).toNatClampNeg ((8 : Int32)).toNatClampNeg).getD ((0 : Int32)).toNatClampNeg 0))])) _
    refine XS.icmpNo X137.here hx rfl (hb hby at_415) rfl (teq ((own_nx _ (by decide)).trans own_C7v.1 : ((own_cp own_C7 (List.replicate 8 (0 : Int32)) ((0 : Int32)).toNatClampNeg ((0 : Int32)).toNatClampNeg ((8 : Int32)).toNatClampNeg).getD ((0 : Int32)).toNatClampNeg 0) = (60 : Int32))).2 ?_
    show Steps p.tables e below (T137.setTop (mkF m 418 #[.val (.int vp), .val (.int va), .val (.int vb), .val (.ref sa102), .val (.ref b103), .val (.ref b104), .val (.ref b105), .val (.ref b106), .val (.ref b107), .val (.int yk), .val (.int yo), .val (.int yl), .val (.ref b108), .val (.int r110), .val (.int r117), .val (.int (1 : Int32)), .val (.int r127), .val (.int (8 : Int32))] [])) _
    refine XS.aload X137.here hx rfl (hb hby at_418) rfl rfl ?_
    show Steps p.tables e below (T137.setTop (mkF m 420 #[.val (.int vp), .val (.int va), .val (.int vb), .val (.ref sa102), .val (.ref b103), .val (.ref b104), .val (.ref b105), .val (.ref b106), .val (.ref b107), .val (.int yk), .val (.int yo), .val (.int yl), .val (.ref b108), .val (.int r110), .val (.int r117), .val (.int (1 : Int32)), .val (.int r127), .val (.int (8 : Int32))] [(.ref b107)])) _
    refine XS.iconst X137.here hx rfl (hb hby at_420) ?_
    show Steps p.tables e below (T137.setTop (mkF m 421 #[.val (.int vp), .val (.int va), .val (.int vb), .val (.ref sa102), .val (.ref b103), .val (.ref b104), .val (.ref b105), .val (.ref b106), .val (.ref b107), .val (.int yk), .val (.int yo), .val (.int yl), .val (.ref b108), .val (.int r110), .val (.int r117), .val (.int (1 : Int32)), .val (.int r127), .val (.int (8 : Int32))] [(.int (1 : Int32)), (.ref b107)])) _
    obtain ⟨cl139, Ar139, q139, S139, N139a, H139, G139⟩ := id Ax_137
    have hin139 : ¬ ((1 : Int32) < 0 ∨ cl139.slots.size ≤ ((1 : Int32)).toNatClampNeg) := inb_of S139 (⟨by decide, by decide⟩)
    have hat139 : cl139.slots[((1 : Int32)).toNatClampNeg]? = some (.int ((own_cp own_C7 (List.replicate 8 (0 : Int32)) ((0 : Int32)).toNatClampNeg ((0 : Int32)).toNatClampNeg ((8 : Int32)).toNatClampNeg).getD ((1 : Int32)).toNatClampNeg 0)) := H139.at hin139 (own_getD (own_cp own_C7 (List.replicate 8 (0 : Int32)) ((0 : Int32)).toNatClampNeg ((0 : Int32)).toNatClampNeg ((8 : Int32)).toNatClampNeg) _)
    refine X137.baloadBytes hx (j := (1 : Int32)) (v := (.int ((own_cp own_C7 (List.replicate 8 (0 : Int32)) ((0 : Int32)).toNatClampNeg ((0 : Int32)).toNatClampNeg ((8 : Int32)).toNatClampNeg).getD ((1 : Int32)).toNatClampNeg 0))) Ar139.1 (State.isArrayOf_alike hZ136.alike Ar139.2.1) Ar139.2.2 hin139 hat139 (g := (mkF m 421 #[.val (.int vp), .val (.int va), .val (.int vb), .val (.ref sa102), .val (.ref b103), .val (.ref b104), .val (.ref b105), .val (.ref b106), .val (.ref b107), .val (.int yk), .val (.int yo), .val (.int yl), .val (.ref b108), .val (.int r110), .val (.int r117), .val (.int (1 : Int32)), .val (.int r127), .val (.int (8 : Int32))] [(.int (1 : Int32)), (.ref b107)])) rfl rfl (hb hby at_421) _ ?_
    show Steps p.tables e below (T137.setTop (mkF m 422 #[.val (.int vp), .val (.int va), .val (.int vb), .val (.ref sa102), .val (.ref b103), .val (.ref b104), .val (.ref b105), .val (.ref b106), .val (.ref b107), .val (.int yk), .val (.int yo), .val (.int yl), .val (.ref b108), .val (.int r110), .val (.int r117), .val (.int (1 : Int32)), .val (.int r127), .val (.int (8 : Int32))] [(.int ((own_cp own_C7 (List.replicate 8 (0 : Int32)) ((0 : Int32)).toNatClampNeg ((0 : Int32)).toNatClampNeg ((8 : Int32)).toNatClampNeg).getD ((1 : Int32)).toNatClampNeg 0))])) _
    refine XS.bipush X137.here hx rfl (hb hby at_422) ?_
    show Steps p.tables e below (T137.setTop (mkF m 424 #[.val (.int vp), .val (.int va), .val (.int vb), .val (.ref sa102), .val (.ref b103), .val (.ref b104), .val (.ref b105), .val (.ref b106), .val (.ref b107), .val (.int yk), .val (.int yo), .val (.int yl), .val (.ref b108), .val (.int r110), .val (.int r117), .val (.int (1 : Int32)), .val (.int r127), .val (.int (8 : Int32))] [(.int (97 : Int32)), (.int ((own_cp own_C7 (List.replicate 8 (0 : Int32)) ((0 : Int32)).toNatClampNeg ((0 : Int32)).toNatClampNeg ((8 : Int32)).toNatClampNeg).getD ((1 : Int32)).toNatClampNeg 0))])) _
    refine XS.icmpNo X137.here hx rfl (hb hby at_424) rfl (teq ((own_nx _ (by decide)).trans own_C7v.2.1 : ((own_cp own_C7 (List.replicate 8 (0 : Int32)) ((0 : Int32)).toNatClampNeg ((0 : Int32)).toNatClampNeg ((8 : Int32)).toNatClampNeg).getD ((1 : Int32)).toNatClampNeg 0) = (97 : Int32))).2 ?_
    show Steps p.tables e below (T137.setTop (mkF m 427 #[.val (.int vp), .val (.int va), .val (.int vb), .val (.ref sa102), .val (.ref b103), .val (.ref b104), .val (.ref b105), .val (.ref b106), .val (.ref b107), .val (.int yk), .val (.int yo), .val (.int yl), .val (.ref b108), .val (.int r110), .val (.int r117), .val (.int (1 : Int32)), .val (.int r127), .val (.int (8 : Int32))] [])) _
    refine XS.aload X137.here hx rfl (hb hby at_427) rfl rfl ?_
    show Steps p.tables e below (T137.setTop (mkF m 429 #[.val (.int vp), .val (.int va), .val (.int vb), .val (.ref sa102), .val (.ref b103), .val (.ref b104), .val (.ref b105), .val (.ref b106), .val (.ref b107), .val (.int yk), .val (.int yo), .val (.int yl), .val (.ref b108), .val (.int r110), .val (.int r117), .val (.int (1 : Int32)), .val (.int r127), .val (.int (8 : Int32))] [(.ref b107)])) _
    refine XS.iconst X137.here hx rfl (hb hby at_429) ?_
    show Steps p.tables e below (T137.setTop (mkF m 430 #[.val (.int vp), .val (.int va), .val (.int vb), .val (.ref sa102), .val (.ref b103), .val (.ref b104), .val (.ref b105), .val (.ref b106), .val (.ref b107), .val (.int yk), .val (.int yo), .val (.int yl), .val (.ref b108), .val (.int r110), .val (.int r117), .val (.int (1 : Int32)), .val (.int r127), .val (.int (8 : Int32))] [(.int (2 : Int32)), (.ref b107)])) _
    obtain ⟨cl140, Ar140, q140, S140, N140a, H140, G140⟩ := id Ax_137
    have hin140 : ¬ ((2 : Int32) < 0 ∨ cl140.slots.size ≤ ((2 : Int32)).toNatClampNeg) := inb_of S140 (⟨by decide, by decide⟩)
    have hat140 : cl140.slots[((2 : Int32)).toNatClampNeg]? = some (.int ((own_cp own_C7 (List.replicate 8 (0 : Int32)) ((0 : Int32)).toNatClampNeg ((0 : Int32)).toNatClampNeg ((8 : Int32)).toNatClampNeg).getD ((2 : Int32)).toNatClampNeg 0)) := H140.at hin140 (own_getD (own_cp own_C7 (List.replicate 8 (0 : Int32)) ((0 : Int32)).toNatClampNeg ((0 : Int32)).toNatClampNeg ((8 : Int32)).toNatClampNeg) _)
    refine X137.baloadBytes hx (j := (2 : Int32)) (v := (.int ((own_cp own_C7 (List.replicate 8 (0 : Int32)) ((0 : Int32)).toNatClampNeg ((0 : Int32)).toNatClampNeg ((8 : Int32)).toNatClampNeg).getD ((2 : Int32)).toNatClampNeg 0))) Ar140.1 (State.isArrayOf_alike hZ136.alike Ar140.2.1) Ar140.2.2 hin140 hat140 (g := (mkF m 430 #[.val (.int vp), .val (.int va), .val (.int vb), .val (.ref sa102), .val (.ref b103), .val (.ref b104), .val (.ref b105), .val (.ref b106), .val (.ref b107), .val (.int yk), .val (.int yo), .val (.int yl), .val (.ref b108), .val (.int r110), .val (.int r117), .val (.int (1 : Int32)), .val (.int r127), .val (.int (8 : Int32))] [(.int (2 : Int32)), (.ref b107)])) rfl rfl (hb hby at_430) _ ?_
    show Steps p.tables e below (T137.setTop (mkF m 431 #[.val (.int vp), .val (.int va), .val (.int vb), .val (.ref sa102), .val (.ref b103), .val (.ref b104), .val (.ref b105), .val (.ref b106), .val (.ref b107), .val (.int yk), .val (.int yo), .val (.int yl), .val (.ref b108), .val (.int r110), .val (.int r117), .val (.int (1 : Int32)), .val (.int r127), .val (.int (8 : Int32))] [(.int ((own_cp own_C7 (List.replicate 8 (0 : Int32)) ((0 : Int32)).toNatClampNeg ((0 : Int32)).toNatClampNeg ((8 : Int32)).toNatClampNeg).getD ((2 : Int32)).toNatClampNeg 0))])) _
    refine XS.bipush X137.here hx rfl (hb hby at_431) ?_
    show Steps p.tables e below (T137.setTop (mkF m 433 #[.val (.int vp), .val (.int va), .val (.int vb), .val (.ref sa102), .val (.ref b103), .val (.ref b104), .val (.ref b105), .val (.ref b106), .val (.ref b107), .val (.int yk), .val (.int yo), .val (.int yl), .val (.ref b108), .val (.int r110), .val (.int r117), .val (.int (1 : Int32)), .val (.int r127), .val (.int (8 : Int32))] [(.int (62 : Int32)), (.int ((own_cp own_C7 (List.replicate 8 (0 : Int32)) ((0 : Int32)).toNatClampNeg ((0 : Int32)).toNatClampNeg ((8 : Int32)).toNatClampNeg).getD ((2 : Int32)).toNatClampNeg 0))])) _
    refine XS.icmpNo X137.here hx rfl (hb hby at_433) rfl (teq ((own_nx _ (by decide)).trans own_C7v.2.2.1 : ((own_cp own_C7 (List.replicate 8 (0 : Int32)) ((0 : Int32)).toNatClampNeg ((0 : Int32)).toNatClampNeg ((8 : Int32)).toNatClampNeg).getD ((2 : Int32)).toNatClampNeg 0) = (62 : Int32))).2 ?_
    show Steps p.tables e below (T137.setTop (mkF m 436 #[.val (.int vp), .val (.int va), .val (.int vb), .val (.ref sa102), .val (.ref b103), .val (.ref b104), .val (.ref b105), .val (.ref b106), .val (.ref b107), .val (.int yk), .val (.int yo), .val (.int yl), .val (.ref b108), .val (.int r110), .val (.int r117), .val (.int (1 : Int32)), .val (.int r127), .val (.int (8 : Int32))] [])) _
    refine XS.aload X137.here hx rfl (hb hby at_436) rfl rfl ?_
    show Steps p.tables e below (T137.setTop (mkF m 438 #[.val (.int vp), .val (.int va), .val (.int vb), .val (.ref sa102), .val (.ref b103), .val (.ref b104), .val (.ref b105), .val (.ref b106), .val (.ref b107), .val (.int yk), .val (.int yo), .val (.int yl), .val (.ref b108), .val (.int r110), .val (.int r117), .val (.int (1 : Int32)), .val (.int r127), .val (.int (8 : Int32))] [(.ref b107)])) _
    refine XS.iconst X137.here hx rfl (hb hby at_438) ?_
    show Steps p.tables e below (T137.setTop (mkF m 439 #[.val (.int vp), .val (.int va), .val (.int vb), .val (.ref sa102), .val (.ref b103), .val (.ref b104), .val (.ref b105), .val (.ref b106), .val (.ref b107), .val (.int yk), .val (.int yo), .val (.int yl), .val (.ref b108), .val (.int r110), .val (.int r117), .val (.int (1 : Int32)), .val (.int r127), .val (.int (8 : Int32))] [(.int (3 : Int32)), (.ref b107)])) _
    obtain ⟨cl141, Ar141, q141, S141, N141a, H141, G141⟩ := id Ax_137
    have hin141 : ¬ ((3 : Int32) < 0 ∨ cl141.slots.size ≤ ((3 : Int32)).toNatClampNeg) := inb_of S141 (⟨by decide, by decide⟩)
    have hat141 : cl141.slots[((3 : Int32)).toNatClampNeg]? = some (.int ((own_cp own_C7 (List.replicate 8 (0 : Int32)) ((0 : Int32)).toNatClampNeg ((0 : Int32)).toNatClampNeg ((8 : Int32)).toNatClampNeg).getD ((3 : Int32)).toNatClampNeg 0)) := H141.at hin141 (own_getD (own_cp own_C7 (List.replicate 8 (0 : Int32)) ((0 : Int32)).toNatClampNeg ((0 : Int32)).toNatClampNeg ((8 : Int32)).toNatClampNeg) _)
    refine X137.baloadBytes hx (j := (3 : Int32)) (v := (.int ((own_cp own_C7 (List.replicate 8 (0 : Int32)) ((0 : Int32)).toNatClampNeg ((0 : Int32)).toNatClampNeg ((8 : Int32)).toNatClampNeg).getD ((3 : Int32)).toNatClampNeg 0))) Ar141.1 (State.isArrayOf_alike hZ136.alike Ar141.2.1) Ar141.2.2 hin141 hat141 (g := (mkF m 439 #[.val (.int vp), .val (.int va), .val (.int vb), .val (.ref sa102), .val (.ref b103), .val (.ref b104), .val (.ref b105), .val (.ref b106), .val (.ref b107), .val (.int yk), .val (.int yo), .val (.int yl), .val (.ref b108), .val (.int r110), .val (.int r117), .val (.int (1 : Int32)), .val (.int r127), .val (.int (8 : Int32))] [(.int (3 : Int32)), (.ref b107)])) rfl rfl (hb hby at_439) _ ?_
    show Steps p.tables e below (T137.setTop (mkF m 440 #[.val (.int vp), .val (.int va), .val (.int vb), .val (.ref sa102), .val (.ref b103), .val (.ref b104), .val (.ref b105), .val (.ref b106), .val (.ref b107), .val (.int yk), .val (.int yo), .val (.int yl), .val (.ref b108), .val (.int r110), .val (.int r117), .val (.int (1 : Int32)), .val (.int r127), .val (.int (8 : Int32))] [(.int ((own_cp own_C7 (List.replicate 8 (0 : Int32)) ((0 : Int32)).toNatClampNeg ((0 : Int32)).toNatClampNeg ((8 : Int32)).toNatClampNeg).getD ((3 : Int32)).toNatClampNeg 0))])) _
    refine XS.bipush X137.here hx rfl (hb hby at_440) ?_
    show Steps p.tables e below (T137.setTop (mkF m 442 #[.val (.int vp), .val (.int va), .val (.int vb), .val (.ref sa102), .val (.ref b103), .val (.ref b104), .val (.ref b105), .val (.ref b106), .val (.ref b107), .val (.int yk), .val (.int yo), .val (.int yl), .val (.ref b108), .val (.int r110), .val (.int r117), .val (.int (1 : Int32)), .val (.int r127), .val (.int (8 : Int32))] [(.int (60 : Int32)), (.int ((own_cp own_C7 (List.replicate 8 (0 : Int32)) ((0 : Int32)).toNatClampNeg ((0 : Int32)).toNatClampNeg ((8 : Int32)).toNatClampNeg).getD ((3 : Int32)).toNatClampNeg 0))])) _
    refine XS.icmpNo X137.here hx rfl (hb hby at_442) rfl (teq ((own_nx _ (by decide)).trans own_C7v.2.2.2.1 : ((own_cp own_C7 (List.replicate 8 (0 : Int32)) ((0 : Int32)).toNatClampNeg ((0 : Int32)).toNatClampNeg ((8 : Int32)).toNatClampNeg).getD ((3 : Int32)).toNatClampNeg 0) = (60 : Int32))).2 ?_
    show Steps p.tables e below (T137.setTop (mkF m 445 #[.val (.int vp), .val (.int va), .val (.int vb), .val (.ref sa102), .val (.ref b103), .val (.ref b104), .val (.ref b105), .val (.ref b106), .val (.ref b107), .val (.int yk), .val (.int yo), .val (.int yl), .val (.ref b108), .val (.int r110), .val (.int r117), .val (.int (1 : Int32)), .val (.int r127), .val (.int (8 : Int32))] [])) _
    refine XS.aload X137.here hx rfl (hb hby at_445) rfl rfl ?_
    show Steps p.tables e below (T137.setTop (mkF m 447 #[.val (.int vp), .val (.int va), .val (.int vb), .val (.ref sa102), .val (.ref b103), .val (.ref b104), .val (.ref b105), .val (.ref b106), .val (.ref b107), .val (.int yk), .val (.int yo), .val (.int yl), .val (.ref b108), .val (.int r110), .val (.int r117), .val (.int (1 : Int32)), .val (.int r127), .val (.int (8 : Int32))] [(.ref b107)])) _
    refine XS.iconst X137.here hx rfl (hb hby at_447) ?_
    show Steps p.tables e below (T137.setTop (mkF m 448 #[.val (.int vp), .val (.int va), .val (.int vb), .val (.ref sa102), .val (.ref b103), .val (.ref b104), .val (.ref b105), .val (.ref b106), .val (.ref b107), .val (.int yk), .val (.int yo), .val (.int yl), .val (.ref b108), .val (.int r110), .val (.int r117), .val (.int (1 : Int32)), .val (.int r127), .val (.int (8 : Int32))] [(.int (4 : Int32)), (.ref b107)])) _
    obtain ⟨cl142, Ar142, q142, S142, N142a, H142, G142⟩ := id Ax_137
    have hin142 : ¬ ((4 : Int32) < 0 ∨ cl142.slots.size ≤ ((4 : Int32)).toNatClampNeg) := inb_of S142 (⟨by decide, by decide⟩)
    have hat142 : cl142.slots[((4 : Int32)).toNatClampNeg]? = some (.int ((own_cp own_C7 (List.replicate 8 (0 : Int32)) ((0 : Int32)).toNatClampNeg ((0 : Int32)).toNatClampNeg ((8 : Int32)).toNatClampNeg).getD ((4 : Int32)).toNatClampNeg 0)) := H142.at hin142 (own_getD (own_cp own_C7 (List.replicate 8 (0 : Int32)) ((0 : Int32)).toNatClampNeg ((0 : Int32)).toNatClampNeg ((8 : Int32)).toNatClampNeg) _)
    refine X137.baloadBytes hx (j := (4 : Int32)) (v := (.int ((own_cp own_C7 (List.replicate 8 (0 : Int32)) ((0 : Int32)).toNatClampNeg ((0 : Int32)).toNatClampNeg ((8 : Int32)).toNatClampNeg).getD ((4 : Int32)).toNatClampNeg 0))) Ar142.1 (State.isArrayOf_alike hZ136.alike Ar142.2.1) Ar142.2.2 hin142 hat142 (g := (mkF m 448 #[.val (.int vp), .val (.int va), .val (.int vb), .val (.ref sa102), .val (.ref b103), .val (.ref b104), .val (.ref b105), .val (.ref b106), .val (.ref b107), .val (.int yk), .val (.int yo), .val (.int yl), .val (.ref b108), .val (.int r110), .val (.int r117), .val (.int (1 : Int32)), .val (.int r127), .val (.int (8 : Int32))] [(.int (4 : Int32)), (.ref b107)])) rfl rfl (hb hby at_448) _ ?_
    show Steps p.tables e below (T137.setTop (mkF m 449 #[.val (.int vp), .val (.int va), .val (.int vb), .val (.ref sa102), .val (.ref b103), .val (.ref b104), .val (.ref b105), .val (.ref b106), .val (.ref b107), .val (.int yk), .val (.int yo), .val (.int yl), .val (.ref b108), .val (.int r110), .val (.int r117), .val (.int (1 : Int32)), .val (.int r127), .val (.int (8 : Int32))] [(.int ((own_cp own_C7 (List.replicate 8 (0 : Int32)) ((0 : Int32)).toNatClampNeg ((0 : Int32)).toNatClampNeg ((8 : Int32)).toNatClampNeg).getD ((4 : Int32)).toNatClampNeg 0))])) _
    refine XS.bipush X137.here hx rfl (hb hby at_449) ?_
    show Steps p.tables e below (T137.setTop (mkF m 451 #[.val (.int vp), .val (.int va), .val (.int vb), .val (.ref sa102), .val (.ref b103), .val (.ref b104), .val (.ref b105), .val (.ref b106), .val (.ref b107), .val (.int yk), .val (.int yo), .val (.int yl), .val (.ref b108), .val (.int r110), .val (.int r117), .val (.int (1 : Int32)), .val (.int r127), .val (.int (8 : Int32))] [(.int (47 : Int32)), (.int ((own_cp own_C7 (List.replicate 8 (0 : Int32)) ((0 : Int32)).toNatClampNeg ((0 : Int32)).toNatClampNeg ((8 : Int32)).toNatClampNeg).getD ((4 : Int32)).toNatClampNeg 0))])) _
    refine XS.icmpNo X137.here hx rfl (hb hby at_451) rfl (teq ((own_nx _ (by decide)).trans own_C7v.2.2.2.2.1 : ((own_cp own_C7 (List.replicate 8 (0 : Int32)) ((0 : Int32)).toNatClampNeg ((0 : Int32)).toNatClampNeg ((8 : Int32)).toNatClampNeg).getD ((4 : Int32)).toNatClampNeg 0) = (47 : Int32))).2 ?_
    show Steps p.tables e below (T137.setTop (mkF m 454 #[.val (.int vp), .val (.int va), .val (.int vb), .val (.ref sa102), .val (.ref b103), .val (.ref b104), .val (.ref b105), .val (.ref b106), .val (.ref b107), .val (.int yk), .val (.int yo), .val (.int yl), .val (.ref b108), .val (.int r110), .val (.int r117), .val (.int (1 : Int32)), .val (.int r127), .val (.int (8 : Int32))] [])) _
    refine XS.aload X137.here hx rfl (hb hby at_454) rfl rfl ?_
    show Steps p.tables e below (T137.setTop (mkF m 456 #[.val (.int vp), .val (.int va), .val (.int vb), .val (.ref sa102), .val (.ref b103), .val (.ref b104), .val (.ref b105), .val (.ref b106), .val (.ref b107), .val (.int yk), .val (.int yo), .val (.int yl), .val (.ref b108), .val (.int r110), .val (.int r117), .val (.int (1 : Int32)), .val (.int r127), .val (.int (8 : Int32))] [(.ref b107)])) _
    refine XS.bipush X137.here hx rfl (hb hby at_456) ?_
    show Steps p.tables e below (T137.setTop (mkF m 458 #[.val (.int vp), .val (.int va), .val (.int vb), .val (.ref sa102), .val (.ref b103), .val (.ref b104), .val (.ref b105), .val (.ref b106), .val (.ref b107), .val (.int yk), .val (.int yo), .val (.int yl), .val (.ref b108), .val (.int r110), .val (.int r117), .val (.int (1 : Int32)), .val (.int r127), .val (.int (8 : Int32))] [(.int (7 : Int32)), (.ref b107)])) _
    obtain ⟨cl143, Ar143, q143, S143, N143a, H143, G143⟩ := id Ax_137
    have hin143 : ¬ ((7 : Int32) < 0 ∨ cl143.slots.size ≤ ((7 : Int32)).toNatClampNeg) := inb_of S143 (⟨by decide, by decide⟩)
    have hat143 : cl143.slots[((7 : Int32)).toNatClampNeg]? = some (.int ((own_cp own_C7 (List.replicate 8 (0 : Int32)) ((0 : Int32)).toNatClampNeg ((0 : Int32)).toNatClampNeg ((8 : Int32)).toNatClampNeg).getD ((7 : Int32)).toNatClampNeg 0)) := H143.at hin143 (own_getD (own_cp own_C7 (List.replicate 8 (0 : Int32)) ((0 : Int32)).toNatClampNeg ((0 : Int32)).toNatClampNeg ((8 : Int32)).toNatClampNeg) _)
    refine X137.baloadBytes hx (j := (7 : Int32)) (v := (.int ((own_cp own_C7 (List.replicate 8 (0 : Int32)) ((0 : Int32)).toNatClampNeg ((0 : Int32)).toNatClampNeg ((8 : Int32)).toNatClampNeg).getD ((7 : Int32)).toNatClampNeg 0))) Ar143.1 (State.isArrayOf_alike hZ136.alike Ar143.2.1) Ar143.2.2 hin143 hat143 (g := (mkF m 458 #[.val (.int vp), .val (.int va), .val (.int vb), .val (.ref sa102), .val (.ref b103), .val (.ref b104), .val (.ref b105), .val (.ref b106), .val (.ref b107), .val (.int yk), .val (.int yo), .val (.int yl), .val (.ref b108), .val (.int r110), .val (.int r117), .val (.int (1 : Int32)), .val (.int r127), .val (.int (8 : Int32))] [(.int (7 : Int32)), (.ref b107)])) rfl rfl (hb hby at_458) _ ?_
    show Steps p.tables e below (T137.setTop (mkF m 459 #[.val (.int vp), .val (.int va), .val (.int vb), .val (.ref sa102), .val (.ref b103), .val (.ref b104), .val (.ref b105), .val (.ref b106), .val (.ref b107), .val (.int yk), .val (.int yo), .val (.int yl), .val (.ref b108), .val (.int r110), .val (.int r117), .val (.int (1 : Int32)), .val (.int r127), .val (.int (8 : Int32))] [(.int ((own_cp own_C7 (List.replicate 8 (0 : Int32)) ((0 : Int32)).toNatClampNeg ((0 : Int32)).toNatClampNeg ((8 : Int32)).toNatClampNeg).getD ((7 : Int32)).toNatClampNeg 0))])) _
    refine XS.bipush X137.here hx rfl (hb hby at_459) ?_
    show Steps p.tables e below (T137.setTop (mkF m 461 #[.val (.int vp), .val (.int va), .val (.int vb), .val (.ref sa102), .val (.ref b103), .val (.ref b104), .val (.ref b105), .val (.ref b106), .val (.ref b107), .val (.int yk), .val (.int yo), .val (.int yl), .val (.ref b108), .val (.int r110), .val (.int r117), .val (.int (1 : Int32)), .val (.int r127), .val (.int (8 : Int32))] [(.int (10 : Int32)), (.int ((own_cp own_C7 (List.replicate 8 (0 : Int32)) ((0 : Int32)).toNatClampNeg ((0 : Int32)).toNatClampNeg ((8 : Int32)).toNatClampNeg).getD ((7 : Int32)).toNatClampNeg 0))])) _
    refine XS.icmpNo X137.here hx rfl (hb hby at_461) rfl (teq ((own_nx _ (by decide)).trans own_C7v.2.2.2.2.2 : ((own_cp own_C7 (List.replicate 8 (0 : Int32)) ((0 : Int32)).toNatClampNeg ((0 : Int32)).toNatClampNeg ((8 : Int32)).toNatClampNeg).getD ((7 : Int32)).toNatClampNeg 0) = (10 : Int32))).2 ?_
    show Steps p.tables e below (T137.setTop (mkF m 464 #[.val (.int vp), .val (.int va), .val (.int vb), .val (.ref sa102), .val (.ref b103), .val (.ref b104), .val (.ref b105), .val (.ref b106), .val (.ref b107), .val (.int yk), .val (.int yo), .val (.int yl), .val (.ref b108), .val (.int r110), .val (.int r117), .val (.int (1 : Int32)), .val (.int r127), .val (.int (8 : Int32))] [])) _
    refine XS.iconst X137.here hx rfl (hb hby at_464) ?_
    show Steps p.tables e below (T137.setTop (mkF m 465 #[.val (.int vp), .val (.int va), .val (.int vb), .val (.ref sa102), .val (.ref b103), .val (.ref b104), .val (.ref b105), .val (.ref b106), .val (.ref b107), .val (.int yk), .val (.int yo), .val (.int yl), .val (.ref b108), .val (.int r110), .val (.int r117), .val (.int (1 : Int32)), .val (.int r127), .val (.int (8 : Int32))] [(.int (1 : Int32))])) _
    refine XS.goto X137.here hx rfl (pc0 := 465) (pc' := 469) rfl (hb hby at_465) (by decide) (by decide) ?_
    show Steps p.tables e below (T137.setTop (mkF m 469 #[.val (.int vp), .val (.int va), .val (.int vb), .val (.ref sa102), .val (.ref b103), .val (.ref b104), .val (.ref b105), .val (.ref b106), .val (.ref b107), .val (.int yk), .val (.int yo), .val (.int yl), .val (.ref b108), .val (.int r110), .val (.int r117), .val (.int (1 : Int32)), .val (.int r127), .val (.int (8 : Int32))] [(.int (1 : Int32))])) _
    exact retN X137 hx (t := .boolean) Bd.returns (by simp) (hb hby at_469) hr
  · show Q_law Z vp va vb h0 n0 _ T137.heap _
    exact ⟨rfl, N137⟩
  · show CHr Z consts_1 s.vm s.heap T137.vm T137.heap
    rw [hh]
    exact CR137.trans (CHv.at X137 hZ136 (own_EW hw) CR137.1)
set_option maxRecDepth 65536 in
set_option maxHeartbeats 40000000 in
theorem comes_1 {Post : Tables → Env → Array Value → State → Outcome → State → Prop} (hpost : ∀ tb e args s v u, (limb_1_1.after args s (.returned v) u = true ∧ limb_1_2.after args s (.returned v) u = true ∧ True) → ReturnedEndW s (.returned v) u (Jvm.fieldLocs frame_1_writes args s ++ Jvm.arrayLocs frame_1_arrays args s ++ Jvm.staticLocs frame_1_statics s) 48 10688 → Post tb e args s (.returned v) u) :
    ArmFor flags0 classFile x code maxLocals ret World_1 tables_1 room_1 Calls_1 rest_1 Pre_1 Post := by
  intro l hfl _ _ p e ha hc hk s m args below hf hA hF happ hP
  obtain ⟨hcalls, hrest, hpre⟩ := hP
  obtain ⟨-, -, -, hnamed, -, -, -, hat⟩ := (Spec.applies_iff hf).mp happ
  obtain ⟨hg, hn⟩ := and_e (Cond.before_iff.mp (show (Jvm.Cond.and given_1 narrow_1).before args s = true from hpre))
  obtain ⟨hg0, hr0⟩ := and_e hg
  obtain ⟨ha0, hr1⟩ := and_e hr0
  obtain ⟨ha1, hr2⟩ := and_e hr1
  obtain ⟨w0, w1, w2, rfl⟩ : ∃ w0 w1 w2 : Value, args = #[w0, w1, w2] := by
    have hs : args.size = 3 := by simpa [Cond.value, given_1] using hg0
    obtain ⟨L⟩ := args
    match L, hs with
    | [w0, w1, w2], _ => exact ⟨w0, w1, w2, rfl⟩
  have hw := fun d (hd : d ∈ tables_1) => atoms_spec (ws := Jvm.Cond.code x code maxLocals ret :: tables_1) hat d (List.mem_cons_of_mem _ hd)
  obtain ⟨i0, ei0⟩ := is_v ha0
  obtain rfl : w0 = (.int i0) := Option.some.inj ei0
  obtain ⟨i1, ei1⟩ := is_v ha1
  obtain rfl : w1 = (.int i1) := Option.some.inj ei1
  obtain ⟨i2, ei2⟩ := is_v hr2
  obtain rfl : w2 = (.int i2) := Option.some.inj ei2
  obtain ⟨hsets, hown0⟩ := atoms_of _ (rest_1_c_eq ▸ (show rest_1_c.before _ s = true from hrest))
  have hG : own_G s s.heap.size s.heap := by
    refine ⟨Old.start s, ?_, ?_⟩
    · obtain ⟨cs, ecs⟩ := is_v (Cond.before_iff.mp (hsets _ (List.mem_of_getElem? (i := 1) rfl)))
      refine ⟨cs, ?_, Sta.start ecs (Or.inl (hsets _ (List.mem_of_getElem? (i := 0) rfl)))⟩
      have h2 := hsets _ (List.mem_of_getElem? (i := 2) rfl)
      have h3 := not_v (Cond.before_iff.mp h2)
      intro q; subst q
      have h4 := eq_i ecs (Term.int_eval (0)) rfl
      rw [h4] at h3; cases h3
    · obtain ⟨wv, ewv, hwv⟩ := isR_v (Cond.before_iff.mp (hsets _ (List.mem_of_getElem? (i := 8) rfl)))
      exact ⟨wv, hwv, Sta.start ewv (Or.inl (hsets _ (List.mem_of_getElem? (i := 7) rfl)))⟩
  have hCH : CHv s consts_1 s.vm s.heap := CHv.start (own_EW hw) (fun q hq => hcalls.1 q hq) (hsets _ (List.mem_of_getElem? (i := 2) rfl)) (hw _ (List.mem_of_getElem? (i := 3) rfl)) (hw _ (List.mem_of_getElem? (i := 2) rfl))
  obtain ⟨n, o, h1, h2, h3, _, L, rfl, ⟨rfl, N⟩, -, hq⟩ := rm_law l s _ hw tables_1 i0 i1 i2 s.heap s.heap.size (Nat.le_refl _) hG p e ha hc hk s m _ below hf ((Spec.applies_iff_loose hf).mp happ).1 ⟨rfl, State.Warmed39.refl s, rfl, hCH⟩ trivial
  refine ⟨n, _, h1, h2, h3, hpost _ _ _ _ _ _ ⟨Cond.after_iff.mpr rfl, Cond.after_iff.mpr (eq_i res_at (Term.int_eval (1)) rfl), trivial⟩ ⟨hq.1, hq.2.1, hq.2.2.1, (hq.2.2.2.sift fun y hy => Or.inr (N y hy)).mono (by decide) (by decide)⟩⟩
theorem main_1_1 : Claimed_1_1 := comes_1 fun _ _ _ _ _ _ h hF => ⟨h.1, hF⟩
theorem main_1_2 : Claimed_1_2 := comes_1 fun _ _ _ _ _ _ h hF => ⟨h.2.1, hF⟩
end Jvm.Pilot.@@N@@
namespace Jvm.Pilot.@@N@@
open Jvm Jvm.ClassFile Sem Op Lib Jvm.Free Jvm.Stand Jvm.Pilot.@@N@@.Jvm.D
/-! MADE BY PROGRAM (witnessworld.py) out of the Statement's table words and the real class files: 28 classes; the members and pool entries that the words name. The judged class is class 1, her method 2. -/
namespace start1
open Jvm.ClassFile
def u (s : String) : CpInfo := .utf8 (stringToUtf16 s)
/-- a pool by its gaps: so many unusable entries, then the entry; so many at the end -/
def gap : Nat → List CpInfo → List CpInfo
  | 0, r => r
  | n + 1, r => .unusable :: gap n r
def poolList (es : List (Nat × CpInfo)) (last : Nat) : List CpInfo := es.foldr (fun e r => gap e.1 (e.2 :: r)) (gap last [])
def pool (es : List (Nat × CpInfo)) (last : Nat) : Array CpInfo := ⟨poolList es last⟩
def fileOf (pool : Array CpInfo) (this : Nat) (attrs : Array Attribute := #[]) (ms : Array MethodInfo := #[]) (fl : Nat := 33) (sup : Nat := 0) (ifs : Array Nat := #[]) (fds : Array FieldInfo := #[]) : ClassFile where
  minorVersion := 0
  majorVersion := 65
  constantPool := pool
  accessFlags := fl
  thisClass := this
  superClass := sup
  interfaces := ifs
  fields := fds
  methods := ms
  attributes := attrs
def plain (name : String) (sup : Option ClassId) : Class where
  name := name
  kind := .ordinary
  loader := none
  accessFlags := 33
  super := sup
  interfaces := #[]
  cf := none
  fields := #[]
  methods := #[]
  instanceTypes := #[]
  staticTypes := #[]
  resolved := #[]
  callSites := []
  init := .initialized
  statics := none
  mirror := none

def pool0 : Array CpInfo := pool [(5, u "<init>"), (0, u "()V"), (1, .class_ 10), (1, u "java/lang/Object")] 113

def k0c0 : Code := { maxStack := 0, maxLocals := 1, code := object_method_1_code, exceptionTable := #[], attributes := #[] }
def k0m0 : Method := { name := "<init>", desc := "()V", sig := { parameters := [], returnType := none }, accessFlags := 1, code := some k0c0 }
/-- java/lang/Object -/
def k0 : Class := { plain "java/lang/Object" none with
  accessFlags := 33
  interfaces := #[]
  cf := some (fileOf pool0 8 #[] #[{ accessFlags := 1, nameIndex := 5, descriptorIndex := 6, attributes := #[] }] 33 0 #[] #[])
  fields := #[]
  methods := #[k0m0]
  instanceTypes := #[]
  staticTypes := #[]
  resolved := Array.replicate 124 none
  statics := none }

def pool1 : Array CpInfo := pool [(2, .class_ 4), (0, .nameAndType 5 6), (0, u "java/lang/Object"), (0, u "<init>"), (0, u "()V"), (0, .methodref 8 9), (0, .class_ 10), (0, .nameAndType 11 12), (0, u "java/lang/String"), (0, u "charAt"), (0, u "(I)C"), (0, .string 14), (0, u "<?xml version=\"1.0\" encoding=\"UTF-8\"?>\n"), (0, .integer 2147483647), (0, .class_ 17), (0, u "com/example/sealwright/sealwright/io/XmlWriter"), (0, .methodref 16 3), (0, .methodref 16 20), (0, .nameAndType 21 22), (0, u "read"), (0, u "([BII)I"), (0, .methodref 24 25), (0, .class_ 26), (0, .nameAndType 27 28), (0, u "java/lang/Math"), (0, u "min"), (0, u "(II)I"), (0, .methodref 30 31), (0, .class_ 32), (0, .nameAndType 33 34), (0, u "com/example/sealwright/sealwright/io/XmlWriterReadPinLaw"), (0, u "slot"), (0, u "([BIIIILjava/lang/String;)Z"), (0, .string 36), (0, u "a"), (0, .string 38), (0, u ""), (0, .methodref 16 40), (0, .nameAndType 41 42), (0, u "element"), (0, u "(Ljava/lang/String;Ljava/lang/CharSequence;)Lcom/example/sealwright/sealwright/io/XmlWriter;"), (3, u "law"), (0, u "(III)Z")] 7

def k1m0 : Method := { name := "<init>", desc := "()V", sig := { parameters := [], returnType := none }, accessFlags := 1, code := none }
def k1c1 : Code := { maxStack := 3, maxLocals := 7, code := method_2_code, exceptionTable := #[], attributes := #[] }
def k1m1 : Method := { name := "slot", desc := "([BIIIILjava/lang/String;)Z", sig := { parameters := [(.array .byte), .int, .int, .int, .int, (.object "java/lang/String")], returnType := some .boolean }, accessFlags := 10, code := some k1c1 }
def k1c2 : Code := { maxStack := 6, maxLocals := 18, code := code, exceptionTable := #[], attributes := #[] }
def k1m2 : Method := { name := "law", desc := "(III)Z", sig := { parameters := [.int, .int, .int], returnType := some .boolean }, accessFlags := 9, code := some k1c2 }
/-- com/example/sealwright/sealwright/io/XmlWriterReadPinLaw -/
def k1 : Class := { plain "com/example/sealwright/sealwright/io/XmlWriterReadPinLaw" (some 0) with
  accessFlags := 49
  interfaces := #[]
  cf := some (fileOf pool1 30 #[] #[{ accessFlags := 1, nameIndex := 5, descriptorIndex := 6, attributes := #[] }, { accessFlags := 10, nameIndex := 33, descriptorIndex := 34, attributes := #[] }, { accessFlags := 9, nameIndex := 46, descriptorIndex := 47, attributes := #[] }] 49 2 #[] #[])
  fields := #[]
  methods := #[k1m0, k1m1, k1m2]
  instanceTypes := #[]
  staticTypes := #[]
  resolved := Array.replicate 55 none
  statics := none }

def pool2 : Array CpInfo := pool [(1, .class_ 2), (0, u "java/io/Serializable"), (0, .class_ 4), (0, u "java/lang/Object")] 2

/-- java/io/Serializable -/
def k2 : Class := { plain "java/io/Serializable" (some 0) with
  accessFlags := 1537
  interfaces := #[]
  cf := some (fileOf pool2 1 #[] #[] 1537 3 #[] #[])
  fields := #[]
  methods := #[]
  instanceTypes := #[]
  staticTypes := #[]
  resolved := Array.replicate 7 none
  statics := none }

def pool3 : Array CpInfo := pool [(1, .class_ 2), (0, u "java/lang/Comparable"), (0, .class_ 4), (0, u "java/lang/Object")] 7

/-- java/lang/Comparable -/
def k3 : Class := { plain "java/lang/Comparable" (some 0) with
  accessFlags := 1537
  interfaces := #[]
  cf := some (fileOf pool3 1 #[] #[] 1537 3 #[] #[])
  fields := #[]
  methods := #[]
  instanceTypes := #[]
  staticTypes := #[]
  resolved := Array.replicate 12 none
  statics := none }

def pool4 : Array CpInfo := pool [(2, .class_ 4), (1, u "java/lang/CharSequence"), (0, u "length"), (0, u "()I"), (40, .class_ 48), (0, u "java/lang/CharSequence$1CodePointIterator"), (10, .class_ 60), (0, u "java/lang/CharSequence$1CharIterator"), (5, .class_ 67), (0, u "java/lang/Object")] 63

def k4m0 : Method := { name := "length", desc := "()I", sig := { parameters := [], returnType := some .int }, accessFlags := 1025, code := none }
/-- java/lang/CharSequence -/
def k4 : Class := { plain "java/lang/CharSequence" (some 0) with
  accessFlags := 1537
  interfaces := #[]
  cf := some (fileOf pool4 2 #[.nestMembers #[47, 59]] #[{ accessFlags := 1025, nameIndex := 5, descriptorIndex := 6, attributes := #[] }] 1537 66 #[] #[])
  fields := #[]
  methods := #[k4m0]
  instanceTypes := #[]
  staticTypes := #[]
  resolved := Array.replicate 131 none
  statics := none }

def pool5 : Array CpInfo := pool [(1, .class_ 2), (0, u "java/lang/constant/Constable"), (0, .class_ 4), (0, u "java/lang/Object")] 6

/-- java/lang/constant/Constable -/
def k5 : Class := { plain "java/lang/constant/Constable" (some 0) with
  accessFlags := 1537
  interfaces := #[]
  cf := some (fileOf pool5 1 #[] #[] 1537 3 #[] #[])
  fields := #[]
  methods := #[]
  instanceTypes := #[]
  staticTypes := #[]
  resolved := Array.replicate 11 none
  statics := none }

def pool6 : Array CpInfo := pool [(1, .class_ 2), (0, u "java/lang/constant/ConstantDesc"), (0, .class_ 4), (0, u "java/lang/Object")] 32

/-- java/lang/constant/ConstantDesc -/
def k6 : Class := { plain "java/lang/constant/ConstantDesc" (some 0) with
  accessFlags := 1537
  interfaces := #[]
  cf := some (fileOf pool6 1 #[] #[] 1537 3 #[] #[])
  fields := #[]
  methods := #[]
  instanceTypes := #[]
  staticTypes := #[]
  resolved := Array.replicate 37 none
  statics := none }

def pool7 : Array CpInfo := pool [(2, .class_ 4), (1, u "java/lang/Object"), (0, u "<init>"), (0, u "()V"), (2, .fieldref 10 11), (0, .class_ 12), (0, .nameAndType 13 14), (0, u "java/lang/String"), (0, u "value"), (0, u "[B"), (0, .fieldref 10 16), (0, .nameAndType 17 18), (0, u "coder"), (0, u "B"), (2, u "hash"), (0, u "I"), (2, u "hashIsZero"), (0, u "Z"), (11, .fieldref 10 39), (0, .nameAndType 40 26), (0, u "COMPACT_STRINGS"), (66, .class_ 109), (1, u "java/lang/StringLatin1"), (32, u "()Z"), (191, u "()I"), (0, .methodref 10 336), (0, .nameAndType 17 337), (0, u "()B"), (25, u "([BI)C"), (27, u "(II)V"), (35, u "(I)C"), (64, .methodref 10 493), (0, .nameAndType 494 142), (0, u "isLatin1"), (0, .methodref 107 496), (0, .nameAndType 497 363), (0, u "charAt"), (1, .methodref 10 500), (0, .nameAndType 501 391), (0, u "checkIndex"), (2, u "codePointAt"), (2, u "length"), (67, .class_ 576), (0, u "java/lang/CharSequence"), (22, u "CASE_INSENSITIVE_ORDER"), (0, u "Ljava/util/Comparator;"), (164, u "(I)I"), (287, .fieldref 1054 1055), (0, .class_ 1056), (0, .nameAndType 1057 1058), (0, u "jdk/internal/util/Preconditions"), (0, u "SIOOBE_FORMATTER"), (0, u "Ljava/util/function/BiFunction;"), (0, .methodref 1054 1060), (0, .nameAndType 501 1061), (0, u "(IILjava/util/function/BiFunction;)I"), (39, u "serialPersistentFields"), (0, u "[Ljava/io/ObjectStreamField;"), (0, .class_ 1104), (0, u "java/lang/String$CaseInsensitiveComparator"), (1, .class_ 1107), (0, u "java/io/Serializable"), (0, .class_ 1109), (0, u "java/lang/Comparable"), (0, .class_ 1111), (0, u "java/lang/constant/Constable"), (0, .class_ 1113), (0, u "java/lang/constant/ConstantDesc"), (2, u "serialVersionUID"), (0, u "J"), (3, u "REPL"), (0, u "C"), (2, u "LATIN1"), (1, u "UTF16")] 323

def k7m0 : Method := { name := "<init>", desc := "()V", sig := { parameters := [], returnType := none }, accessFlags := 1, code := none }
def k7c1 : Code := { maxStack := 2, maxLocals := 1, code := jdk_42_method_54_code, exceptionTable := #[], attributes := #[] }
def k7m1 : Method := { name := "length", desc := "()I", sig := { parameters := [], returnType := some .int }, accessFlags := 1, code := some k7c1 }
def k7c2 : Code := { maxStack := 2, maxLocals := 2, code := jdk_42_method_56_code, exceptionTable := #[], attributes := #[] }
def k7m2 : Method := { name := "charAt", desc := "(I)C", sig := { parameters := [.int], returnType := some .char }, accessFlags := 1, code := some k7c2 }
def k7c3 : Code := { maxStack := 3, maxLocals := 3, code := jdk_42_method_57_code, exceptionTable := #[], attributes := #[] }
def k7m3 : Method := { name := "codePointAt", desc := "(I)I", sig := { parameters := [.int], returnType := some .int }, accessFlags := 1, code := some k7c3 }
def k7c4 : Code := { maxStack := 1, maxLocals := 1, code := jdk_42_method_152_code, exceptionTable := #[], attributes := #[] }
def k7m4 : Method := { name := "coder", desc := "()B", sig := { parameters := [], returnType := some .byte }, accessFlags := 0, code := some k7c4 }
def k7c5 : Code := { maxStack := 1, maxLocals := 1, code := jdk_42_method_154_code, exceptionTable := #[], attributes := #[] }
def k7m5 : Method := { name := "isLatin1", desc := "()Z", sig := { parameters := [], returnType := some .boolean }, accessFlags := 0, code := some k7c5 }
def k7c6 : Code := { maxStack := 3, maxLocals := 2, code := jdk_42_method_155_code, exceptionTable := #[], attributes := #[] }
def k7m6 : Method := { name := "checkIndex", desc := "(II)V", sig := { parameters := [.int, .int], returnType := none }, accessFlags := 8, code := some k7c6 }
/-- java/lang/String -/
def k7 : Class := { plain "java/lang/String" (some 0) with
  accessFlags := 49
  interfaces := #[2, 3, 4, 5, 6]
  cf := some (fileOf pool7 10 #[.nestMembers #[1103]] #[{ accessFlags := 1, nameIndex := 5, descriptorIndex := 6, attributes := #[] }, { accessFlags := 1, nameIndex := 507, descriptorIndex := 334, attributes := #[] }, { accessFlags := 1, nameIndex := 497, descriptorIndex := 427, attributes := #[] }, { accessFlags := 1, nameIndex := 504, descriptorIndex := 765, attributes := #[] }, { accessFlags := 0, nameIndex := 17, descriptorIndex := 337, attributes := #[] }, { accessFlags := 0, nameIndex := 494, descriptorIndex := 142, attributes := #[] }, { accessFlags := 8, nameIndex := 501, descriptorIndex := 391, attributes := #[] }] 49 2 #[1106, 1108, 575, 1110, 1112] #[{ accessFlags := 18, nameIndex := 13, descriptorIndex := 14, attributes := #[] }, { accessFlags := 18, nameIndex := 17, descriptorIndex := 18, attributes := #[] }, { accessFlags := 2, nameIndex := 21, descriptorIndex := 22, attributes := #[] }, { accessFlags := 2, nameIndex := 25, descriptorIndex := 26, attributes := #[] }, { accessFlags := 26, nameIndex := 1116, descriptorIndex := 1117, attributes := #[] }, { accessFlags := 24, nameIndex := 40, descriptorIndex := 26, attributes := #[] }, { accessFlags := 26, nameIndex := 1101, descriptorIndex := 1102, attributes := #[] }, { accessFlags := 26, nameIndex := 1121, descriptorIndex := 1122, attributes := #[] }, { accessFlags := 25, nameIndex := 599, descriptorIndex := 600, attributes := #[] }, { accessFlags := 24, nameIndex := 1125, descriptorIndex := 18, attributes := #[] }, { accessFlags := 24, nameIndex := 1127, descriptorIndex := 18, attributes := #[] }])
  fields := #[{ name := "value", type := (.array .byte), accessFlags := 18, slot := 0, constantValue := 0 }, { name := "coder", type := .byte, accessFlags := 18, slot := 1, constantValue := 0 }, { name := "hash", type := .int, accessFlags := 2, slot := 2, constantValue := 0 }, { name := "hashIsZero", type := .boolean, accessFlags := 2, slot := 3, constantValue := 0 }, { name := "serialVersionUID", type := .long, accessFlags := 26, slot := 0, constantValue := 0 }, { name := "COMPACT_STRINGS", type := .boolean, accessFlags := 24, slot := 1, constantValue := 0 }, { name := "serialPersistentFields", type := (.array (.object "java/io/ObjectStreamField")), accessFlags := 26, slot := 2, constantValue := 0 }, { name := "REPL", type := .char, accessFlags := 26, slot := 3, constantValue := 0 }, { name := "CASE_INSENSITIVE_ORDER", type := (.object "java/util/Comparator"), accessFlags := 25, slot := 4, constantValue := 0 }, { name := "LATIN1", type := .byte, accessFlags := 24, slot := 5, constantValue := 0 }, { name := "UTF16", type := .byte, accessFlags := 24, slot := 6, constantValue := 0 }]
  methods := #[k7m0, k7m1, k7m2, k7m3, k7m4, k7m5, k7m6]
  instanceTypes := #[(.array .byte), .byte, .int, .boolean]
  staticTypes := #[.long, .boolean, (.array (.object "java/io/ObjectStreamField")), .char, (.object "java/util/Comparator"), .byte, .byte]
  resolved := Array.replicate 1451 none
  statics := some 0 }

def pool8 : Array CpInfo := pool [(1, .methodref 2 3), (0, .class_ 4), (0, .nameAndType 5 6), (0, u "java/lang/Object"), (0, u "<init>"), (0, u "()V"), (0, .fieldref 8 9), (0, .class_ 10), (0, .nameAndType 11 12), (0, u "com/example/sealwright/sealwright/io/XmlWriter"), (0, u "bytes"), (0, u "[B"), (0, .class_ 14), (0, u "java/util/ArrayDeque"), (0, .methodref 13 3), (0, .fieldref 8 17), (0, .nameAndType 18 19), (0, u "open"), (0, u "Ljava/util/Deque;"), (0, .string 21), (0, u "<?xml version=\"1.0\" encoding=\"UTF-8\"?>\n"), (0, .methodref 8 23), (0, .nameAndType 24 25), (0, u "write"), (0, u "(Ljava/lang/String;)V"), (0, .interfaceMethodref 27 28), (0, .class_ 29), (0, .nameAndType 30 31), (0, u "java/lang/CharSequence"), (0, u "length"), (0, u "()I"), (1, .class_ 35), (1, u "java/lang/Character"), (0, u "codePointAt"), (1, .integer 55295), (0, .integer 57344), (0, .integer 65533), (0, .integer 65536), (11, .class_ 55), (1, u "java/lang/String"), (4, .methodref 33 61), (0, .nameAndType 62 63), (0, u "charCount"), (0, u "(I)I"), (0, .methodref 8 65), (0, .nameAndType 66 6), (0, u "indent"), (0, .methodref 8 68), (0, .nameAndType 69 25), (0, u "startTag"), (0, .string 71), (0, u "\n"), (1, .class_ 75), (1, u "java/util/Deque"), (2, .string 79), (0, u "<"), (6, .methodref 8 87), (0, .nameAndType 88 89), (0, u "escape"), (0, u "(Ljava/lang/CharSequence;Ljava/lang/String;Z)V"), (0, .methodref 8 91), (0, .nameAndType 92 25), (0, u "endTag"), (3, .methodref 8 97), (0, .nameAndType 98 99), (0, u "room"), (0, u "(I)V"), (0, .fieldref 8 101), (0, .nameAndType 102 103), (0, u "end"), (0, u "I"), (26, .fieldref 8 131), (0, .nameAndType 132 103), (0, u "start"), (6, .methodref 140 141), (0, .class_ 142), (0, .nameAndType 143 144), (0, u "java/lang/Math"), (0, u "min"), (0, u "(II)I"), (0, .methodref 146 147), (0, .class_ 148), (0, .nameAndType 149 150), (0, u "java/lang/System"), (0, u "arraycopy"), (0, u "(Ljava/lang/Object;ILjava/lang/Object;II)V"), (0, .interfaceMethodref 73 152), (0, .nameAndType 153 31), (0, u "size"), (0, .string 155), (0, u ">"), (0, .string 157), (0, u "</"), (143, .methodref 8 302), (0, .nameAndType 303 304), (0, u "requireXmlText"), (0, u "(Ljava/lang/CharSequence;Ljava/lang/String;)V"), (30, .methodref 8 336), (0, .nameAndType 337 99), (0, u "encode"), (0, .methodref 53 28), (0, .methodref 53 340), (0, .nameAndType 36 63), (0, .integer 55296), (0, .integer 57343), (0, .long 2), (5, .long 2147483639), (14, u "element"), (0, u "(Ljava/lang/String;Ljava/lang/CharSequence;)Lcom/example/sealwright/sealwright/io/XmlWriter;"), (8, u "read"), (0, u "([BII)I")] 23

def k8c0 : Code := { maxStack := 3, maxLocals := 1, code := prog_85_method_1_code, exceptionTable := #[], attributes := #[] }
def k8m0 : Method := { name := "<init>", desc := "()V", sig := { parameters := [], returnType := none }, accessFlags := 0, code := some k8c0 }
def k8c1 : Code := { maxStack := 7, maxLocals := 5, code := prog_85_method_2_code, exceptionTable := #[], attributes := #[] }
def k8m1 : Method := { name := "requireXmlText", desc := "(Ljava/lang/CharSequence;Ljava/lang/String;)V", sig := { parameters := [(.object "java/lang/CharSequence"), (.object "java/lang/String")], returnType := none }, accessFlags := 8, code := some k8c1 }
def k8c2 : Code := { maxStack := 4, maxLocals := 3, code := prog_85_method_5_code, exceptionTable := #[], attributes := #[] }
def k8m2 : Method := { name := "element", desc := "(Ljava/lang/String;Ljava/lang/CharSequence;)Lcom/example/sealwright/sealwright/io/XmlWriter;", sig := { parameters := [(.object "java/lang/String"), (.object "java/lang/CharSequence")], returnType := some (.object "com/example/sealwright/sealwright/io/XmlWriter") }, accessFlags := 0, code := some k8c2 }
def k8c3 : Code := { maxStack := 5, maxLocals := 5, code := prog_85_method_11_code, exceptionTable := #[], attributes := #[] }
def k8m3 : Method := { name := "read", desc := "([BII)I", sig := { parameters := [(.array .byte), .int, .int], returnType := some .int }, accessFlags := 0, code := some k8c3 }
def k8c4 : Code := { maxStack := 5, maxLocals := 2, code := prog_85_method_12_code, exceptionTable := #[], attributes := #[] }
def k8m4 : Method := { name := "indent", desc := "()V", sig := { parameters := [], returnType := none }, accessFlags := 2, code := some k8c4 }
def k8c5 : Code := { maxStack := 2, maxLocals := 2, code := prog_85_method_13_code, exceptionTable := #[], attributes := #[] }
def k8m5 : Method := { name := "startTag", desc := "(Ljava/lang/String;)V", sig := { parameters := [(.object "java/lang/String")], returnType := none }, accessFlags := 2, code := some k8c5 }
def k8c6 : Code := { maxStack := 2, maxLocals := 2, code := prog_85_method_14_code, exceptionTable := #[], attributes := #[] }
def k8m6 : Method := { name := "endTag", desc := "(Ljava/lang/String;)V", sig := { parameters := [(.object "java/lang/String")], returnType := none }, accessFlags := 2, code := some k8c6 }
def k8c7 : Code := { maxStack := 3, maxLocals := 6, code := prog_85_method_22_code, exceptionTable := #[], attributes := #[] }
def k8m7 : Method := { name := "escape", desc := "(Ljava/lang/CharSequence;Ljava/lang/String;Z)V", sig := { parameters := [(.object "java/lang/CharSequence"), (.object "java/lang/String"), .boolean], returnType := none }, accessFlags := 2, code := some k8c7 }
def k8c8 : Code := { maxStack := 2, maxLocals := 4, code := prog_85_method_24_code, exceptionTable := #[], attributes := #[] }
def k8m8 : Method := { name := "write", desc := "(Ljava/lang/String;)V", sig := { parameters := [(.object "java/lang/String")], returnType := none }, accessFlags := 2, code := some k8c8 }
def k8c9 : Code := { maxStack := 5, maxLocals := 2, code := prog_85_method_25_code, exceptionTable := #[], attributes := #[] }
def k8m9 : Method := { name := "encode", desc := "(I)V", sig := { parameters := [.int], returnType := none }, accessFlags := 2, code := some k8c9 }
def k8c10 : Code := { maxStack := 6, maxLocals := 6, code := prog_85_method_26_code, exceptionTable := #[], attributes := #[] }
def k8m10 : Method := { name := "room", desc := "(I)V", sig := { parameters := [.int], returnType := none }, accessFlags := 2, code := some k8c10 }
/-- com/example/sealwright/sealwright/io/XmlWriter -/
def k8 : Class := { plain "com/example/sealwright/sealwright/io/XmlWriter" (some 0) with
  accessFlags := 48
  interfaces := #[]
  cf := some (fileOf pool8 8 #[] #[{ accessFlags := 0, nameIndex := 5, descriptorIndex := 6, attributes := #[] }, { accessFlags := 8, nameIndex := 303, descriptorIndex := 304, attributes := #[] }, { accessFlags := 0, nameIndex := 364, descriptorIndex := 365, attributes := #[] }, { accessFlags := 0, nameIndex := 374, descriptorIndex := 375, attributes := #[] }, { accessFlags := 2, nameIndex := 66, descriptorIndex := 6, attributes := #[] }, { accessFlags := 2, nameIndex := 69, descriptorIndex := 25, attributes := #[] }, { accessFlags := 2, nameIndex := 92, descriptorIndex := 25, attributes := #[] }, { accessFlags := 2, nameIndex := 88, descriptorIndex := 89, attributes := #[] }, { accessFlags := 2, nameIndex := 24, descriptorIndex := 25, attributes := #[] }, { accessFlags := 2, nameIndex := 337, descriptorIndex := 99, attributes := #[] }, { accessFlags := 2, nameIndex := 98, descriptorIndex := 99, attributes := #[] }] 48 2 #[] #[{ accessFlags := 2, nameIndex := 11, descriptorIndex := 12, attributes := #[] }, { accessFlags := 2, nameIndex := 132, descriptorIndex := 103, attributes := #[] }, { accessFlags := 2, nameIndex := 102, descriptorIndex := 103, attributes := #[] }, { accessFlags := 18, nameIndex := 18, descriptorIndex := 19, attributes := #[] }])
  fields := #[{ name := "bytes", type := (.array .byte), accessFlags := 2, slot := 0, constantValue := 0 }, { name := "start", type := .int, accessFlags := 2, slot := 1, constantValue := 0 }, { name := "end", type := .int, accessFlags := 2, slot := 2, constantValue := 0 }, { name := "open", type := (.object "java/util/Deque"), accessFlags := 18, slot := 3, constantValue := 0 }]
  methods := #[k8m0, k8m1, k8m2, k8m3, k8m4, k8m5, k8m6, k8m7, k8m8, k8m9, k8m10]
  instanceTypes := #[(.array .byte), .int, .int, (.object "java/util/Deque")]
  staticTypes := #[]
  resolved := Array.replicate 399 none
  statics := none }

def pool9 : Array CpInfo := pool [(8, .class_ 10), (1, u "java/lang/Iterable"), (24, .class_ 36), (0, u "java/lang/Object")] 25

/-- java/lang/Iterable -/
def k9 : Class := { plain "java/lang/Iterable" (some 0) with
  accessFlags := 1537
  interfaces := #[]
  cf := some (fileOf pool9 8 #[] #[] 1537 35 #[] #[])
  fields := #[]
  methods := #[]
  instanceTypes := #[]
  staticTypes := #[]
  resolved := Array.replicate 62 none
  statics := none }

def pool10 : Array CpInfo := pool [(10, .class_ 12), (1, u "java/util/Collection"), (47, .class_ 61), (0, u "java/lang/Object"), (0, .class_ 63), (0, u "java/lang/Iterable")] 51

/-- java/util/Collection -/
def k10 : Class := { plain "java/util/Collection" (some 0) with
  accessFlags := 1537
  interfaces := #[9]
  cf := some (fileOf pool10 10 #[] #[] 1537 60 #[62] #[])
  fields := #[]
  methods := #[]
  instanceTypes := #[]
  staticTypes := #[]
  resolved := Array.replicate 115 none
  statics := none }

def pool11 : Array CpInfo := pool [(1, .methodref 2 3), (0, .class_ 4), (0, .nameAndType 5 6), (0, u "java/lang/Object"), (0, u "<init>"), (0, u "()V"), (1, .class_ 10), (1, u "java/util/AbstractCollection"), (66, .class_ 78), (0, u "java/util/Collection")] 81

def k11c0 : Code := { maxStack := 1, maxLocals := 1, code := jdk_22_method_1_code, exceptionTable := #[], attributes := #[] }
def k11m0 : Method := { name := "<init>", desc := "()V", sig := { parameters := [], returnType := none }, accessFlags := 4, code := some k11c0 }
/-- java/util/AbstractCollection -/
def k11 : Class := { plain "java/util/AbstractCollection" (some 0) with
  accessFlags := 1057
  interfaces := #[10]
  cf := some (fileOf pool11 8 #[] #[{ accessFlags := 4, nameIndex := 5, descriptorIndex := 6, attributes := #[] }] 1057 2 #[77] #[])
  fields := #[]
  methods := #[k11m0]
  instanceTypes := #[]
  staticTypes := #[]
  resolved := Array.replicate 160 none
  statics := none }

def pool12 : Array CpInfo := pool [(1, .class_ 2), (0, u "java/util/Queue"), (0, .class_ 4), (0, u "java/lang/Object"), (0, .class_ 6), (0, u "java/util/Collection")] 14

/-- java/util/Queue -/
def k12 : Class := { plain "java/util/Queue" (some 0) with
  accessFlags := 1537
  interfaces := #[10]
  cf := some (fileOf pool12 1 #[] #[] 1537 3 #[5] #[])
  fields := #[]
  methods := #[]
  instanceTypes := #[]
  staticTypes := #[]
  resolved := Array.replicate 21 none
  statics := none }

def pool13 : Array CpInfo := pool [(8, .class_ 10), (1, u "java/util/SequencedCollection"), (15, .class_ 27), (0, u "java/lang/Object"), (0, .class_ 29), (0, u "java/util/Collection")] 27

/-- java/util/SequencedCollection -/
def k13 : Class := { plain "java/util/SequencedCollection" (some 0) with
  accessFlags := 1537
  interfaces := #[10]
  cf := some (fileOf pool13 8 #[] #[] 1537 26 #[28] #[])
  fields := #[]
  methods := #[]
  instanceTypes := #[]
  staticTypes := #[]
  resolved := Array.replicate 57 none
  statics := none }

def pool14 : Array CpInfo := pool [(8, .class_ 10), (1, u "java/util/Deque"), (2, .class_ 14), (0, u "java/lang/Object"), (0, .class_ 16), (0, u "java/util/Queue"), (0, .class_ 18), (0, u "java/util/SequencedCollection"), (33, u "size"), (0, u "()I")] 16

def k14m0 : Method := { name := "size", desc := "()I", sig := { parameters := [], returnType := some .int }, accessFlags := 1025, code := none }
/-- java/util/Deque -/
def k14 : Class := { plain "java/util/Deque" (some 0) with
  accessFlags := 1537
  interfaces := #[12, 13]
  cf := some (fileOf pool14 8 #[] #[{ accessFlags := 1025, nameIndex := 52, descriptorIndex := 53, attributes := #[] }] 1537 13 #[15, 17] #[])
  fields := #[]
  methods := #[k14m0]
  instanceTypes := #[]
  staticTypes := #[]
  resolved := Array.replicate 70 none
  statics := none }

def pool15 : Array CpInfo := pool [(1, .class_ 2), (0, u "java/lang/Cloneable"), (0, .class_ 4), (0, u "java/lang/Object")] 2

/-- java/lang/Cloneable -/
def k15 : Class := { plain "java/lang/Cloneable" (some 0) with
  accessFlags := 1537
  interfaces := #[]
  cf := some (fileOf pool15 1 #[] #[] 1537 3 #[] #[])
  fields := #[]
  methods := #[]
  instanceTypes := #[]
  staticTypes := #[]
  resolved := Array.replicate 7 none
  statics := none }

def pool16 : Array CpInfo := pool [(3, .fieldref 4 5), (0, .class_ 6), (0, .nameAndType 7 8), (0, u "java/util/ArrayDeque"), (0, u "elements"), (0, u "[Ljava/lang/Object;"), (11, .fieldref 4 21), (0, .nameAndType 22 23), (0, u "tail"), (0, u "I"), (0, .fieldref 4 25), (0, .nameAndType 26 23), (0, u "head"), (12, u "<init>"), (2, .methodref 43 44), (0, .class_ 45), (0, .nameAndType 39 46), (0, u "java/util/AbstractCollection"), (0, u "()V"), (0, .class_ 48), (0, u "java/lang/Object"), (4, u "size"), (0, u "()I"), (72, .methodref 4 128), (0, .nameAndType 129 130), (0, u "sub"), (0, u "(III)I"), (0, .class_ 132), (0, u "java/util/ArrayDeque$DeqIterator"), (3, .class_ 137), (0, u "java/util/ArrayDeque$DescendingIterator"), (1, .class_ 140), (0, u "java/util/ArrayDeque$DeqSpliterator"), (137, .class_ 279), (0, u "java/util/Deque"), (0, .class_ 281), (0, u "java/lang/Cloneable"), (0, .class_ 283), (0, u "java/io/Serializable"), (0, u "MAX_ARRAY_SIZE"), (1, u "serialVersionUID"), (0, u "J")] 150

def k16c0 : Code := { maxStack := 2, maxLocals := 1, code := jdk_21_method_3_code, exceptionTable := #[], attributes := #[] }
def k16m0 : Method := { name := "<init>", desc := "()V", sig := { parameters := [], returnType := none }, accessFlags := 1, code := some k16c0 }
def k16c1 : Code := { maxStack := 2, maxLocals := 3, code := jdk_21_method_9_code, exceptionTable := #[], attributes := #[] }
def k16m1 : Method := { name := "sub", desc := "(III)I", sig := { parameters := [.int, .int, .int], returnType := some .int }, accessFlags := 24, code := some k16c1 }
def k16c2 : Code := { maxStack := 3, maxLocals := 1, code := jdk_21_method_37_code, exceptionTable := #[], attributes := #[] }
def k16m2 : Method := { name := "size", desc := "()I", sig := { parameters := [], returnType := some .int }, accessFlags := 1, code := some k16c2 }
/-- java/util/ArrayDeque -/
def k16 : Class := { plain "java/util/ArrayDeque" (some 11) with
  accessFlags := 33
  interfaces := #[14, 15, 2]
  cf := some (fileOf pool16 4 #[.nestMembers #[139, 136, 131]] #[{ accessFlags := 1, nameIndex := 39, descriptorIndex := 46, attributes := #[] }, { accessFlags := 24, nameIndex := 129, descriptorIndex := 130, attributes := #[] }, { accessFlags := 1, nameIndex := 53, descriptorIndex := 54, attributes := #[] }] 33 43 #[278, 280, 282] #[{ accessFlags := 128, nameIndex := 7, descriptorIndex := 8, attributes := #[] }, { accessFlags := 128, nameIndex := 26, descriptorIndex := 23, attributes := #[] }, { accessFlags := 128, nameIndex := 22, descriptorIndex := 23, attributes := #[] }, { accessFlags := 26, nameIndex := 284, descriptorIndex := 23, attributes := #[] }, { accessFlags := 26, nameIndex := 286, descriptorIndex := 287, attributes := #[] }])
  fields := #[{ name := "elements", type := (.array (.object "java/lang/Object")), accessFlags := 128, slot := 0, constantValue := 0 }, { name := "head", type := .int, accessFlags := 128, slot := 1, constantValue := 0 }, { name := "tail", type := .int, accessFlags := 128, slot := 2, constantValue := 0 }, { name := "MAX_ARRAY_SIZE", type := .int, accessFlags := 26, slot := 0, constantValue := 0 }, { name := "serialVersionUID", type := .long, accessFlags := 26, slot := 1, constantValue := 0 }]
  methods := #[k16m0, k16m1, k16m2]
  instanceTypes := #[(.array (.object "java/lang/Object")), .int, .int]
  staticTypes := #[.int, .long]
  resolved := Array.replicate 438 none
  statics := none }

def pool17 : Array CpInfo := pool [(2, .class_ 4), (1, u "java/lang/Object"), (0, u "<init>"), (0, u "()V"), (17, .class_ 26), (1, u "jdk/internal/util/Preconditions"), (6, u "checkIndex"), (21, .class_ 56), (0, u "jdk/internal/util/Preconditions$4"), (57, .class_ 115), (0, u "jdk/internal/util/Preconditions$1"), (7, u "SIOOBE_FORMATTER"), (0, u "Ljava/util/function/BiFunction;"), (0, .class_ 126), (0, u "jdk/internal/util/Preconditions$2"), (3, u "AIOOBE_FORMATTER"), (0, .class_ 132), (0, u "jdk/internal/util/Preconditions$3"), (3, u "IOOBE_FORMATTER"), (41, u "(IILjava/util/function/BiFunction;)I")] 15

def k17m0 : Method := { name := "<init>", desc := "()V", sig := { parameters := [], returnType := none }, accessFlags := 1, code := none }
def k17c1 : Code := { maxStack := 3, maxLocals := 3, code := jdk_41_method_11_code, exceptionTable := #[], attributes := #[] }
def k17m1 : Method := { name := "checkIndex", desc := "(IILjava/util/function/BiFunction;)I", sig := { parameters := [.int, .int, (.object "java/util/function/BiFunction")], returnType := some .int }, accessFlags := 9, code := some k17c1 }
/-- jdk/internal/util/Preconditions -/
def k17 : Class := { plain "jdk/internal/util/Preconditions" (some 0) with
  accessFlags := 33
  interfaces := #[]
  cf := some (fileOf pool17 24 #[.nestMembers #[55, 131, 125, 114]] #[{ accessFlags := 1, nameIndex := 5, descriptorIndex := 6, attributes := #[] }, { accessFlags := 9, nameIndex := 33, descriptorIndex := 178, attributes := #[] }] 33 2 #[] #[{ accessFlags := 25, nameIndex := 123, descriptorIndex := 124, attributes := #[] }, { accessFlags := 25, nameIndex := 130, descriptorIndex := 124, attributes := #[] }, { accessFlags := 25, nameIndex := 136, descriptorIndex := 124, attributes := #[] }])
  fields := #[{ name := "SIOOBE_FORMATTER", type := (.object "java/util/function/BiFunction"), accessFlags := 25, slot := 0, constantValue := 0 }, { name := "AIOOBE_FORMATTER", type := (.object "java/util/function/BiFunction"), accessFlags := 25, slot := 1, constantValue := 0 }, { name := "IOOBE_FORMATTER", type := (.object "java/util/function/BiFunction"), accessFlags := 25, slot := 2, constantValue := 0 }]
  methods := #[k17m0, k17m1]
  instanceTypes := #[]
  staticTypes := #[(.object "java/util/function/BiFunction"), (.object "java/util/function/BiFunction"), (.object "java/util/function/BiFunction")]
  resolved := Array.replicate 194 none
  statics := some 1 }

def pool18 : Array CpInfo := pool [(1, .class_ 2), (0, u "java/lang/Character"), (18, u "value"), (0, u "C"), (19, .class_ 44), (1, u "java/lang/Object"), (3, .class_ 50), (1, u "java/lang/Character$CharacterCache"), (22, .integer 65536), (100, u "(I)I"), (109, u "$assertionsDisabled"), (0, u "Z"), (21, .class_ 309), (1, u "java/lang/Character$UnicodeBlock"), (73, u "TYPE"), (0, u "Ljava/lang/Class;"), (0, .class_ 386), (0, u "java/io/Serializable"), (0, .class_ 388), (0, u "java/lang/Comparable"), (0, .class_ 390), (0, u "java/lang/constant/Constable"), (0, u "MIN_RADIX"), (0, u "I"), (2, u "MAX_RADIX"), (1, u "MIN_VALUE"), (1, u "MAX_VALUE"), (3, u "UNASSIGNED"), (0, u "B"), (0, u "UPPERCASE_LETTER"), (1, u "LOWERCASE_LETTER"), (0, u "TITLECASE_LETTER"), (1, u "MODIFIER_LETTER"), (1, u "OTHER_LETTER"), (1, u "NON_SPACING_MARK"), (1, u "ENCLOSING_MARK"), (1, u "COMBINING_SPACING_MARK"), (1, u "DECIMAL_DIGIT_NUMBER"), (1, u "LETTER_NUMBER"), (1, u "OTHER_NUMBER"), (1, u "SPACE_SEPARATOR"), (1, u "LINE_SEPARATOR"), (1, u "PARAGRAPH_SEPARATOR"), (1, u "CONTROL"), (1, u "FORMAT"), (1, u "PRIVATE_USE"), (1, u "SURROGATE"), (1, u "DASH_PUNCTUATION"), (1, u "START_PUNCTUATION"), (1, u "END_PUNCTUATION"), (1, u "CONNECTOR_PUNCTUATION"), (1, u "OTHER_PUNCTUATION"), (1, u "MATH_SYMBOL"), (1, u "CURRENCY_SYMBOL"), (1, u "MODIFIER_SYMBOL"), (1, u "OTHER_SYMBOL"), (1, u "INITIAL_QUOTE_PUNCTUATION"), (1, u "FINAL_QUOTE_PUNCTUATION"), (1, u "ERROR"), (1, u "DIRECTIONALITY_UNDEFINED"), (0, u "DIRECTIONALITY_LEFT_TO_RIGHT"), (0, u "DIRECTIONALITY_RIGHT_TO_LEFT"), (0, u "DIRECTIONALITY_RIGHT_TO_LEFT_ARABIC"), (0, u "DIRECTIONALITY_EUROPEAN_NUMBER"), (0, u "DIRECTIONALITY_EUROPEAN_NUMBER_SEPARATOR"), (0, u "DIRECTIONALITY_EUROPEAN_NUMBER_TERMINATOR"), (0, u "DIRECTIONALITY_ARABIC_NUMBER"), (0, u "DIRECTIONALITY_COMMON_NUMBER_SEPARATOR"), (0, u "DIRECTIONALITY_NONSPACING_MARK"), (0, u "DIRECTIONALITY_BOUNDARY_NEUTRAL"), (0, u "DIRECTIONALITY_PARAGRAPH_SEPARATOR"), (0, u "DIRECTIONALITY_SEGMENT_SEPARATOR"), (0, u "DIRECTIONALITY_WHITESPACE"), (0, u "DIRECTIONALITY_OTHER_NEUTRALS"), (0, u "DIRECTIONALITY_LEFT_TO_RIGHT_EMBEDDING"), (0, u "DIRECTIONALITY_LEFT_TO_RIGHT_OVERRIDE"), (0, u "DIRECTIONALITY_RIGHT_TO_LEFT_EMBEDDING"), (0, u "DIRECTIONALITY_RIGHT_TO_LEFT_OVERRIDE"), (1, u "DIRECTIONALITY_POP_DIRECTIONAL_FORMAT"), (0, u "DIRECTIONALITY_LEFT_TO_RIGHT_ISOLATE"), (0, u "DIRECTIONALITY_RIGHT_TO_LEFT_ISOLATE"), (0, u "DIRECTIONALITY_FIRST_STRONG_ISOLATE"), (0, u "DIRECTIONALITY_POP_DIRECTIONAL_ISOLATE"), (0, u "MIN_HIGH_SURROGATE"), (0, u "MAX_HIGH_SURROGATE"), (1, u "MIN_LOW_SURROGATE"), (0, u "MAX_LOW_SURROGATE"), (1, u "MIN_SURROGATE"), (0, u "MAX_SURROGATE"), (0, u "MIN_SUPPLEMENTARY_CODE_POINT"), (0, u "MIN_CODE_POINT"), (0, u "MAX_CODE_POINT"), (1, u "serialVersionUID"), (0, u "J"), (2, u "SIZE"), (0, u "BYTES"), (29, u "charCount"), (58, .class_ 596), (0, u "java/lang/Character$UnicodeScript"), (0, .class_ 598), (0, u "java/lang/Character$Subset")] 5

def k18c0 : Code := { maxStack := 2, maxLocals := 1, code := jdk_89_method_18_code, exceptionTable := #[], attributes := #[] }
def k18m0 : Method := { name := "charCount", desc := "(I)I", sig := { parameters := [.int], returnType := some .int }, accessFlags := 9, code := some k18c0 }
/-- java/lang/Character -/
def k18 : Class := { plain "java/lang/Character" (some 0) with
  accessFlags := 49
  interfaces := #[2, 3, 5]
  cf := some (fileOf pool18 1 #[.nestMembers #[48, 595, 307, 597]] #[{ accessFlags := 9, nameIndex := 536, descriptorIndex := 174, attributes := #[] }] 49 42 #[385, 387, 389] #[{ accessFlags := 25, nameIndex := 391, descriptorIndex := 392, attributes := #[] }, { accessFlags := 25, nameIndex := 395, descriptorIndex := 392, attributes := #[] }, { accessFlags := 25, nameIndex := 397, descriptorIndex := 22, attributes := #[] }, { accessFlags := 25, nameIndex := 399, descriptorIndex := 22, attributes := #[] }, { accessFlags := 25, nameIndex := 383, descriptorIndex := 384, attributes := #[] }, { accessFlags := 25, nameIndex := 403, descriptorIndex := 404, attributes := #[] }, { accessFlags := 25, nameIndex := 405, descriptorIndex := 404, attributes := #[] }, { accessFlags := 25, nameIndex := 407, descriptorIndex := 404, attributes := #[] }, { accessFlags := 25, nameIndex := 408, descriptorIndex := 404, attributes := #[] }, { accessFlags := 25, nameIndex := 410, descriptorIndex := 404, attributes := #[] }, { accessFlags := 25, nameIndex := 412, descriptorIndex := 404, attributes := #[] }, { accessFlags := 25, nameIndex := 414, descriptorIndex := 404, attributes := #[] }, { accessFlags := 25, nameIndex := 416, descriptorIndex := 404, attributes := #[] }, { accessFlags := 25, nameIndex := 418, descriptorIndex := 404, attributes := #[] }, { accessFlags := 25, nameIndex := 420, descriptorIndex := 404, attributes := #[] }, { accessFlags := 25, nameIndex := 422, descriptorIndex := 404, attributes := #[] }, { accessFlags := 25, nameIndex := 424, descriptorIndex := 404, attributes := #[] }, { accessFlags := 25, nameIndex := 426, descriptorIndex := 404, attributes := #[] }, { accessFlags := 25, nameIndex := 428, descriptorIndex := 404, attributes := #[] }, { accessFlags := 25, nameIndex := 430, descriptorIndex := 404, attributes := #[] }, { accessFlags := 25, nameIndex := 432, descriptorIndex := 404, attributes := #[] }, { accessFlags := 25, nameIndex := 434, descriptorIndex := 404, attributes := #[] }, { accessFlags := 25, nameIndex := 436, descriptorIndex := 404, attributes := #[] }, { accessFlags := 25, nameIndex := 438, descriptorIndex := 404, attributes := #[] }, { accessFlags := 25, nameIndex := 440, descriptorIndex := 404, attributes := #[] }, { accessFlags := 25, nameIndex := 442, descriptorIndex := 404, attributes := #[] }, { accessFlags := 25, nameIndex := 444, descriptorIndex := 404, attributes := #[] }, { accessFlags := 25, nameIndex := 446, descriptorIndex := 404, attributes := #[] }, { accessFlags := 25, nameIndex := 448, descriptorIndex := 404, attributes := #[] }, { accessFlags := 25, nameIndex := 450, descriptorIndex := 404, attributes := #[] }, { accessFlags := 25, nameIndex := 452, descriptorIndex := 404, attributes := #[] }, { accessFlags := 25, nameIndex := 454, descriptorIndex := 404, attributes := #[] }, { accessFlags := 25, nameIndex := 456, descriptorIndex := 404, attributes := #[] }, { accessFlags := 25, nameIndex := 458, descriptorIndex := 404, attributes := #[] }, { accessFlags := 25, nameIndex := 460, descriptorIndex := 404, attributes := #[] }, { accessFlags := 24, nameIndex := 462, descriptorIndex := 392, attributes := #[] }, { accessFlags := 25, nameIndex := 464, descriptorIndex := 404, attributes := #[] }, { accessFlags := 25, nameIndex := 465, descriptorIndex := 404, attributes := #[] }, { accessFlags := 25, nameIndex := 466, descriptorIndex := 404, attributes := #[] }, { accessFlags := 25, nameIndex := 467, descriptorIndex := 404, attributes := #[] }, { accessFlags := 25, nameIndex := 468, descriptorIndex := 404, attributes := #[] }, { accessFlags := 25, nameIndex := 469, descriptorIndex := 404, attributes := #[] }, { accessFlags := 25, nameIndex := 470, descriptorIndex := 404, attributes := #[] }, { accessFlags := 25, nameIndex := 471, descriptorIndex := 404, attributes := #[] }, { accessFlags := 25, nameIndex := 472, descriptorIndex := 404, attributes := #[] }, { accessFlags := 25, nameIndex := 473, descriptorIndex := 404, attributes := #[] }, { accessFlags := 25, nameIndex := 474, descriptorIndex := 404, attributes := #[] }, { accessFlags := 25, nameIndex := 475, descriptorIndex := 404, attributes := #[] }, { accessFlags := 25, nameIndex := 476, descriptorIndex := 404, attributes := #[] }, { accessFlags := 25, nameIndex := 477, descriptorIndex := 404, attributes := #[] }, { accessFlags := 25, nameIndex := 478, descriptorIndex := 404, attributes := #[] }, { accessFlags := 25, nameIndex := 479, descriptorIndex := 404, attributes := #[] }, { accessFlags := 25, nameIndex := 480, descriptorIndex := 404, attributes := #[] }, { accessFlags := 25, nameIndex := 481, descriptorIndex := 404, attributes := #[] }, { accessFlags := 25, nameIndex := 482, descriptorIndex := 404, attributes := #[] }, { accessFlags := 25, nameIndex := 484, descriptorIndex := 404, attributes := #[] }, { accessFlags := 25, nameIndex := 485, descriptorIndex := 404, attributes := #[] }, { accessFlags := 25, nameIndex := 486, descriptorIndex := 404, attributes := #[] }, { accessFlags := 25, nameIndex := 487, descriptorIndex := 404, attributes := #[] }, { accessFlags := 25, nameIndex := 488, descriptorIndex := 404, attributes := #[] }, { accessFlags := 25, nameIndex := 489, descriptorIndex := 22, attributes := #[] }, { accessFlags := 25, nameIndex := 490, descriptorIndex := 22, attributes := #[] }, { accessFlags := 25, nameIndex := 492, descriptorIndex := 22, attributes := #[] }, { accessFlags := 25, nameIndex := 493, descriptorIndex := 22, attributes := #[] }, { accessFlags := 25, nameIndex := 495, descriptorIndex := 22, attributes := #[] }, { accessFlags := 25, nameIndex := 496, descriptorIndex := 22, attributes := #[] }, { accessFlags := 25, nameIndex := 497, descriptorIndex := 392, attributes := #[] }, { accessFlags := 25, nameIndex := 498, descriptorIndex := 392, attributes := #[] }, { accessFlags := 25, nameIndex := 499, descriptorIndex := 392, attributes := #[] }, { accessFlags := 18, nameIndex := 21, descriptorIndex := 22, attributes := #[] }, { accessFlags := 26, nameIndex := 501, descriptorIndex := 502, attributes := #[] }, { accessFlags := 25, nameIndex := 505, descriptorIndex := 392, attributes := #[] }, { accessFlags := 25, nameIndex := 506, descriptorIndex := 392, attributes := #[] }, { accessFlags := 4120, nameIndex := 284, descriptorIndex := 285, attributes := #[] }])
  fields := #[{ name := "MIN_RADIX", type := .int, accessFlags := 25, slot := 0, constantValue := 0 }, { name := "MAX_RADIX", type := .int, accessFlags := 25, slot := 1, constantValue := 0 }, { name := "MIN_VALUE", type := .char, accessFlags := 25, slot := 2, constantValue := 0 }, { name := "MAX_VALUE", type := .char, accessFlags := 25, slot := 3, constantValue := 0 }, { name := "TYPE", type := (.object "java/lang/Class"), accessFlags := 25, slot := 4, constantValue := 0 }, { name := "UNASSIGNED", type := .byte, accessFlags := 25, slot := 5, constantValue := 0 }, { name := "UPPERCASE_LETTER", type := .byte, accessFlags := 25, slot := 6, constantValue := 0 }, { name := "LOWERCASE_LETTER", type := .byte, accessFlags := 25, slot := 7, constantValue := 0 }, { name := "TITLECASE_LETTER", type := .byte, accessFlags := 25, slot := 8, constantValue := 0 }, { name := "MODIFIER_LETTER", type := .byte, accessFlags := 25, slot := 9, constantValue := 0 }, { name := "OTHER_LETTER", type := .byte, accessFlags := 25, slot := 10, constantValue := 0 }, { name := "NON_SPACING_MARK", type := .byte, accessFlags := 25, slot := 11, constantValue := 0 }, { name := "ENCLOSING_MARK", type := .byte, accessFlags := 25, slot := 12, constantValue := 0 }, { name := "COMBINING_SPACING_MARK", type := .byte, accessFlags := 25, slot := 13, constantValue := 0 }, { name := "DECIMAL_DIGIT_NUMBER", type := .byte, accessFlags := 25, slot := 14, constantValue := 0 }, { name := "LETTER_NUMBER", type := .byte, accessFlags := 25, slot := 15, constantValue := 0 }, { name := "OTHER_NUMBER", type := .byte, accessFlags := 25, slot := 16, constantValue := 0 }, { name := "SPACE_SEPARATOR", type := .byte, accessFlags := 25, slot := 17, constantValue := 0 }, { name := "LINE_SEPARATOR", type := .byte, accessFlags := 25, slot := 18, constantValue := 0 }, { name := "PARAGRAPH_SEPARATOR", type := .byte, accessFlags := 25, slot := 19, constantValue := 0 }, { name := "CONTROL", type := .byte, accessFlags := 25, slot := 20, constantValue := 0 }, { name := "FORMAT", type := .byte, accessFlags := 25, slot := 21, constantValue := 0 }, { name := "PRIVATE_USE", type := .byte, accessFlags := 25, slot := 22, constantValue := 0 }, { name := "SURROGATE", type := .byte, accessFlags := 25, slot := 23, constantValue := 0 }, { name := "DASH_PUNCTUATION", type := .byte, accessFlags := 25, slot := 24, constantValue := 0 }, { name := "START_PUNCTUATION", type := .byte, accessFlags := 25, slot := 25, constantValue := 0 }, { name := "END_PUNCTUATION", type := .byte, accessFlags := 25, slot := 26, constantValue := 0 }, { name := "CONNECTOR_PUNCTUATION", type := .byte, accessFlags := 25, slot := 27, constantValue := 0 }, { name := "OTHER_PUNCTUATION", type := .byte, accessFlags := 25, slot := 28, constantValue := 0 }, { name := "MATH_SYMBOL", type := .byte, accessFlags := 25, slot := 29, constantValue := 0 }, { name := "CURRENCY_SYMBOL", type := .byte, accessFlags := 25, slot := 30, constantValue := 0 }, { name := "MODIFIER_SYMBOL", type := .byte, accessFlags := 25, slot := 31, constantValue := 0 }, { name := "OTHER_SYMBOL", type := .byte, accessFlags := 25, slot := 32, constantValue := 0 }, { name := "INITIAL_QUOTE_PUNCTUATION", type := .byte, accessFlags := 25, slot := 33, constantValue := 0 }, { name := "FINAL_QUOTE_PUNCTUATION", type := .byte, accessFlags := 25, slot := 34, constantValue := 0 }, { name := "ERROR", type := .int, accessFlags := 24, slot := 35, constantValue := 0 }, { name := "DIRECTIONALITY_UNDEFINED", type := .byte, accessFlags := 25, slot := 36, constantValue := 0 }, { name := "DIRECTIONALITY_LEFT_TO_RIGHT", type := .byte, accessFlags := 25, slot := 37, constantValue := 0 }, { name := "DIRECTIONALITY_RIGHT_TO_LEFT", type := .byte, accessFlags := 25, slot := 38, constantValue := 0 }, { name := "DIRECTIONALITY_RIGHT_TO_LEFT_ARABIC", type := .byte, accessFlags := 25, slot := 39, constantValue := 0 }, { name := "DIRECTIONALITY_EUROPEAN_NUMBER", type := .byte, accessFlags := 25, slot := 40, constantValue := 0 }, { name := "DIRECTIONALITY_EUROPEAN_NUMBER_SEPARATOR", type := .byte, accessFlags := 25, slot := 41, constantValue := 0 }, { name := "DIRECTIONALITY_EUROPEAN_NUMBER_TERMINATOR", type := .byte, accessFlags := 25, slot := 42, constantValue := 0 }, { name := "DIRECTIONALITY_ARABIC_NUMBER", type := .byte, accessFlags := 25, slot := 43, constantValue := 0 }, { name := "DIRECTIONALITY_COMMON_NUMBER_SEPARATOR", type := .byte, accessFlags := 25, slot := 44, constantValue := 0 }, { name := "DIRECTIONALITY_NONSPACING_MARK", type := .byte, accessFlags := 25, slot := 45, constantValue := 0 }, { name := "DIRECTIONALITY_BOUNDARY_NEUTRAL", type := .byte, accessFlags := 25, slot := 46, constantValue := 0 }, { name := "DIRECTIONALITY_PARAGRAPH_SEPARATOR", type := .byte, accessFlags := 25, slot := 47, constantValue := 0 }, { name := "DIRECTIONALITY_SEGMENT_SEPARATOR", type := .byte, accessFlags := 25, slot := 48, constantValue := 0 }, { name := "DIRECTIONALITY_WHITESPACE", type := .byte, accessFlags := 25, slot := 49, constantValue := 0 }, { name := "DIRECTIONALITY_OTHER_NEUTRALS", type := .byte, accessFlags := 25, slot := 50, constantValue := 0 }, { name := "DIRECTIONALITY_LEFT_TO_RIGHT_EMBEDDING", type := .byte, accessFlags := 25, slot := 51, constantValue := 0 }, { name := "DIRECTIONALITY_LEFT_TO_RIGHT_OVERRIDE", type := .byte, accessFlags := 25, slot := 52, constantValue := 0 }, { name := "DIRECTIONALITY_RIGHT_TO_LEFT_EMBEDDING", type := .byte, accessFlags := 25, slot := 53, constantValue := 0 }, { name := "DIRECTIONALITY_RIGHT_TO_LEFT_OVERRIDE", type := .byte, accessFlags := 25, slot := 54, constantValue := 0 }, { name := "DIRECTIONALITY_POP_DIRECTIONAL_FORMAT", type := .byte, accessFlags := 25, slot := 55, constantValue := 0 }, { name := "DIRECTIONALITY_LEFT_TO_RIGHT_ISOLATE", type := .byte, accessFlags := 25, slot := 56, constantValue := 0 }, { name := "DIRECTIONALITY_RIGHT_TO_LEFT_ISOLATE", type := .byte, accessFlags := 25, slot := 57, constantValue := 0 }, { name := "DIRECTIONALITY_FIRST_STRONG_ISOLATE", type := .byte, accessFlags := 25, slot := 58, constantValue := 0 }, { name := "DIRECTIONALITY_POP_DIRECTIONAL_ISOLATE", type := .byte, accessFlags := 25, slot := 59, constantValue := 0 }, { name := "MIN_HIGH_SURROGATE", type := .char, accessFlags := 25, slot := 60, constantValue := 0 }, { name := "MAX_HIGH_SURROGATE", type := .char, accessFlags := 25, slot := 61, constantValue := 0 }, { name := "MIN_LOW_SURROGATE", type := .char, accessFlags := 25, slot := 62, constantValue := 0 }, { name := "MAX_LOW_SURROGATE", type := .char, accessFlags := 25, slot := 63, constantValue := 0 }, { name := "MIN_SURROGATE", type := .char, accessFlags := 25, slot := 64, constantValue := 0 }, { name := "MAX_SURROGATE", type := .char, accessFlags := 25, slot := 65, constantValue := 0 }, { name := "MIN_SUPPLEMENTARY_CODE_POINT", type := .int, accessFlags := 25, slot := 66, constantValue := 0 }, { name := "MIN_CODE_POINT", type := .int, accessFlags := 25, slot := 67, constantValue := 0 }, { name := "MAX_CODE_POINT", type := .int, accessFlags := 25, slot := 68, constantValue := 0 }, { name := "value", type := .char, accessFlags := 18, slot := 0, constantValue := 0 }, { name := "serialVersionUID", type := .long, accessFlags := 26, slot := 69, constantValue := 0 }, { name := "SIZE", type := .int, accessFlags := 25, slot := 70, constantValue := 0 }, { name := "BYTES", type := .int, accessFlags := 25, slot := 71, constantValue := 0 }, { name := "$assertionsDisabled", type := .boolean, accessFlags := 4120, slot := 72, constantValue := 0 }]
  methods := #[k18m0]
  instanceTypes := #[.char]
  staticTypes := #[.int, .int, .char, .char, (.object "java/lang/Class"), .byte, .byte, .byte, .byte, .byte, .byte, .byte, .byte, .byte, .byte, .byte, .byte, .byte, .byte, .byte, .byte, .byte, .byte, .byte, .byte, .byte, .byte, .byte, .byte, .byte, .byte, .byte, .byte, .byte, .byte, .int, .byte, .byte, .byte, .byte, .byte, .byte, .byte, .byte, .byte, .byte, .byte, .byte, .byte, .byte, .byte, .byte, .byte, .byte, .byte, .byte, .byte, .byte, .byte, .byte, .char, .char, .char, .char, .char, .char, .int, .int, .int, .long, .int, .int, .boolean]
  resolved := Array.replicate 604 none
  statics := none }

def pool19 : Array CpInfo := pool [(1, .class_ 2), (0, u "java/lang/Math"), (1, .class_ 6), (1, u "java/lang/Object"), (0, u "<init>"), (0, u "()V"), (89, .class_ 100), (1, u "java/lang/Math$RandomNumberGeneratorHolder"), (71, u "negativeZeroFloatBits"), (0, u "J"), (2, u "negativeZeroDoubleBits"), (24, u "min"), (43, u "$assertionsDisabled"), (0, u "Z"), (88, u "(II)I"), (2, u "twoToTheDoubleScaleDown"), (0, u "D"), (4, u "twoToTheDoubleScaleUp"), (9, u "E"), (3, u "PI"), (2, u "TAU"), (2, u "DEGREES_TO_RADIANS"), (0, u "RADIANS_TO_DEGREES")] 94

def k19m0 : Method := { name := "<init>", desc := "()V", sig := { parameters := [], returnType := none }, accessFlags := 2, code := none }
def k19c1 : Code := { maxStack := 2, maxLocals := 2, code := jdk_29_method_69_code, exceptionTable := #[], attributes := #[] }
def k19m1 : Method := { name := "min", desc := "(II)I", sig := { parameters := [.int, .int], returnType := some .int }, accessFlags := 9, code := some k19c1 }
/-- java/lang/Math -/
def k19 : Class := { plain "java/lang/Math" (some 0) with
  accessFlags := 49
  interfaces := #[]
  cf := some (fileOf pool19 1 #[.nestMembers #[98]] #[{ accessFlags := 2, nameIndex := 7, descriptorIndex := 8, attributes := #[] }, { accessFlags := 9, nameIndex := 201, descriptorIndex := 335, attributes := #[] }] 49 4 #[] #[{ accessFlags := 25, nameIndex := 354, descriptorIndex := 339, attributes := #[] }, { accessFlags := 25, nameIndex := 358, descriptorIndex := 339, attributes := #[] }, { accessFlags := 25, nameIndex := 361, descriptorIndex := 339, attributes := #[] }, { accessFlags := 26, nameIndex := 364, descriptorIndex := 339, attributes := #[] }, { accessFlags := 26, nameIndex := 365, descriptorIndex := 339, attributes := #[] }, { accessFlags := 26, nameIndex := 172, descriptorIndex := 173, attributes := #[] }, { accessFlags := 26, nameIndex := 176, descriptorIndex := 173, attributes := #[] }, { accessFlags := 8, nameIndex := 344, descriptorIndex := 339, attributes := #[] }, { accessFlags := 8, nameIndex := 338, descriptorIndex := 339, attributes := #[] }, { accessFlags := 4120, nameIndex := 245, descriptorIndex := 246, attributes := #[] }])
  fields := #[{ name := "E", type := .double, accessFlags := 25, slot := 0, constantValue := 0 }, { name := "PI", type := .double, accessFlags := 25, slot := 1, constantValue := 0 }, { name := "TAU", type := .double, accessFlags := 25, slot := 2, constantValue := 0 }, { name := "DEGREES_TO_RADIANS", type := .double, accessFlags := 26, slot := 3, constantValue := 0 }, { name := "RADIANS_TO_DEGREES", type := .double, accessFlags := 26, slot := 4, constantValue := 0 }, { name := "negativeZeroFloatBits", type := .long, accessFlags := 26, slot := 5, constantValue := 0 }, { name := "negativeZeroDoubleBits", type := .long, accessFlags := 26, slot := 6, constantValue := 0 }, { name := "twoToTheDoubleScaleUp", type := .double, accessFlags := 8, slot := 7, constantValue := 0 }, { name := "twoToTheDoubleScaleDown", type := .double, accessFlags := 8, slot := 8, constantValue := 0 }, { name := "$assertionsDisabled", type := .boolean, accessFlags := 4120, slot := 9, constantValue := 0 }]
  methods := #[k19m0, k19m1]
  instanceTypes := #[]
  staticTypes := #[.double, .double, .double, .double, .double, .long, .long, .double, .double, .boolean]
  resolved := Array.replicate 460 none
  statics := none }

def pool20 : Array CpInfo := pool [(2, .class_ 4), (1, u "java/lang/Object"), (0, u "<init>"), (0, u "()V"), (1, .class_ 10), (1, u "java/lang/System"), (0, u "allowSecurityManager"), (0, u "I"), (16, u "cons"), (0, u "Ljava/io/Console;"), (77, .class_ 110), (1, u "java/lang/System$CallersHolder"), (43, u "initialErrStream"), (0, u "Ljava/io/PrintStream;"), (19, u "security"), (0, u "Ljava/lang/SecurityManager;"), (31, .class_ 209), (0, u "java/lang/System$1"), (7, u "props"), (0, u "Ljava/util/Properties;"), (2, u "lineSeparator"), (0, u "Ljava/lang/String;"), (96, .class_ 321), (1, u "java/lang/System$LoggerFinder"), (5, .class_ 328), (0, u "java/lang/System$Logger"), (67, u "err"), (2, u "out"), (91, u "notSupportedJnuEncoding"), (15, u "in"), (17, u "initialIn"), (0, u "Ljava/io/InputStream;"), (35, u "bootLayer"), (0, u "Ljava/lang/ModuleLayer;"), (99, .class_ 664), (0, u "java/lang/System$2"), (9, u "NEVER"), (2, u "MAYBE"), (49, u "arraycopy"), (0, u "(Ljava/lang/Object;ILjava/lang/Object;II)V"), (72, .class_ 802), (0, u "java/lang/System$Logger$Level")] 31

def k20m0 : Method := { name := "<init>", desc := "()V", sig := { parameters := [], returnType := none }, accessFlags := 2, code := none }
def k20m1 : Method := { name := "arraycopy", desc := "(Ljava/lang/Object;ILjava/lang/Object;II)V", sig := { parameters := [(.object "java/lang/Object"), .int, (.object "java/lang/Object"), .int, .int], returnType := none }, accessFlags := 265, code := none }
/-- java/lang/System -/
def k20 : Class := { plain "java/lang/System" (some 0) with
  accessFlags := 49
  interfaces := #[]
  cf := some (fileOf pool20 8 #[.nestMembers #[319, 327, 801, 108, 663, 208]] #[{ accessFlags := 2, nameIndex := 5, descriptorIndex := 6, attributes := #[] }, { accessFlags := 265, nameIndex := 727, descriptorIndex := 728, attributes := #[] }] 49 2 #[] #[{ accessFlags := 25, nameIndex := 507, descriptorIndex := 526, attributes := #[] }, { accessFlags := 25, nameIndex := 399, descriptorIndex := 155, attributes := #[] }, { accessFlags := 25, nameIndex := 396, descriptorIndex := 155, attributes := #[] }, { accessFlags := 10, nameIndex := 525, descriptorIndex := 526, attributes := #[] }, { accessFlags := 26, nameIndex := 674, descriptorIndex := 12, attributes := #[] }, { accessFlags := 26, nameIndex := 677, descriptorIndex := 12, attributes := #[] }, { accessFlags := 10, nameIndex := 11, descriptorIndex := 12, attributes := #[] }, { accessFlags := 74, nameIndex := 175, descriptorIndex := 176, attributes := #[] }, { accessFlags := 10, nameIndex := 491, descriptorIndex := 222, attributes := #[] }, { accessFlags := 74, nameIndex := 29, descriptorIndex := 30, attributes := #[] }, { accessFlags := 74, nameIndex := 154, descriptorIndex := 155, attributes := #[] }, { accessFlags := 10, nameIndex := 217, descriptorIndex := 218, attributes := #[] }, { accessFlags := 10, nameIndex := 221, descriptorIndex := 222, attributes := #[] }, { accessFlags := 8, nameIndex := 562, descriptorIndex := 563, attributes := #[] }])
  fields := #[{ name := "in", type := (.object "java/io/InputStream"), accessFlags := 25, slot := 0, constantValue := 0 }, { name := "out", type := (.object "java/io/PrintStream"), accessFlags := 25, slot := 1, constantValue := 0 }, { name := "err", type := (.object "java/io/PrintStream"), accessFlags := 25, slot := 2, constantValue := 0 }, { name := "initialIn", type := (.object "java/io/InputStream"), accessFlags := 10, slot := 3, constantValue := 0 }, { name := "NEVER", type := .int, accessFlags := 26, slot := 4, constantValue := 0 }, { name := "MAYBE", type := .int, accessFlags := 26, slot := 5, constantValue := 0 }, { name := "allowSecurityManager", type := .int, accessFlags := 10, slot := 6, constantValue := 0 }, { name := "security", type := (.object "java/lang/SecurityManager"), accessFlags := 74, slot := 7, constantValue := 0 }, { name := "notSupportedJnuEncoding", type := (.object "java/lang/String"), accessFlags := 10, slot := 8, constantValue := 0 }, { name := "cons", type := (.object "java/io/Console"), accessFlags := 74, slot := 9, constantValue := 0 }, { name := "initialErrStream", type := (.object "java/io/PrintStream"), accessFlags := 74, slot := 10, constantValue := 0 }, { name := "props", type := (.object "java/util/Properties"), accessFlags := 10, slot := 11, constantValue := 0 }, { name := "lineSeparator", type := (.object "java/lang/String"), accessFlags := 10, slot := 12, constantValue := 0 }, { name := "bootLayer", type := (.object "java/lang/ModuleLayer"), accessFlags := 8, slot := 13, constantValue := 0 }]
  methods := #[k20m0, k20m1]
  instanceTypes := #[]
  staticTypes := #[(.object "java/io/InputStream"), (.object "java/io/PrintStream"), (.object "java/io/PrintStream"), (.object "java/io/InputStream"), .int, .int, .int, (.object "java/lang/SecurityManager"), (.object "java/lang/String"), (.object "java/io/Console"), (.object "java/io/PrintStream"), (.object "java/util/Properties"), (.object "java/lang/String"), (.object "java/lang/ModuleLayer")]
  resolved := Array.replicate 834 none
  statics := none }

def pool21 : Array CpInfo := pool [(1, .class_ 2), (0, u "java/lang/String"), (1, .class_ 6), (1, u "java/lang/Object"), (0, u "<init>"), (0, u "()V"), (0, .methodref 1 10), (0, .nameAndType 11 12), (0, u "checkIndex"), (0, u "(II)V"), (1, .class_ 16), (1, u "java/lang/StringLatin1"), (36, u "([BI)C"), (67, u "$assertionsDisabled"), (0, u "Z"), (98, .class_ 223), (1, u "java/lang/StringLatin1$LinesSpliterator"), (28, u "charAt"), (137, .class_ 391), (0, u "java/lang/StringLatin1$CharsSpliterator")] 3

def k21m0 : Method := { name := "<init>", desc := "()V", sig := { parameters := [], returnType := none }, accessFlags := 0, code := none }
def k21c1 : Code := { maxStack := 2, maxLocals := 2, code := jdk_43_method_2_code, exceptionTable := #[], attributes := #[] }
def k21m1 : Method := { name := "charAt", desc := "([BI)C", sig := { parameters := [(.array .byte), .int], returnType := some .char }, accessFlags := 9, code := some k21c1 }
/-- java/lang/StringLatin1 -/
def k21 : Class := { plain "java/lang/StringLatin1" (some 0) with
  accessFlags := 48
  interfaces := #[]
  cf := some (fileOf pool21 14 #[.nestMembers #[390, 221]] #[{ accessFlags := 0, nameIndex := 7, descriptorIndex := 8, attributes := #[] }, { accessFlags := 9, nameIndex := 252, descriptorIndex := 53, attributes := #[] }] 48 4 #[] #[{ accessFlags := 4120, nameIndex := 121, descriptorIndex := 122, attributes := #[] }])
  fields := #[{ name := "$assertionsDisabled", type := .boolean, accessFlags := 4120, slot := 0, constantValue := 0 }]
  methods := #[k21m0, k21m1]
  instanceTypes := #[]
  staticTypes := #[.boolean]
  resolved := Array.replicate 395 none
  statics := none }

def pool22 : Array CpInfo := pool [(9, u "<init>"), (6, .class_ 18), (1, u "java/lang/Object"), (0, u "()V"), (1, .class_ 23), (1, u "jdk/internal/util/ArraysSupport"), (0, u "LOG2_ARRAY_LONG_INDEX_SCALE"), (0, u "I"), (2, u "U"), (0, u "Ljdk/internal/misc/Unsafe;"), (8, u "BIG_ENDIAN"), (0, u "Z"), (8, u "LOG2_BYTE_BIT_SIZE"), (4, u "LOG2_ARRAY_INT_INDEX_SCALE"), (54, u "JLA"), (0, u "Ljdk/internal/access/JavaLangAccess;"), (11, u "LOG2_ARRAY_BOOLEAN_INDEX_SCALE"), (9, u "LOG2_ARRAY_BYTE_INDEX_SCALE"), (5, u "LOG2_ARRAY_CHAR_INDEX_SCALE"), (5, u "LOG2_ARRAY_SHORT_INDEX_SCALE"), (18, u "LOG2_ARRAY_FLOAT_INDEX_SCALE"), (24, u "LOG2_ARRAY_DOUBLE_INDEX_SCALE"), (89, u "T_BOOLEAN"), (2, u "T_CHAR"), (1, u "T_FLOAT"), (1, u "T_DOUBLE"), (1, u "T_BYTE"), (1, u "T_SHORT"), (1, u "T_INT"), (1, u "T_LONG"), (1, u "SOFT_MAX_ARRAY_LENGTH")] 83

def k22m0 : Method := { name := "<init>", desc := "()V", sig := { parameters := [], returnType := none }, accessFlags := 2, code := none }
/-- jdk/internal/util/ArraysSupport -/
def k22 : Class := { plain "jdk/internal/util/ArraysSupport" (some 0) with
  accessFlags := 33
  interfaces := #[]
  cf := some (fileOf pool22 21 #[] #[{ accessFlags := 2, nameIndex := 9, descriptorIndex := 19, attributes := #[] }] 33 16 #[] #[{ accessFlags := 24, nameIndex := 28, descriptorIndex := 29, attributes := #[] }, { accessFlags := 26, nameIndex := 38, descriptorIndex := 39, attributes := #[] }, { accessFlags := 25, nameIndex := 121, descriptorIndex := 25, attributes := #[] }, { accessFlags := 25, nameIndex := 131, descriptorIndex := 25, attributes := #[] }, { accessFlags := 25, nameIndex := 137, descriptorIndex := 25, attributes := #[] }, { accessFlags := 25, nameIndex := 143, descriptorIndex := 25, attributes := #[] }, { accessFlags := 25, nameIndex := 53, descriptorIndex := 25, attributes := #[] }, { accessFlags := 25, nameIndex := 24, descriptorIndex := 25, attributes := #[] }, { accessFlags := 25, nameIndex := 162, descriptorIndex := 25, attributes := #[] }, { accessFlags := 25, nameIndex := 187, descriptorIndex := 25, attributes := #[] }, { accessFlags := 26, nameIndex := 48, descriptorIndex := 25, attributes := #[] }, { accessFlags := 25, nameIndex := 277, descriptorIndex := 25, attributes := #[] }, { accessFlags := 25, nameIndex := 280, descriptorIndex := 25, attributes := #[] }, { accessFlags := 25, nameIndex := 282, descriptorIndex := 25, attributes := #[] }, { accessFlags := 25, nameIndex := 284, descriptorIndex := 25, attributes := #[] }, { accessFlags := 25, nameIndex := 286, descriptorIndex := 25, attributes := #[] }, { accessFlags := 25, nameIndex := 288, descriptorIndex := 25, attributes := #[] }, { accessFlags := 25, nameIndex := 290, descriptorIndex := 25, attributes := #[] }, { accessFlags := 25, nameIndex := 292, descriptorIndex := 25, attributes := #[] }, { accessFlags := 26, nameIndex := 108, descriptorIndex := 109, attributes := #[] }, { accessFlags := 25, nameIndex := 294, descriptorIndex := 25, attributes := #[] }])
  fields := #[{ name := "U", type := (.object "jdk/internal/misc/Unsafe"), accessFlags := 24, slot := 0, constantValue := 0 }, { name := "BIG_ENDIAN", type := .boolean, accessFlags := 26, slot := 1, constantValue := 0 }, { name := "LOG2_ARRAY_BOOLEAN_INDEX_SCALE", type := .int, accessFlags := 25, slot := 2, constantValue := 0 }, { name := "LOG2_ARRAY_BYTE_INDEX_SCALE", type := .int, accessFlags := 25, slot := 3, constantValue := 0 }, { name := "LOG2_ARRAY_CHAR_INDEX_SCALE", type := .int, accessFlags := 25, slot := 4, constantValue := 0 }, { name := "LOG2_ARRAY_SHORT_INDEX_SCALE", type := .int, accessFlags := 25, slot := 5, constantValue := 0 }, { name := "LOG2_ARRAY_INT_INDEX_SCALE", type := .int, accessFlags := 25, slot := 6, constantValue := 0 }, { name := "LOG2_ARRAY_LONG_INDEX_SCALE", type := .int, accessFlags := 25, slot := 7, constantValue := 0 }, { name := "LOG2_ARRAY_FLOAT_INDEX_SCALE", type := .int, accessFlags := 25, slot := 8, constantValue := 0 }, { name := "LOG2_ARRAY_DOUBLE_INDEX_SCALE", type := .int, accessFlags := 25, slot := 9, constantValue := 0 }, { name := "LOG2_BYTE_BIT_SIZE", type := .int, accessFlags := 26, slot := 10, constantValue := 0 }, { name := "T_BOOLEAN", type := .int, accessFlags := 25, slot := 11, constantValue := 0 }, { name := "T_CHAR", type := .int, accessFlags := 25, slot := 12, constantValue := 0 }, { name := "T_FLOAT", type := .int, accessFlags := 25, slot := 13, constantValue := 0 }, { name := "T_DOUBLE", type := .int, accessFlags := 25, slot := 14, constantValue := 0 }, { name := "T_BYTE", type := .int, accessFlags := 25, slot := 15, constantValue := 0 }, { name := "T_SHORT", type := .int, accessFlags := 25, slot := 16, constantValue := 0 }, { name := "T_INT", type := .int, accessFlags := 25, slot := 17, constantValue := 0 }, { name := "T_LONG", type := .int, accessFlags := 25, slot := 18, constantValue := 0 }, { name := "JLA", type := (.object "jdk/internal/access/JavaLangAccess"), accessFlags := 26, slot := 19, constantValue := 0 }, { name := "SOFT_MAX_ARRAY_LENGTH", type := .int, accessFlags := 25, slot := 20, constantValue := 0 }]
  methods := #[k22m0]
  instanceTypes := #[]
  staticTypes := #[(.object "jdk/internal/misc/Unsafe"), .boolean, .int, .int, .int, .int, .int, .int, .int, .int, .int, .int, .int, .int, .int, .int, .int, .int, .int, (.object "jdk/internal/access/JavaLangAccess"), .int]
  resolved := Array.replicate 378 none
  statics := none }

/-- the primitive byte -/
def k23 : Class := { plain "byte" none with kind := .primitive 'B', accessFlags := 0x411 }
/-- [B -/
def k24 : Class := { plain "[B" (some 0) with kind := .array 23 .byte, interfaces := #[15, 2], accessFlags := 1041 }

/-- the primitive int -/
def k25 : Class := { plain "int" none with kind := .primitive 'I', accessFlags := 0x411 }
/-- [I -/
def k26 : Class := { plain "[I" (some 0) with kind := .array 25 .int, interfaces := #[15, 2], accessFlags := 1041 }

/-- [Ljava/lang/Object; -/
def k27 : Class := { plain "[Ljava/lang/Object;" (some 0) with kind := .array 0 (.object "java/lang/Object"), interfaces := #[15, 2], accessFlags := 1041 }

def heap : Heap := #[{ cls := 7, slots := #[.long 0, .int 1, .null, .int 0, .null, .int 0, .int 0], vm := .statics 7 },
  { cls := 17, slots := #[.null, .null, .null], vm := .statics 17 }]
def classes : Array Class := #[k0, k1, k2, k3, k4, k5, k6, k7, k8, k9, k10, k11, k12, k13, k14, k15, k16, k17, k18, k19, k20, k21, k22, k23, k24, k25, k26, k27]
def interned : List (Array UInt16 × Addr) := []
def slotsUsed : Nat := 10
def theMethod : MethodId := ⟨1, 2⟩
def args0 : Array Value := #[.int 5, .int 3, .int 7]
def aboutOver (below : List Frame) : State where
  vm := { classes := classes, interned := interned.toArray }
  heap := heap
  slotsUsed := slotsUsed
  threads := #[{ frames := .invoking theMethod args0 :: below }]
def below0 : List Frame := [.native { method := ⟨0, 0⟩, args := #[] }]
def about1 : State := aboutOver below0
def p0 : Program := .bare "" "" ""
def e0 : Env := launch0.env 0 0 0
theorem w_frames : about1.frames = Frame.invoking theMethod args0 :: below0 := rfl
set_option maxRecDepth 65536 in
theorem w_args : argsFit about1.vm theMethod args0 = true := by decide +kernel
set_option maxRecDepth 65536 in
theorem w_heap : heapFits about1 = true := by decide +kernel
set_option maxRecDepth 65536 in
theorem w_runnable : about1.curStatus? = some .runnable := by decide +kernel
set_option maxRecDepth 65536 in
theorem w_alone : about1.alone = true := by decide +kernel
set_option maxRecDepth 65536 in
theorem w_named : about1.methodNamed? x = some theMethod := by decide +kernel
set_option maxRecDepth 65536 in
theorem w_hears : about1.hears theMethod below0 = true := by decide +kernel
set_option maxRecDepth 65536 in
theorem w_ripe : about1.ripe theMethod args0 below0 = true := by decide +kernel
theorem w_running : about1.status = .running := rfl
set_option maxRecDepth 65536 in
theorem w_room : about1.hasRoom e0.platform room_1 = true :=
  launch0.hasRoom_least _ room_1 (by decide +kernel) (by decide +kernel) (by decide +kernel) (by decide +kernel) (by decide +kernel) (by decide +kernel)
theorem allAtoms_all (ts : List Jvm.Cond) (a : Array Jvm.Value) (st : Jvm.State) : (allAtoms ts).before a st = ts.all (fun c => c.before a st) := by
  induction ts with
  | nil => rfl
  | cons c t ih =>
    show (Jvm.Cond.and c (allAtoms t)).before a st = _
    rw [Jvm.Cond.before_and, ih, List.all_cons]
def words1 : List Jvm.Cond := Jvm.Cond.code x code maxLocals ret :: tables_1
/-- a 'code' word, met by the world's own term for the bytes: nothing is compared byte by byte -/
theorem code_word {y : MethodName} {bytes : ByteArray} {mx : Nat} {rt : Option FieldType} {a : Array Value} {s : State} {m : MethodId} {meth : Method} {c : Code} (h1 : s.methodNamed? y = some m) (h2 : s.vm.method? m = some meth) (h3 : meth.code = some c) (h4 : c.code = bytes)
    (h5 : (c.maxLocals == mx && c.exceptionTable.isEmpty && decide (c.maxStack ≤ mostOperands) && decide (meth.sig.returnType = rt) && !meth.locks && decide (parseMethodDescriptor y.desc = some meth.sig)) = true) : (Jvm.Cond.code y bytes mx rt).before a s = true := by
  simp only [Bool.and_eq_true, beq_iff_eq, Bool.not_eq_true', decide_eq_true_eq] at h5
  obtain ⟨⟨⟨⟨⟨g1, g2⟩, g3⟩, g4⟩, g5⟩, g6⟩ := h5
  simp [Cond.before, Cond.holds, Cond.value, h1, h2, h3, h4, g1, g2, g3, g4, g5, g6]
def isCode : Jvm.Cond → Bool
  | .code _ _ _ _ => true
  | _ => false
theorem all_split {L : List Jvm.Cond} {P : Jvm.Cond → Bool} (h1 : L.all (fun c => isCode c || P c) = true) (h2 : ∀ c ∈ L.filter isCode, P c = true) : L.all P = true := by
  refine List.all_eq_true.mpr fun c hc => ?_
  have h := List.all_eq_true.mp h1 c hc
  rcases Bool.eq_false_or_eq_true (isCode c) with hi | hi
  · exact h2 c (List.mem_filter.mpr ⟨hc, hi⟩)
  · simpa [hi] using h
set_option maxRecDepth 65536 in
theorem w_c0 : (Jvm.Cond.code x code maxLocals ret).before args0 about1 = true := code_word (m := ⟨1, 2⟩) (meth := k1m2) (c := k1c2) (by decide +kernel) rfl rfl rfl (by decide +kernel)
set_option maxRecDepth 65536 in
theorem w_c1 : (Jvm.Cond.code ({ cls := "com/example/sealwright/sealwright/io/XmlWriter", name := "<init>", desc := "()V" } : Jvm.MethodName) prog_85_method_1_code (1 : Nat) (Option.none : Option Jvm.ClassFile.FieldType)).before args0 about1 = true := code_word (m := ⟨8, 0⟩) (meth := k8m0) (c := k8c0) (by decide +kernel) rfl rfl rfl (by decide +kernel)
set_option maxRecDepth 65536 in
theorem w_c2 : (Jvm.Cond.code ({ cls := "java/lang/Object", name := "<init>", desc := "()V" } : Jvm.MethodName) object_method_1_code (1 : Nat) (Option.none : Option Jvm.ClassFile.FieldType)).before args0 about1 = true := code_word (m := ⟨0, 0⟩) (meth := k0m0) (c := k0c0) (by decide +kernel) rfl rfl rfl (by decide +kernel)
set_option maxRecDepth 65536 in
theorem w_c3 : (Jvm.Cond.code ({ cls := "java/util/ArrayDeque", name := "<init>", desc := "()V" } : Jvm.MethodName) jdk_21_method_3_code (1 : Nat) (Option.none : Option Jvm.ClassFile.FieldType)).before args0 about1 = true := code_word (m := ⟨16, 0⟩) (meth := k16m0) (c := k16c0) (by decide +kernel) rfl rfl rfl (by decide +kernel)
set_option maxRecDepth 65536 in
theorem w_c4 : (Jvm.Cond.code ({ cls := "java/util/AbstractCollection", name := "<init>", desc := "()V" } : Jvm.MethodName) jdk_22_method_1_code (1 : Nat) (Option.none : Option Jvm.ClassFile.FieldType)).before args0 about1 = true := code_word (m := ⟨11, 0⟩) (meth := k11m0) (c := k11c0) (by decide +kernel) rfl rfl rfl (by decide +kernel)
set_option maxRecDepth 65536 in
theorem w_c5 : (Jvm.Cond.code ({ cls := "com/example/sealwright/sealwright/io/XmlWriter", name := "write", desc := "(Ljava/lang/String;)V" } : Jvm.MethodName) prog_85_method_24_code (4 : Nat) (Option.none : Option Jvm.ClassFile.FieldType)).before args0 about1 = true := code_word (m := ⟨8, 8⟩) (meth := k8m8) (c := k8c8) (by decide +kernel) rfl rfl rfl (by decide +kernel)
set_option maxRecDepth 65536 in
theorem w_c6 : (Jvm.Cond.code ({ cls := "java/lang/String", name := "length", desc := "()I" } : Jvm.MethodName) jdk_42_method_54_code (1 : Nat) (Option.some Jvm.ClassFile.FieldType.int)).before args0 about1 = true := code_word (m := ⟨7, 1⟩) (meth := k7m1) (c := k7c1) (by decide +kernel) rfl rfl rfl (by decide +kernel)
set_option maxRecDepth 65536 in
theorem w_c7 : (Jvm.Cond.code ({ cls := "java/lang/String", name := "coder", desc := "()B" } : Jvm.MethodName) jdk_42_method_152_code (1 : Nat) (Option.some Jvm.ClassFile.FieldType.byte)).before args0 about1 = true := code_word (m := ⟨7, 4⟩) (meth := k7m4) (c := k7c4) (by decide +kernel) rfl rfl rfl (by decide +kernel)
set_option maxRecDepth 65536 in
theorem w_c8 : (Jvm.Cond.code ({ cls := "java/lang/String", name := "codePointAt", desc := "(I)I" } : Jvm.MethodName) jdk_42_method_57_code (3 : Nat) (Option.some Jvm.ClassFile.FieldType.int)).before args0 about1 = true := code_word (m := ⟨7, 3⟩) (meth := k7m3) (c := k7c3) (by decide +kernel) rfl rfl rfl (by decide +kernel)
set_option maxRecDepth 65536 in
theorem w_c9 : (Jvm.Cond.code ({ cls := "java/lang/String", name := "isLatin1", desc := "()Z" } : Jvm.MethodName) jdk_42_method_154_code (1 : Nat) (Option.some Jvm.ClassFile.FieldType.boolean)).before args0 about1 = true := code_word (m := ⟨7, 5⟩) (meth := k7m5) (c := k7c5) (by decide +kernel) rfl rfl rfl (by decide +kernel)
set_option maxRecDepth 65536 in
theorem w_c10 : (Jvm.Cond.code ({ cls := "java/lang/String", name := "checkIndex", desc := "(II)V" } : Jvm.MethodName) jdk_42_method_155_code (2 : Nat) (Option.none : Option Jvm.ClassFile.FieldType)).before args0 about1 = true := code_word (m := ⟨7, 6⟩) (meth := k7m6) (c := k7c6) (by decide +kernel) rfl rfl rfl (by decide +kernel)
set_option maxRecDepth 65536 in
theorem w_c11 : (Jvm.Cond.code ({ cls := "jdk/internal/util/Preconditions", name := "checkIndex", desc := "(IILjava/util/function/BiFunction;)I" } : Jvm.MethodName) jdk_41_method_11_code (3 : Nat) (Option.some Jvm.ClassFile.FieldType.int)).before args0 about1 = true := code_word (m := ⟨17, 1⟩) (meth := k17m1) (c := k17c1) (by decide +kernel) rfl rfl rfl (by decide +kernel)
set_option maxRecDepth 65536 in
theorem w_c12 : (Jvm.Cond.code ({ cls := "java/lang/Character", name := "charCount", desc := "(I)I" } : Jvm.MethodName) jdk_89_method_18_code (1 : Nat) (Option.some Jvm.ClassFile.FieldType.int)).before args0 about1 = true := code_word (m := ⟨18, 0⟩) (meth := k18m0) (c := k18c0) (by decide +kernel) rfl rfl rfl (by decide +kernel)
set_option maxRecDepth 65536 in
theorem w_c13 : (Jvm.Cond.code ({ cls := "com/example/sealwright/sealwright/io/XmlWriter", name := "encode", desc := "(I)V" } : Jvm.MethodName) prog_85_method_25_code (2 : Nat) (Option.none : Option Jvm.ClassFile.FieldType)).before args0 about1 = true := code_word (m := ⟨8, 9⟩) (meth := k8m9) (c := k8c9) (by decide +kernel) rfl rfl rfl (by decide +kernel)
set_option maxRecDepth 65536 in
theorem w_c14 : (Jvm.Cond.code ({ cls := "com/example/sealwright/sealwright/io/XmlWriter", name := "room", desc := "(I)V" } : Jvm.MethodName) prog_85_method_26_code (6 : Nat) (Option.none : Option Jvm.ClassFile.FieldType)).before args0 about1 = true := code_word (m := ⟨8, 10⟩) (meth := k8m10) (c := k8c10) (by decide +kernel) rfl rfl rfl (by decide +kernel)
set_option maxRecDepth 65536 in
theorem w_c15 : (Jvm.Cond.code ({ cls := "com/example/sealwright/sealwright/io/XmlWriter", name := "read", desc := "([BII)I" } : Jvm.MethodName) prog_85_method_11_code (5 : Nat) (Option.some Jvm.ClassFile.FieldType.int)).before args0 about1 = true := code_word (m := ⟨8, 3⟩) (meth := k8m3) (c := k8c3) (by decide +kernel) rfl rfl rfl (by decide +kernel)
set_option maxRecDepth 65536 in
theorem w_c16 : (Jvm.Cond.code ({ cls := "java/lang/Math", name := "min", desc := "(II)I" } : Jvm.MethodName) jdk_29_method_69_code (2 : Nat) (Option.some Jvm.ClassFile.FieldType.int)).before args0 about1 = true := code_word (m := ⟨19, 1⟩) (meth := k19m1) (c := k19c1) (by decide +kernel) rfl rfl rfl (by decide +kernel)
set_option maxRecDepth 65536 in
theorem w_c17 : (Jvm.Cond.code ({ cls := "com/example/sealwright/sealwright/io/XmlWriterReadPinLaw", name := "slot", desc := "([BIIIILjava/lang/String;)Z" } : Jvm.MethodName) method_2_code (7 : Nat) (Option.some Jvm.ClassFile.FieldType.boolean)).before args0 about1 = true := code_word (m := ⟨1, 1⟩) (meth := k1m1) (c := k1c1) (by decide +kernel) rfl rfl rfl (by decide +kernel)
set_option maxRecDepth 65536 in
theorem w_c18 : (Jvm.Cond.code ({ cls := "java/lang/String", name := "charAt", desc := "(I)C" } : Jvm.MethodName) jdk_42_method_56_code (2 : Nat) (Option.some Jvm.ClassFile.FieldType.char)).before args0 about1 = true := code_word (m := ⟨7, 2⟩) (meth := k7m2) (c := k7c2) (by decide +kernel) rfl rfl rfl (by decide +kernel)
set_option maxRecDepth 65536 in
theorem w_c19 : (Jvm.Cond.code ({ cls := "java/lang/StringLatin1", name := "charAt", desc := "([BI)C" } : Jvm.MethodName) jdk_43_method_2_code (2 : Nat) (Option.some Jvm.ClassFile.FieldType.char)).before args0 about1 = true := code_word (m := ⟨21, 1⟩) (meth := k21m1) (c := k21c1) (by decide +kernel) rfl rfl rfl (by decide +kernel)
set_option maxRecDepth 65536 in
theorem w_c20 : (Jvm.Cond.code ({ cls := "com/example/sealwright/sealwright/io/XmlWriter", name := "element", desc := "(Ljava/lang/String;Ljava/lang/CharSequence;)Lcom/example/sealwright/sealwright/io/XmlWriter;" } : Jvm.MethodName) prog_85_method_5_code (3 : Nat) (Option.some (Jvm.ClassFile.FieldType.object "com/example/sealwright/sealwright/io/XmlWriter"))).before args0 about1 = true := code_word (m := ⟨8, 2⟩) (meth := k8m2) (c := k8c2) (by decide +kernel) rfl rfl rfl (by decide +kernel)
set_option maxRecDepth 65536 in
theorem w_c21 : (Jvm.Cond.code ({ cls := "com/example/sealwright/sealwright/io/XmlWriter", name := "indent", desc := "()V" } : Jvm.MethodName) prog_85_method_12_code (2 : Nat) (Option.none : Option Jvm.ClassFile.FieldType)).before args0 about1 = true := code_word (m := ⟨8, 4⟩) (meth := k8m4) (c := k8c4) (by decide +kernel) rfl rfl rfl (by decide +kernel)
set_option maxRecDepth 65536 in
theorem w_c22 : (Jvm.Cond.code ({ cls := "java/util/ArrayDeque", name := "size", desc := "()I" } : Jvm.MethodName) jdk_21_method_37_code (1 : Nat) (Option.some Jvm.ClassFile.FieldType.int)).before args0 about1 = true := code_word (m := ⟨16, 2⟩) (meth := k16m2) (c := k16c2) (by decide +kernel) rfl rfl rfl (by decide +kernel)
set_option maxRecDepth 65536 in
theorem w_c23 : (Jvm.Cond.code ({ cls := "java/util/ArrayDeque", name := "sub", desc := "(III)I" } : Jvm.MethodName) jdk_21_method_9_code (3 : Nat) (Option.some Jvm.ClassFile.FieldType.int)).before args0 about1 = true := code_word (m := ⟨16, 1⟩) (meth := k16m1) (c := k16c1) (by decide +kernel) rfl rfl rfl (by decide +kernel)
set_option maxRecDepth 65536 in
theorem w_c24 : (Jvm.Cond.code ({ cls := "com/example/sealwright/sealwright/io/XmlWriter", name := "startTag", desc := "(Ljava/lang/String;)V" } : Jvm.MethodName) prog_85_method_13_code (2 : Nat) (Option.none : Option Jvm.ClassFile.FieldType)).before args0 about1 = true := code_word (m := ⟨8, 5⟩) (meth := k8m5) (c := k8c5) (by decide +kernel) rfl rfl rfl (by decide +kernel)
set_option maxRecDepth 65536 in
theorem w_c25 : (Jvm.Cond.code ({ cls := "com/example/sealwright/sealwright/io/XmlWriter", name := "escape", desc := "(Ljava/lang/CharSequence;Ljava/lang/String;Z)V" } : Jvm.MethodName) prog_85_method_22_code (6 : Nat) (Option.none : Option Jvm.ClassFile.FieldType)).before args0 about1 = true := code_word (m := ⟨8, 7⟩) (meth := k8m7) (c := k8c7) (by decide +kernel) rfl rfl rfl (by decide +kernel)
set_option maxRecDepth 65536 in
theorem w_c26 : (Jvm.Cond.code ({ cls := "com/example/sealwright/sealwright/io/XmlWriter", name := "requireXmlText", desc := "(Ljava/lang/CharSequence;Ljava/lang/String;)V" } : Jvm.MethodName) prog_85_method_2_code (5 : Nat) (Option.none : Option Jvm.ClassFile.FieldType)).before args0 about1 = true := code_word (m := ⟨8, 1⟩) (meth := k8m1) (c := k8c1) (by decide +kernel) rfl rfl rfl (by decide +kernel)
set_option maxRecDepth 65536 in
theorem w_c27 : (Jvm.Cond.code ({ cls := "com/example/sealwright/sealwright/io/XmlWriter", name := "endTag", desc := "(Ljava/lang/String;)V" } : Jvm.MethodName) prog_85_method_14_code (2 : Nat) (Option.none : Option Jvm.ClassFile.FieldType)).before args0 about1 = true := code_word (m := ⟨8, 6⟩) (meth := k8m6) (c := k8c6) (by decide +kernel) rfl rfl rfl (by decide +kernel)
def codes1 : List Jvm.Cond := [Jvm.Cond.code x code maxLocals ret, Jvm.Cond.code ({ cls := "com/example/sealwright/sealwright/io/XmlWriter", name := "<init>", desc := "()V" } : Jvm.MethodName) prog_85_method_1_code (1 : Nat) (Option.none : Option Jvm.ClassFile.FieldType), Jvm.Cond.code ({ cls := "java/lang/Object", name := "<init>", desc := "()V" } : Jvm.MethodName) object_method_1_code (1 : Nat) (Option.none : Option Jvm.ClassFile.FieldType), Jvm.Cond.code ({ cls := "java/util/ArrayDeque", name := "<init>", desc := "()V" } : Jvm.MethodName) jdk_21_method_3_code (1 : Nat) (Option.none : Option Jvm.ClassFile.FieldType), Jvm.Cond.code ({ cls := "java/util/AbstractCollection", name := "<init>", desc := "()V" } : Jvm.MethodName) jdk_22_method_1_code (1 : Nat) (Option.none : Option Jvm.ClassFile.FieldType), Jvm.Cond.code ({ cls := "com/example/sealwright/sealwright/io/XmlWriter", name := "write", desc := "(Ljava/lang/String;)V" } : Jvm.MethodName) prog_85_method_24_code (4 : Nat) (Option.none : Option Jvm.ClassFile.FieldType), Jvm.Cond.code ({ cls := "java/lang/String", name := "length", desc := "()I" } : Jvm.MethodName) jdk_42_method_54_code (1 : Nat) (Option.some Jvm.ClassFile.FieldType.int), Jvm.Cond.code ({ cls := "java/lang/String", name := "coder", desc := "()B" } : Jvm.MethodName) jdk_42_method_152_code (1 : Nat) (Option.some Jvm.ClassFile.FieldType.byte), Jvm.Cond.code ({ cls := "java/lang/String", name := "codePointAt", desc := "(I)I" } : Jvm.MethodName) jdk_42_method_57_code (3 : Nat) (Option.some Jvm.ClassFile.FieldType.int), Jvm.Cond.code ({ cls := "java/lang/String", name := "isLatin1", desc := "()Z" } : Jvm.MethodName) jdk_42_method_154_code (1 : Nat) (Option.some Jvm.ClassFile.FieldType.boolean), Jvm.Cond.code ({ cls := "java/lang/String", name := "checkIndex", desc := "(II)V" } : Jvm.MethodName) jdk_42_method_155_code (2 : Nat) (Option.none : Option Jvm.ClassFile.FieldType), Jvm.Cond.code ({ cls := "jdk/internal/util/Preconditions", name := "checkIndex", desc := "(IILjava/util/function/BiFunction;)I" } : Jvm.MethodName) jdk_41_method_11_code (3 : Nat) (Option.some Jvm.ClassFile.FieldType.int), Jvm.Cond.code ({ cls := "java/lang/Character", name := "charCount", desc := "(I)I" } : Jvm.MethodName) jdk_89_method_18_code (1 : Nat) (Option.some Jvm.ClassFile.FieldType.int), Jvm.Cond.code ({ cls := "com/example/sealwright/sealwright/io/XmlWriter", name := "encode", desc := "(I)V" } : Jvm.MethodName) prog_85_method_25_code (2 : Nat) (Option.none : Option Jvm.ClassFile.FieldType), Jvm.Cond.code ({ cls := "com/example/sealwright/sealwright/io/XmlWriter", name := "room", desc := "(I)V" } : Jvm.MethodName) prog_85_method_26_code (6 : Nat) (Option.none : Option Jvm.ClassFile.FieldType), Jvm.Cond.code ({ cls := "com/example/sealwright/sealwright/io/XmlWriter", name := "read", desc := "([BII)I" } : Jvm.MethodName) prog_85_method_11_code (5 : Nat) (Option.some Jvm.ClassFile.FieldType.int), Jvm.Cond.code ({ cls := "java/lang/Math", name := "min", desc := "(II)I" } : Jvm.MethodName) jdk_29_method_69_code (2 : Nat) (Option.some Jvm.ClassFile.FieldType.int), Jvm.Cond.code ({ cls := "com/example/sealwright/sealwright/io/XmlWriterReadPinLaw", name := "slot", desc := "([BIIIILjava/lang/String;)Z" } : Jvm.MethodName) method_2_code (7 : Nat) (Option.some Jvm.ClassFile.FieldType.boolean), Jvm.Cond.code ({ cls := "java/lang/String", name := "charAt", desc := "(I)C" } : Jvm.MethodName) jdk_42_method_56_code (2 : Nat) (Option.some Jvm.ClassFile.FieldType.char), Jvm.Cond.code ({ cls := "java/lang/StringLatin1", name := "charAt", desc := "([BI)C" } : Jvm.MethodName) jdk_43_method_2_code (2 : Nat) (Option.some Jvm.ClassFile.FieldType.char), Jvm.Cond.code ({ cls := "com/example/sealwright/sealwright/io/XmlWriter", name := "element", desc := "(Ljava/lang/String;Ljava/lang/CharSequence;)Lcom/example/sealwright/sealwright/io/XmlWriter;" } : Jvm.MethodName) prog_85_method_5_code (3 : Nat) (Option.some (Jvm.ClassFile.FieldType.object "com/example/sealwright/sealwright/io/XmlWriter")), Jvm.Cond.code ({ cls := "com/example/sealwright/sealwright/io/XmlWriter", name := "indent", desc := "()V" } : Jvm.MethodName) prog_85_method_12_code (2 : Nat) (Option.none : Option Jvm.ClassFile.FieldType), Jvm.Cond.code ({ cls := "java/util/ArrayDeque", name := "size", desc := "()I" } : Jvm.MethodName) jdk_21_method_37_code (1 : Nat) (Option.some Jvm.ClassFile.FieldType.int), Jvm.Cond.code ({ cls := "java/util/ArrayDeque", name := "sub", desc := "(III)I" } : Jvm.MethodName) jdk_21_method_9_code (3 : Nat) (Option.some Jvm.ClassFile.FieldType.int), Jvm.Cond.code ({ cls := "com/example/sealwright/sealwright/io/XmlWriter", name := "startTag", desc := "(Ljava/lang/String;)V" } : Jvm.MethodName) prog_85_method_13_code (2 : Nat) (Option.none : Option Jvm.ClassFile.FieldType), Jvm.Cond.code ({ cls := "com/example/sealwright/sealwright/io/XmlWriter", name := "escape", desc := "(Ljava/lang/CharSequence;Ljava/lang/String;Z)V" } : Jvm.MethodName) prog_85_method_22_code (6 : Nat) (Option.none : Option Jvm.ClassFile.FieldType), Jvm.Cond.code ({ cls := "com/example/sealwright/sealwright/io/XmlWriter", name := "requireXmlText", desc := "(Ljava/lang/CharSequence;Ljava/lang/String;)V" } : Jvm.MethodName) prog_85_method_2_code (5 : Nat) (Option.none : Option Jvm.ClassFile.FieldType), Jvm.Cond.code ({ cls := "com/example/sealwright/sealwright/io/XmlWriter", name := "endTag", desc := "(Ljava/lang/String;)V" } : Jvm.MethodName) prog_85_method_14_code (2 : Nat) (Option.none : Option Jvm.ClassFile.FieldType)]
set_option maxRecDepth 65536 in
theorem codes_eq : words1.filter isCode = codes1 := rfl
theorem w_codes : ∀ c ∈ words1.filter isCode, c.before args0 about1 = true := by
  rw [codes_eq]
  intro c hc
  simp only [codes1, List.mem_cons, List.not_mem_nil, or_false] at hc
  rcases hc with rfl | rfl | rfl | rfl | rfl | rfl | rfl | rfl | rfl | rfl | rfl | rfl | rfl | rfl | rfl | rfl | rfl | rfl | rfl | rfl | rfl | rfl | rfl | rfl | rfl | rfl | rfl | rfl
  · exact w_c0
  · exact w_c1
  · exact w_c2
  · exact w_c3
  · exact w_c4
  · exact w_c5
  · exact w_c6
  · exact w_c7
  · exact w_c8
  · exact w_c9
  · exact w_c10
  · exact w_c11
  · exact w_c12
  · exact w_c13
  · exact w_c14
  · exact w_c15
  · exact w_c16
  · exact w_c17
  · exact w_c18
  · exact w_c19
  · exact w_c20
  · exact w_c21
  · exact w_c22
  · exact w_c23
  · exact w_c24
  · exact w_c25
  · exact w_c26
  · exact w_c27
set_option maxRecDepth 65536 in
theorem w_t1 : (words1.take 24).all (fun c => isCode c || c.before args0 about1) = true := by decide +kernel
set_option maxRecDepth 65536 in
theorem w_t2 : ((words1.drop 24).take 24).all (fun c => isCode c || c.before args0 about1) = true := by decide +kernel
set_option maxRecDepth 65536 in
theorem w_t3 : (((words1.drop 24).drop 24).take 24).all (fun c => isCode c || c.before args0 about1) = true := by decide +kernel
set_option maxRecDepth 65536 in
theorem w_t4 : ((((words1.drop 24).drop 24).drop 24).take 24).all (fun c => isCode c || c.before args0 about1) = true := by decide +kernel
set_option maxRecDepth 65536 in
theorem w_t5 : (((((words1.drop 24).drop 24).drop 24).drop 24).take 24).all (fun c => isCode c || c.before args0 about1) = true := by decide +kernel
set_option maxRecDepth 65536 in
theorem w_t6 : ((((((words1.drop 24).drop 24).drop 24).drop 24).drop 24).take 24).all (fun c => isCode c || c.before args0 about1) = true := by decide +kernel
set_option maxRecDepth 65536 in
theorem w_t7 : (((((((words1.drop 24).drop 24).drop 24).drop 24).drop 24).drop 24).take 24).all (fun c => isCode c || c.before args0 about1) = true := by decide +kernel
set_option maxRecDepth 65536 in
theorem w_t8 : (((((((words1.drop 24).drop 24).drop 24).drop 24).drop 24).drop 24).drop 24).all (fun c => isCode c || c.before args0 about1) = true := by decide +kernel
theorem w_tables : (allAtoms (Jvm.Cond.code x code maxLocals ret :: tables_1)).before args0 about1 = true := by
  rw [allAtoms_all]
  show words1.all (fun c => c.before args0 about1) = true
  refine all_split ?_ w_codes
  rw [← List.take_append_drop 24 words1, List.all_append, w_t1, ← List.take_append_drop 24 (words1.drop 24), List.all_append, w_t2, ← List.take_append_drop 24 ((words1.drop 24).drop 24), List.all_append, w_t3, ← List.take_append_drop 24 (((words1.drop 24).drop 24).drop 24), List.all_append, w_t4, ← List.take_append_drop 24 ((((words1.drop 24).drop 24).drop 24).drop 24), List.all_append, w_t5, ← List.take_append_drop 24 (((((words1.drop 24).drop 24).drop 24).drop 24).drop 24), List.all_append, w_t6, ← List.take_append_drop 24 ((((((words1.drop 24).drop 24).drop 24).drop 24).drop 24).drop 24), List.all_append, w_t7, w_t8]
  rfl
set_option maxRecDepth 65536 in
theorem w_rest : rest_1_c.before args0 about1 = true := by decide +kernel
set_option maxRecDepth 65536 in
theorem w_case : (Jvm.Cond.and given_1 narrow_1).before args0 about1 = true := by decide +kernel
set_option maxRecDepth 65536 in
theorem w_consts : constsHeld consts_1 about1 := Jvm.Lit.constsHeldB_iff.mp (by decide +kernel)
theorem w_applies : (headSpec (Jvm.Cond.code x code maxLocals ret :: tables_1) room_1).applies x e0.platform about1 = true :=
  (Spec.applies_iff w_frames).mpr ⟨w_running, w_runnable, w_alone, w_named, w_hears, w_ripe, w_room, w_tables⟩
theorem atStart : AtStart classFile x code maxLocals ret World_1 tables_1 room_1 Calls_1 rest_1 Pre_1 launch0 p0 e0 about1 theMethod args0 below0 :=
  ⟨lists_1, trivial, launch0.admits_env _ _ _, launch0.least_env, fairChoices_fair.cas, fairChoices_fair.clock, w_frames, w_args, w_heap, w_applies, ⟨w_consts, trivial⟩, w_rest, w_case⟩
end start1
theorem witness_1 : WitnessClaimed_1 := ⟨start1.p0, start1.e0, start1.about1, start1.theMethod, start1.args0, start1.below0, start1.atStart⟩
end Jvm.Pilot.@@N@@
