import JvmDerived
import JvmDerived.Pilot.@@N@@Statement
import JvmDerived.Pilot.@@N@@Code
set_option linter.unusedVariables false
set_option linter.unusedSimpArgs false
namespace Jvm.RoadKit
open Sem ClassFile Op Lib Jvm.Stand Jvm.Free Jvm.LawKit
section New
variable {p : Program} {l : Launch} {e : Env} {R : Room} {s : State} {m : MethodId} {args : Array Value} {below : List Frame} {meth : Method} {c : Code} {T : State} {locs : List Loc} {cells slots : Nat}
theorem retI (X : Stand p l e R s m args below meth c T locs cells slots) (hx : p.tables.exec = Jvm.exec) {pc : Nat} {Ls : Array Slot} {z : Int32} {rest : List Value} (hret : meth.sig.returnType = some .int) (hd : decode c.code pc = .ok (.ireturn, 1)) {fs : List Frame}
    (hl : ∀ (f : JFrame) (acts : List Action), f.method = m → f.locked = none → f.entered = [] → (doReturn e (T.setTop f) acts (some (.int z))).1 = T.setFrames fs) : Steps p.tables e below (T.setTop (mkF m pc Ls (.int z :: rest))) (T.setFrames fs) := by
  have hm' : T.vm.method? m = some meth := X.method'
  have hn : narrow .int (.int z) = .int z := rfl
  show Steps p.tables e below (T.setTop { method := m, pc := pc, locals := Ls, stack := _ :: rest, locked := none }) _
  jvm_step X.here [X.here.top, hx, hd, hm', hret, hn]
  first | (intro acts; rw [hl _ acts rfl rfl rfl]) | rw [hl _ _ rfl rfl rfl]
  exact Steps.refl _
end New
end Jvm.RoadKit
namespace Jvm.Pilot.@@N@@
open Jvm Jvm.ClassFile Sem Op Lib Jvm.Free Jvm.Stand Jvm.LawKit Jvm.RoadKit Bundle Jvm.Pilot.@@N@@.Jvm.D
def QR (h0 : Heap) (n0 : Nat) (r : Value) (v : Option Value) (h : Heap) (L : List Loc) : Prop := v = some r ∧ Fr n0 L ∧ h = h0
abbrev Ret (l : Launch) (Z : State) (h0 : Heap) (n0 : Nat) (y : MethodName) (bytes : ByteArray) (mx : Nat) (rt : Option FieldType) (rm : Room) (as' : Array Value) (r : Value) : Prop :=
  MetFree l y (head1 (Jvm.Cond.code y bytes mx rt :: []) rm) (fun a U => a = as' ∧ Z.Warmed39 U.vm ∧ U.heap = h0) (fun _ _ _ _ _ => True) (fun _ U o U' => ∃ v L, o = .returned v ∧ QR h0 n0 r v U'.heap L ∧ FrameEnd U o U' L rm.cells rm.slots)
theorem d1_0 : decode prog_66_method_12_code 0 = .ok (.iload_n 0, 1) := by decide +kernel
theorem d1_1 : decode prog_66_method_12_code 1 = .ok (.getstatic 146, 3) := by decide +kernel
theorem d1_4 : decode prog_66_method_12_code 4 = .ok (.arraylength, 1) := by decide +kernel
theorem d1_5 : decode prog_66_method_12_code 5 = .ok (.if_icmp .ge 15, 3) := by decide +kernel
theorem d1_20 : decode prog_66_method_12_code 20 = .ok (.iconst 0, 1) := by decide +kernel
theorem d1_21 : decode prog_66_method_12_code 21 = .ok (.ireturn, 1) := by decide +kernel
theorem pn_1 : plainName "com/example/countersign/countersign/util/PercentCoding" = true := by first | (simp [plainName, overriddenIn]; done) | decide +kernel
theorem ef_1 (m : MethodId) (x0 : Int32) : entryFrame m #[(.int x0)] 1 = mkF m 0 #[.val (.int x0)] [] := by first | (simp [entryFrame, mkF, argsToLocals, Value.category]; done) | rfl
def Q1_t (Z : State) (p1 : Int32) (w2 : Addr) (cl_w2 : Cell) (z_w2 : Int32) (h0 : Heap) (n0 : Nat) (v : Option Value) (h : Heap) (L : List Loc) : Prop := v = some (.int (0 : Int32)) ∧ Fr n0 L ∧ h = h0
set_option maxRecDepth 65536 in
set_option maxHeartbeats 40000000 in
theorem rm1_t (l : Launch) (Z : State) (a0 : Array Value) (hw : ∀ d ∈ tables_1, d.before a0 Z = true) (ws : List Jvm.Cond) (p1 : Int32) (w2 : Addr) (cl_w2 : Cell) (z_w2 : Int32) (h0 : Heap) (n0 : Nat) (Z0 : n0 ≤ h0.size) (S_UNRESERVED : Sta Z h0 "com/example/countersign/countersign/util/PercentCoding" "UNRESERVED" "[Z" (.ref w2)) (Ar_w2 : Arr Z h0 w2 cl_w2 .boolean) (S_w2 : cl_w2.slots.size = z_w2.toNatClampNeg) (N_w2 : ¬ z_w2 < 0) (hc5 : ¬ (p1 < z_w2)) :
    MetFree l (⟨"com/example/countersign/countersign/util/PercentCoding", "isUnreserved", "(C)Z"⟩ : MethodName) (head1 (Jvm.Cond.code (⟨"com/example/countersign/countersign/util/PercentCoding", "isUnreserved", "(C)Z"⟩ : MethodName) prog_66_method_12_code 1 (some .boolean) :: ws) ({ frames := 0, cells := 0, slots := 0, locals := 0 } : Room)) (fun a U => a = #[(.int p1)] ∧ Z.Warmed39 U.vm ∧ U.heap = h0) (fun _ _ _ _ _ => True) (fun _ U o U' => ∃ v L, o = .returned v ∧ Q1_t Z p1 w2 cl_w2 z_w2 h0 n0 v U'.heap L ∧ FrameEnd U o U' L ({ frames := 0, cells := 0, slots := 0, locals := 0 } : Room).cells ({ frames := 0, cells := 0, slots := 0, locals := 0 } : Room).slots) := by
  refine MetFree.of_bodySF (plainFor_of_name pn_1) hisR ?_
  intro p e s m args below meth c s₁ Bd hml0 hP hK
  obtain ⟨rfl, hZ, hh⟩ := hP
  have hx := Bd.exec
  have hby := Bd.bytes
  have hml : c.maxLocals = 1 := hml0
  have hown : s.vm.findClass "com/example/countersign/countersign/util/PercentCoding" = some m.cls := findClass_of_methodNamed Bd.named
  have hnm := (name_of_methodNamed Bd.named Bd.method).1
  have X0 : Stand p l e ({ frames := 0, cells := 0, slots := 0, locals := 0 } : Room) s m #[(.int p1)] below meth c s₁ [] 0 0 := Stand.of_body Bd
  have e0 : s₁.heap = h0 := by rw [← hh, Bd.state]; rfl
  have N0 := Fr.nil n0
  have pre0 : ∀ t, Steps p.tables e below (s₁.setTop (mkF m 0 #[.val (.int p1)] [])) t → Steps p.tables e below (s₁.setTop (entryFrame m #[(.int p1)] 1)) t := fun t k => castTop (ef_1 m p1) k

  obtain ⟨T3, X3, e3, st3⟩ := getS2 X0 hx hZ hown (host := "") (Or.inl (hw _ (List.mem_of_getElem? (i := 4) rfl))) Via.refl e0 S_UNRESERVED (g := (mkF m 1 #[.val (.int p1)] [(.int p1)])) rfl (hb hby d1_1)
  obtain ⟨fs, hr, hrun, hended, hW, hsame⟩ := X3.leave (v := some (.int (0 : Int32))) (fun h => by rw [Bd.returns] at h; cases h)
  refine ⟨_, _, pre0 _ ?_, hrun, hended, _, _, rfl, ?_, ⟨_, rfl⟩, hW, hsame.mono (by decide) (by decide)⟩

  · show Steps p.tables e below (s₁.setTop (mkF m 0 #[.val (.int p1)] [])) _
    refine XS.iloadN X0.here hx rfl (hb hby d1_0) rfl ?_
    show Steps p.tables e below (s₁.setTop (mkF m 1 #[.val (.int p1)] [(.int p1)])) _
    refine st3 _ ?_
    show Steps p.tables e below (T3.setTop (mkF m 4 #[.val (.int p1)] [(.ref w2), (.int p1)])) _
    refine X3.arraylength hx (by rw [e3]; exact Ar_w2.1) (State.isArrayOf_alike hZ.alike Ar_w2.2.1) (g := (mkF m 4 #[.val (.int p1)] [(.ref w2), (.int p1)])) rfl rfl (hb hby d1_4) _ ?_
    rw [len_of S_w2 N_w2]
    show Steps p.tables e below (T3.setTop (mkF m 5 #[.val (.int p1)] [(.int z_w2), (.int p1)])) _
    refine XS.icmpYes X3.here hx rfl (pc0 := 5) (pc' := 20) rfl (hb hby d1_5) rfl (flt hc5).2.1 (by decide) (by decide) ?_
    show Steps p.tables e below (T3.setTop (mkF m 20 #[.val (.int p1)] [])) _
    refine XS.iconst X3.here hx rfl (hb hby d1_20) ?_
    show Steps p.tables e below (T3.setTop (mkF m 21 #[.val (.int p1)] [(.int (0 : Int32))])) _
    exact retN X3 hx (t := .boolean) Bd.returns (by simp) (hb hby d1_21) hr
  · show Q1_t Z p1 w2 cl_w2 z_w2 h0 n0 _ T3.heap _
    rw [e3]
    exact ⟨rfl, N0, rfl⟩
theorem d1_8 : decode prog_66_method_12_code 8 = .ok (.getstatic 146, 3) := by decide +kernel
theorem d1_11 : decode prog_66_method_12_code 11 = .ok (.iload_n 0, 1) := by decide +kernel
theorem d1_12 : decode prog_66_method_12_code 12 = .ok (.baload, 1) := by decide +kernel
theorem d1_13 : decode prog_66_method_12_code 13 = .ok (.ifCond .eq 7, 3) := by decide +kernel
def Q1_ft (Z : State) (p1 : Int32) (w2 : Addr) (cl_w2 : Cell) (z_w2 : Int32) (w5 : Int32) (h0 : Heap) (n0 : Nat) (v : Option Value) (h : Heap) (L : List Loc) : Prop := v = some (.int (0 : Int32)) ∧ Fr n0 L ∧ h = h0
set_option maxRecDepth 65536 in
set_option maxHeartbeats 40000000 in
theorem rm1_ft (l : Launch) (Z : State) (a0 : Array Value) (hw : ∀ d ∈ tables_1, d.before a0 Z = true) (ws : List Jvm.Cond) (p1 : Int32) (w2 : Addr) (cl_w2 : Cell) (z_w2 : Int32) (w5 : Int32) (h0 : Heap) (n0 : Nat) (Z0 : n0 ≤ h0.size) (S_UNRESERVED : Sta Z h0 "com/example/countersign/countersign/util/PercentCoding" "UNRESERVED" "[Z" (.ref w2)) (Ar_w2 : Arr Z h0 w2 cl_w2 .boolean) (S_w2 : cl_w2.slots.size = z_w2.toNatClampNeg) (N_w2 : ¬ z_w2 < 0) (hin12 : ¬ (p1 < 0 ∨ cl_w2.slots.size ≤ (p1).toNatClampNeg)) (hat12 : cl_w2.slots[(p1).toNatClampNeg]? = some (.int w5)) (hc5 : p1 < z_w2) (hc13 : w5 = (0 : Int32)) :
    MetFree l (⟨"com/example/countersign/countersign/util/PercentCoding", "isUnreserved", "(C)Z"⟩ : MethodName) (head1 (Jvm.Cond.code (⟨"com/example/countersign/countersign/util/PercentCoding", "isUnreserved", "(C)Z"⟩ : MethodName) prog_66_method_12_code 1 (some .boolean) :: ws) ({ frames := 0, cells := 0, slots := 0, locals := 0 } : Room)) (fun a U => a = #[(.int p1)] ∧ Z.Warmed39 U.vm ∧ U.heap = h0) (fun _ _ _ _ _ => True) (fun _ U o U' => ∃ v L, o = .returned v ∧ Q1_ft Z p1 w2 cl_w2 z_w2 w5 h0 n0 v U'.heap L ∧ FrameEnd U o U' L ({ frames := 0, cells := 0, slots := 0, locals := 0 } : Room).cells ({ frames := 0, cells := 0, slots := 0, locals := 0 } : Room).slots) := by
  refine MetFree.of_bodySF (plainFor_of_name pn_1) hisR ?_
  intro p e s m args below meth c s₁ Bd hml0 hP hK
  obtain ⟨rfl, hZ, hh⟩ := hP
  have hx := Bd.exec
  have hby := Bd.bytes
  have hml : c.maxLocals = 1 := hml0
  have hown : s.vm.findClass "com/example/countersign/countersign/util/PercentCoding" = some m.cls := findClass_of_methodNamed Bd.named
  have hnm := (name_of_methodNamed Bd.named Bd.method).1
  have X0 : Stand p l e ({ frames := 0, cells := 0, slots := 0, locals := 0 } : Room) s m #[(.int p1)] below meth c s₁ [] 0 0 := Stand.of_body Bd
  have e0 : s₁.heap = h0 := by rw [← hh, Bd.state]; rfl
  have N0 := Fr.nil n0
  have pre0 : ∀ t, Steps p.tables e below (s₁.setTop (mkF m 0 #[.val (.int p1)] [])) t → Steps p.tables e below (s₁.setTop (entryFrame m #[(.int p1)] 1)) t := fun t k => castTop (ef_1 m p1) k

  obtain ⟨T3, X3, e3, st3⟩ := getS2 X0 hx hZ hown (host := "") (Or.inl (hw _ (List.mem_of_getElem? (i := 4) rfl))) Via.refl e0 S_UNRESERVED (g := (mkF m 1 #[.val (.int p1)] [(.int p1)])) rfl (hb hby d1_1)
  obtain ⟨T4, X4, e4, st4⟩ := getS2 X3 hx hZ hown (host := "") (Or.inl (hw _ (List.mem_of_getElem? (i := 4) rfl))) Via.refl e3 S_UNRESERVED (g := (mkF m 8 #[.val (.int p1)] [])) rfl (hb hby d1_8)
  obtain ⟨fs, hr, hrun, hended, hW, hsame⟩ := X4.leave (v := some (.int (0 : Int32))) (fun h => by rw [Bd.returns] at h; cases h)
  refine ⟨_, _, pre0 _ ?_, hrun, hended, _, _, rfl, ?_, ⟨_, rfl⟩, hW, hsame.mono (by decide) (by decide)⟩

  · show Steps p.tables e below (s₁.setTop (mkF m 0 #[.val (.int p1)] [])) _
    refine XS.iloadN X0.here hx rfl (hb hby d1_0) rfl ?_
    show Steps p.tables e below (s₁.setTop (mkF m 1 #[.val (.int p1)] [(.int p1)])) _
    refine st3 _ ?_
    show Steps p.tables e below (T3.setTop (mkF m 4 #[.val (.int p1)] [(.ref w2), (.int p1)])) _
    refine X3.arraylength hx (by rw [e3]; exact Ar_w2.1) (State.isArrayOf_alike hZ.alike Ar_w2.2.1) (g := (mkF m 4 #[.val (.int p1)] [(.ref w2), (.int p1)])) rfl rfl (hb hby d1_4) _ ?_
    rw [len_of S_w2 N_w2]
    show Steps p.tables e below (T3.setTop (mkF m 5 #[.val (.int p1)] [(.int z_w2), (.int p1)])) _
    refine XS.icmpNo X3.here hx rfl (hb hby d1_5) rfl (tlt hc5).2.1 ?_
    show Steps p.tables e below (T3.setTop (mkF m 8 #[.val (.int p1)] [])) _
    refine st4 _ ?_
    show Steps p.tables e below (T4.setTop (mkF m 11 #[.val (.int p1)] [(.ref w2)])) _
    refine XS.iloadN X4.here hx rfl (hb hby d1_11) rfl ?_
    show Steps p.tables e below (T4.setTop (mkF m 12 #[.val (.int p1)] [(.int p1), (.ref w2)])) _
    refine X4.baloadBooleans hx (j := p1) (v := (.int w5)) (by rw [e4]; exact Ar_w2.1) (State.isArrayOf_alike hZ.alike Ar_w2.2.1) Ar_w2.2.2 hin12 hat12 (g := (mkF m 12 #[.val (.int p1)] [(.int p1), (.ref w2)])) rfl rfl (hb hby d1_12) _ ?_
    show Steps p.tables e below (T4.setTop (mkF m 13 #[.val (.int p1)] [(.int w5)])) _
    refine XS.ifYes X4.here hx rfl (pc0 := 13) (pc' := 20) rfl (hb hby d1_13) rfl ((if0 _ _).trans (teq hc13).1) (by decide) (by decide) ?_
    show Steps p.tables e below (T4.setTop (mkF m 20 #[.val (.int p1)] [])) _
    refine XS.iconst X4.here hx rfl (hb hby d1_20) ?_
    show Steps p.tables e below (T4.setTop (mkF m 21 #[.val (.int p1)] [(.int (0 : Int32))])) _
    exact retN X4 hx (t := .boolean) Bd.returns (by simp) (hb hby d1_21) hr
  · show Q1_ft Z p1 w2 cl_w2 z_w2 w5 h0 n0 _ T4.heap _
    rw [e4]
    exact ⟨rfl, N0, rfl⟩
theorem d1_16 : decode prog_66_method_12_code 16 = .ok (.iconst 1, 1) := by decide +kernel
theorem d1_17 : decode prog_66_method_12_code 17 = .ok (.goto 4, 3) := by decide +kernel
def Q1_ff (Z : State) (p1 : Int32) (w2 : Addr) (cl_w2 : Cell) (z_w2 : Int32) (w5 : Int32) (h0 : Heap) (n0 : Nat) (v : Option Value) (h : Heap) (L : List Loc) : Prop := v = some (.int (1 : Int32)) ∧ Fr n0 L ∧ h = h0
set_option maxRecDepth 65536 in
set_option maxHeartbeats 40000000 in
theorem rm1_ff (l : Launch) (Z : State) (a0 : Array Value) (hw : ∀ d ∈ tables_1, d.before a0 Z = true) (ws : List Jvm.Cond) (p1 : Int32) (w2 : Addr) (cl_w2 : Cell) (z_w2 : Int32) (w5 : Int32) (h0 : Heap) (n0 : Nat) (Z0 : n0 ≤ h0.size) (S_UNRESERVED : Sta Z h0 "com/example/countersign/countersign/util/PercentCoding" "UNRESERVED" "[Z" (.ref w2)) (Ar_w2 : Arr Z h0 w2 cl_w2 .boolean) (S_w2 : cl_w2.slots.size = z_w2.toNatClampNeg) (N_w2 : ¬ z_w2 < 0) (hin12 : ¬ (p1 < 0 ∨ cl_w2.slots.size ≤ (p1).toNatClampNeg)) (hat12 : cl_w2.slots[(p1).toNatClampNeg]? = some (.int w5)) (hc5 : p1 < z_w2) (hc13 : ¬ (w5 = (0 : Int32))) :
    MetFree l (⟨"com/example/countersign/countersign/util/PercentCoding", "isUnreserved", "(C)Z"⟩ : MethodName) (head1 (Jvm.Cond.code (⟨"com/example/countersign/countersign/util/PercentCoding", "isUnreserved", "(C)Z"⟩ : MethodName) prog_66_method_12_code 1 (some .boolean) :: ws) ({ frames := 0, cells := 0, slots := 0, locals := 0 } : Room)) (fun a U => a = #[(.int p1)] ∧ Z.Warmed39 U.vm ∧ U.heap = h0) (fun _ _ _ _ _ => True) (fun _ U o U' => ∃ v L, o = .returned v ∧ Q1_ff Z p1 w2 cl_w2 z_w2 w5 h0 n0 v U'.heap L ∧ FrameEnd U o U' L ({ frames := 0, cells := 0, slots := 0, locals := 0 } : Room).cells ({ frames := 0, cells := 0, slots := 0, locals := 0 } : Room).slots) := by
  refine MetFree.of_bodySF (plainFor_of_name pn_1) hisR ?_
  intro p e s m args below meth c s₁ Bd hml0 hP hK
  obtain ⟨rfl, hZ, hh⟩ := hP
  have hx := Bd.exec
  have hby := Bd.bytes
  have hml : c.maxLocals = 1 := hml0
  have hown : s.vm.findClass "com/example/countersign/countersign/util/PercentCoding" = some m.cls := findClass_of_methodNamed Bd.named
  have hnm := (name_of_methodNamed Bd.named Bd.method).1
  have X0 : Stand p l e ({ frames := 0, cells := 0, slots := 0, locals := 0 } : Room) s m #[(.int p1)] below meth c s₁ [] 0 0 := Stand.of_body Bd
  have e0 : s₁.heap = h0 := by rw [← hh, Bd.state]; rfl
  have N0 := Fr.nil n0
  have pre0 : ∀ t, Steps p.tables e below (s₁.setTop (mkF m 0 #[.val (.int p1)] [])) t → Steps p.tables e below (s₁.setTop (entryFrame m #[(.int p1)] 1)) t := fun t k => castTop (ef_1 m p1) k

  obtain ⟨T3, X3, e3, st3⟩ := getS2 X0 hx hZ hown (host := "") (Or.inl (hw _ (List.mem_of_getElem? (i := 4) rfl))) Via.refl e0 S_UNRESERVED (g := (mkF m 1 #[.val (.int p1)] [(.int p1)])) rfl (hb hby d1_1)
  obtain ⟨T4, X4, e4, st4⟩ := getS2 X3 hx hZ hown (host := "") (Or.inl (hw _ (List.mem_of_getElem? (i := 4) rfl))) Via.refl e3 S_UNRESERVED (g := (mkF m 8 #[.val (.int p1)] [])) rfl (hb hby d1_8)
  obtain ⟨fs, hr, hrun, hended, hW, hsame⟩ := X4.leave (v := some (.int (1 : Int32))) (fun h => by rw [Bd.returns] at h; cases h)
  refine ⟨_, _, pre0 _ ?_, hrun, hended, _, _, rfl, ?_, ⟨_, rfl⟩, hW, hsame.mono (by decide) (by decide)⟩

  · show Steps p.tables e below (s₁.setTop (mkF m 0 #[.val (.int p1)] [])) _
    refine XS.iloadN X0.here hx rfl (hb hby d1_0) rfl ?_
    show Steps p.tables e below (s₁.setTop (mkF m 1 #[.val (.int p1)] [(.int p1)])) _
    refine st3 _ ?_
    show Steps p.tables e below (T3.setTop (mkF m 4 #[.val (.int p1)] [(.ref w2), (.int p1)])) _
    refine X3.arraylength hx (by rw [e3]; exact Ar_w2.1) (State.isArrayOf_alike hZ.alike Ar_w2.2.1) (g := (mkF m 4 #[.val (.int p1)] [(.ref w2), (.int p1)])) rfl rfl (hb hby d1_4) _ ?_
    rw [len_of S_w2 N_w2]
    show Steps p.tables e below (T3.setTop (mkF m 5 #[.val (.int p1)] [(.int z_w2), (.int p1)])) _
    refine XS.icmpNo X3.here hx rfl (hb hby d1_5) rfl (tlt hc5).2.1 ?_
    show Steps p.tables e below (T3.setTop (mkF m 8 #[.val (.int p1)] [])) _
    refine st4 _ ?_
    show Steps p.tables e below (T4.setTop (mkF m 11 #[.val (.int p1)] [(.ref w2)])) _
    refine XS.iloadN X4.here hx rfl (hb hby d1_11) rfl ?_
    show Steps p.tables e below (T4.setTop (mkF m 12 #[.val (.int p1)] [(.int p1), (.ref w2)])) _
    refine X4.baloadBooleans hx (j := p1) (v := (.int w5)) (by rw [e4]; exact Ar_w2.1) (State.isArrayOf_alike hZ.alike Ar_w2.2.1) Ar_w2.2.2 hin12 hat12 (g := (mkF m 12 #[.val (.int p1)] [(.int p1), (.ref w2)])) rfl rfl (hb hby d1_12) _ ?_
    show Steps p.tables e below (T4.setTop (mkF m 13 #[.val (.int p1)] [(.int w5)])) _
    refine XS.ifNo X4.here hx rfl (hb hby d1_13) rfl ((if0 _ _).trans (feq hc13).1) ?_
    show Steps p.tables e below (T4.setTop (mkF m 16 #[.val (.int p1)] [])) _
    refine XS.iconst X4.here hx rfl (hb hby d1_16) ?_
    show Steps p.tables e below (T4.setTop (mkF m 17 #[.val (.int p1)] [(.int (1 : Int32))])) _
    refine XS.goto X4.here hx rfl (pc0 := 17) (pc' := 21) rfl (hb hby d1_17) (by decide) (by decide) ?_
    show Steps p.tables e below (T4.setTop (mkF m 21 #[.val (.int p1)] [(.int (1 : Int32))])) _
    exact retN X4 hx (t := .boolean) Bd.returns (by simp) (hb hby d1_21) hr
  · show Q1_ff Z p1 w2 cl_w2 z_w2 w5 h0 n0 _ T4.heap _
    rw [e4]
    exact ⟨rfl, N0, rfl⟩
theorem d2_0 : decode method_2_code 0 = .ok (.iload_n 0, 1) := by decide +kernel
theorem d2_1 : decode method_2_code 1 = .ok (.bipush 65, 2) := by decide +kernel
theorem d2_3 : decode method_2_code 3 = .ok (.if_icmp .lt 11, 3) := by decide +kernel
theorem d2_6 : decode method_2_code 6 = .ok (.iload_n 0, 1) := by decide +kernel
theorem d2_7 : decode method_2_code 7 = .ok (.bipush 90, 2) := by decide +kernel
theorem d2_9 : decode method_2_code 9 = .ok (.if_icmp .gt 5, 3) := by decide +kernel
theorem d2_12 : decode method_2_code 12 = .ok (.iconst 1, 1) := by decide +kernel
theorem d2_13 : decode method_2_code 13 = .ok (.ireturn, 1) := by decide +kernel
theorem pn_2 : plainName "com/example/countersign/countersign/util/PercentCodingIsUnreservedPinLaw" = true := by first | (simp [plainName, overriddenIn]; done) | decide +kernel
theorem ef_2 (m : MethodId) (x0 : Int32) : entryFrame m #[(.int x0)] 1 = mkF m 0 #[.val (.int x0)] [] := by first | (simp [entryFrame, mkF, argsToLocals, Value.category]; done) | rfl
def Q2_up (Z : State) (p1 : Int32) (h0 : Heap) (n0 : Nat) (v : Option Value) (h : Heap) (L : List Loc) : Prop := v = some (.int (1 : Int32)) ∧ Fr n0 L ∧ h = h0
set_option maxRecDepth 65536 in
set_option maxHeartbeats 40000000 in
theorem rm2_up (l : Launch) (Z : State) (a0 : Array Value) (hw : ∀ d ∈ tables_1, d.before a0 Z = true) (ws : List Jvm.Cond) (p1 : Int32) (h0 : Heap) (n0 : Nat) (Z0 : n0 ≤ h0.size) (hc3 : ¬ (p1 < (65 : Int32))) (hc9 : ¬ ((90 : Int32) < p1)) :
    MetFree l (⟨"com/example/countersign/countersign/util/PercentCodingIsUnreservedPinLaw", "expected", "(C)Z"⟩ : MethodName) (head1 (Jvm.Cond.code (⟨"com/example/countersign/countersign/util/PercentCodingIsUnreservedPinLaw", "expected", "(C)Z"⟩ : MethodName) method_2_code 1 (some .boolean) :: ws) ({ frames := 0, cells := 0, slots := 0, locals := 0 } : Room)) (fun a U => a = #[(.int p1)] ∧ Z.Warmed39 U.vm ∧ U.heap = h0) (fun _ _ _ _ _ => True) (fun _ U o U' => ∃ v L, o = .returned v ∧ Q2_up Z p1 h0 n0 v U'.heap L ∧ FrameEnd U o U' L ({ frames := 0, cells := 0, slots := 0, locals := 0 } : Room).cells ({ frames := 0, cells := 0, slots := 0, locals := 0 } : Room).slots) := by
  refine MetFree.of_bodySF (plainFor_of_name pn_2) hisR ?_
  intro p e s m args below meth c s₁ Bd hml0 hP hK
  obtain ⟨rfl, hZ, hh⟩ := hP
  have hx := Bd.exec
  have hby := Bd.bytes
  have hml : c.maxLocals = 1 := hml0
  have hown : s.vm.findClass "com/example/countersign/countersign/util/PercentCodingIsUnreservedPinLaw" = some m.cls := findClass_of_methodNamed Bd.named
  have hnm := (name_of_methodNamed Bd.named Bd.method).1
  have X0 : Stand p l e ({ frames := 0, cells := 0, slots := 0, locals := 0 } : Room) s m #[(.int p1)] below meth c s₁ [] 0 0 := Stand.of_body Bd
  have e0 : s₁.heap = h0 := by rw [← hh, Bd.state]; rfl
  have N0 := Fr.nil n0
  have pre0 : ∀ t, Steps p.tables e below (s₁.setTop (mkF m 0 #[.val (.int p1)] [])) t → Steps p.tables e below (s₁.setTop (entryFrame m #[(.int p1)] 1)) t := fun t k => castTop (ef_2 m p1) k


  obtain ⟨fs, hr, hrun, hended, hW, hsame⟩ := X0.leave (v := some (.int (1 : Int32))) (fun h => by rw [Bd.returns] at h; cases h)
  refine ⟨_, _, pre0 _ ?_, hrun, hended, _, _, rfl, ?_, ⟨_, rfl⟩, hW, hsame.mono (by decide) (by decide)⟩

  · show Steps p.tables e below (s₁.setTop (mkF m 0 #[.val (.int p1)] [])) _
    refine XS.iloadN X0.here hx rfl (hb hby d2_0) rfl ?_
    show Steps p.tables e below (s₁.setTop (mkF m 1 #[.val (.int p1)] [(.int p1)])) _
    refine XS.bipush X0.here hx rfl (hb hby d2_1) ?_
    show Steps p.tables e below (s₁.setTop (mkF m 3 #[.val (.int p1)] [(.int (65 : Int32)), (.int p1)])) _
    refine XS.icmpNo X0.here hx rfl (hb hby d2_3) rfl (flt hc3).1 ?_
    show Steps p.tables e below (s₁.setTop (mkF m 6 #[.val (.int p1)] [])) _
    refine XS.iloadN X0.here hx rfl (hb hby d2_6) rfl ?_
    show Steps p.tables e below (s₁.setTop (mkF m 7 #[.val (.int p1)] [(.int p1)])) _
    refine XS.bipush X0.here hx rfl (hb hby d2_7) ?_
    show Steps p.tables e below (s₁.setTop (mkF m 9 #[.val (.int p1)] [(.int (90 : Int32)), (.int p1)])) _
    refine XS.icmpNo X0.here hx rfl (hb hby d2_9) rfl (flt hc9).2.2.1 ?_
    show Steps p.tables e below (s₁.setTop (mkF m 12 #[.val (.int p1)] [])) _
    refine XS.iconst X0.here hx rfl (hb hby d2_12) ?_
    show Steps p.tables e below (s₁.setTop (mkF m 13 #[.val (.int p1)] [(.int (1 : Int32))])) _
    exact retN X0 hx (t := .boolean) Bd.returns (by simp) (hb hby d2_13) hr
  · show Q2_up Z p1 h0 n0 _ s₁.heap _
    rw [e0]
    exact ⟨rfl, N0, rfl⟩
theorem d2_14 : decode method_2_code 14 = .ok (.iload_n 0, 1) := by decide +kernel
theorem d2_15 : decode method_2_code 15 = .ok (.bipush 97, 2) := by decide +kernel
theorem d2_17 : decode method_2_code 17 = .ok (.if_icmp .lt 11, 3) := by decide +kernel
theorem d2_20 : decode method_2_code 20 = .ok (.iload_n 0, 1) := by decide +kernel
theorem d2_21 : decode method_2_code 21 = .ok (.bipush 122, 2) := by decide +kernel
theorem d2_23 : decode method_2_code 23 = .ok (.if_icmp .gt 5, 3) := by decide +kernel
theorem d2_26 : decode method_2_code 26 = .ok (.iconst 1, 1) := by decide +kernel
theorem d2_27 : decode method_2_code 27 = .ok (.ireturn, 1) := by decide +kernel
def Q2_low (Z : State) (p1 : Int32) (h0 : Heap) (n0 : Nat) (v : Option Value) (h : Heap) (L : List Loc) : Prop := v = some (.int (1 : Int32)) ∧ Fr n0 L ∧ h = h0
set_option maxRecDepth 65536 in
set_option maxHeartbeats 40000000 in
theorem rm2_low (l : Launch) (Z : State) (a0 : Array Value) (hw : ∀ d ∈ tables_1, d.before a0 Z = true) (ws : List Jvm.Cond) (p1 : Int32) (h0 : Heap) (n0 : Nat) (Z0 : n0 ≤ h0.size) (hc3 : ¬ (p1 < (65 : Int32))) (hc9 : (90 : Int32) < p1) (hc17 : ¬ (p1 < (97 : Int32))) (hc23 : ¬ ((122 : Int32) < p1)) :
    MetFree l (⟨"com/example/countersign/countersign/util/PercentCodingIsUnreservedPinLaw", "expected", "(C)Z"⟩ : MethodName) (head1 (Jvm.Cond.code (⟨"com/example/countersign/countersign/util/PercentCodingIsUnreservedPinLaw", "expected", "(C)Z"⟩ : MethodName) method_2_code 1 (some .boolean) :: ws) ({ frames := 0, cells := 0, slots := 0, locals := 0 } : Room)) (fun a U => a = #[(.int p1)] ∧ Z.Warmed39 U.vm ∧ U.heap = h0) (fun _ _ _ _ _ => True) (fun _ U o U' => ∃ v L, o = .returned v ∧ Q2_low Z p1 h0 n0 v U'.heap L ∧ FrameEnd U o U' L ({ frames := 0, cells := 0, slots := 0, locals := 0 } : Room).cells ({ frames := 0, cells := 0, slots := 0, locals := 0 } : Room).slots) := by
  refine MetFree.of_bodySF (plainFor_of_name pn_2) hisR ?_
  intro p e s m args below meth c s₁ Bd hml0 hP hK
  obtain ⟨rfl, hZ, hh⟩ := hP
  have hx := Bd.exec
  have hby := Bd.bytes
  have hml : c.maxLocals = 1 := hml0
  have hown : s.vm.findClass "com/example/countersign/countersign/util/PercentCodingIsUnreservedPinLaw" = some m.cls := findClass_of_methodNamed Bd.named
  have hnm := (name_of_methodNamed Bd.named Bd.method).1
  have X0 : Stand p l e ({ frames := 0, cells := 0, slots := 0, locals := 0 } : Room) s m #[(.int p1)] below meth c s₁ [] 0 0 := Stand.of_body Bd
  have e0 : s₁.heap = h0 := by rw [← hh, Bd.state]; rfl
  have N0 := Fr.nil n0
  have pre0 : ∀ t, Steps p.tables e below (s₁.setTop (mkF m 0 #[.val (.int p1)] [])) t → Steps p.tables e below (s₁.setTop (entryFrame m #[(.int p1)] 1)) t := fun t k => castTop (ef_2 m p1) k


  obtain ⟨fs, hr, hrun, hended, hW, hsame⟩ := X0.leave (v := some (.int (1 : Int32))) (fun h => by rw [Bd.returns] at h; cases h)
  refine ⟨_, _, pre0 _ ?_, hrun, hended, _, _, rfl, ?_, ⟨_, rfl⟩, hW, hsame.mono (by decide) (by decide)⟩

  · show Steps p.tables e below (s₁.setTop (mkF m 0 #[.val (.int p1)] [])) _
    refine XS.iloadN X0.here hx rfl (hb hby d2_0) rfl ?_
    show Steps p.tables e below (s₁.setTop (mkF m 1 #[.val (.int p1)] [(.int p1)])) _
    refine XS.bipush X0.here hx rfl (hb hby d2_1) ?_
    show Steps p.tables e below (s₁.setTop (mkF m 3 #[.val (.int p1)] [(.int (65 : Int32)), (.int p1)])) _
    refine XS.icmpNo X0.here hx rfl (hb hby d2_3) rfl (flt hc3).1 ?_
    show Steps p.tables e below (s₁.setTop (mkF m 6 #[.val (.int p1)] [])) _
    refine XS.iloadN X0.here hx rfl (hb hby d2_6) rfl ?_
    show Steps p.tables e below (s₁.setTop (mkF m 7 #[.val (.int p1)] [(.int p1)])) _
    refine XS.bipush X0.here hx rfl (hb hby d2_7) ?_
    show Steps p.tables e below (s₁.setTop (mkF m 9 #[.val (.int p1)] [(.int (90 : Int32)), (.int p1)])) _
    refine XS.icmpYes X0.here hx rfl (pc0 := 9) (pc' := 14) rfl (hb hby d2_9) rfl (tlt hc9).2.2.1 (by decide) (by decide) ?_
    show Steps p.tables e below (s₁.setTop (mkF m 14 #[.val (.int p1)] [])) _
    refine XS.iloadN X0.here hx rfl (hb hby d2_14) rfl ?_
    show Steps p.tables e below (s₁.setTop (mkF m 15 #[.val (.int p1)] [(.int p1)])) _
    refine XS.bipush X0.here hx rfl (hb hby d2_15) ?_
    show Steps p.tables e below (s₁.setTop (mkF m 17 #[.val (.int p1)] [(.int (97 : Int32)), (.int p1)])) _
    refine XS.icmpNo X0.here hx rfl (hb hby d2_17) rfl (flt hc17).1 ?_
    show Steps p.tables e below (s₁.setTop (mkF m 20 #[.val (.int p1)] [])) _
    refine XS.iloadN X0.here hx rfl (hb hby d2_20) rfl ?_
    show Steps p.tables e below (s₁.setTop (mkF m 21 #[.val (.int p1)] [(.int p1)])) _
    refine XS.bipush X0.here hx rfl (hb hby d2_21) ?_
    show Steps p.tables e below (s₁.setTop (mkF m 23 #[.val (.int p1)] [(.int (122 : Int32)), (.int p1)])) _
    refine XS.icmpNo X0.here hx rfl (hb hby d2_23) rfl (flt hc23).2.2.1 ?_
    show Steps p.tables e below (s₁.setTop (mkF m 26 #[.val (.int p1)] [])) _
    refine XS.iconst X0.here hx rfl (hb hby d2_26) ?_
    show Steps p.tables e below (s₁.setTop (mkF m 27 #[.val (.int p1)] [(.int (1 : Int32))])) _
    exact retN X0 hx (t := .boolean) Bd.returns (by simp) (hb hby d2_27) hr
  · show Q2_low Z p1 h0 n0 _ s₁.heap _
    rw [e0]
    exact ⟨rfl, N0, rfl⟩
theorem d2_28 : decode method_2_code 28 = .ok (.iload_n 0, 1) := by decide +kernel
theorem d2_29 : decode method_2_code 29 = .ok (.bipush 48, 2) := by decide +kernel
theorem d2_31 : decode method_2_code 31 = .ok (.if_icmp .lt 11, 3) := by decide +kernel
theorem d2_34 : decode method_2_code 34 = .ok (.iload_n 0, 1) := by decide +kernel
theorem d2_35 : decode method_2_code 35 = .ok (.bipush 57, 2) := by decide +kernel
theorem d2_37 : decode method_2_code 37 = .ok (.if_icmp .gt 5, 3) := by decide +kernel
theorem d2_40 : decode method_2_code 40 = .ok (.iconst 1, 1) := by decide +kernel
theorem d2_41 : decode method_2_code 41 = .ok (.ireturn, 1) := by decide +kernel
def Q2_dig (Z : State) (p1 : Int32) (h0 : Heap) (n0 : Nat) (v : Option Value) (h : Heap) (L : List Loc) : Prop := v = some (.int (1 : Int32)) ∧ Fr n0 L ∧ h = h0
set_option maxRecDepth 65536 in
set_option maxHeartbeats 40000000 in
theorem rm2_dig (l : Launch) (Z : State) (a0 : Array Value) (hw : ∀ d ∈ tables_1, d.before a0 Z = true) (ws : List Jvm.Cond) (p1 : Int32) (h0 : Heap) (n0 : Nat) (Z0 : n0 ≤ h0.size) (hc3 : p1 < (65 : Int32)) (hc17 : p1 < (97 : Int32)) (hc31 : ¬ (p1 < (48 : Int32))) (hc37 : ¬ ((57 : Int32) < p1)) :
    MetFree l (⟨"com/example/countersign/countersign/util/PercentCodingIsUnreservedPinLaw", "expected", "(C)Z"⟩ : MethodName) (head1 (Jvm.Cond.code (⟨"com/example/countersign/countersign/util/PercentCodingIsUnreservedPinLaw", "expected", "(C)Z"⟩ : MethodName) method_2_code 1 (some .boolean) :: ws) ({ frames := 0, cells := 0, slots := 0, locals := 0 } : Room)) (fun a U => a = #[(.int p1)] ∧ Z.Warmed39 U.vm ∧ U.heap = h0) (fun _ _ _ _ _ => True) (fun _ U o U' => ∃ v L, o = .returned v ∧ Q2_dig Z p1 h0 n0 v U'.heap L ∧ FrameEnd U o U' L ({ frames := 0, cells := 0, slots := 0, locals := 0 } : Room).cells ({ frames := 0, cells := 0, slots := 0, locals := 0 } : Room).slots) := by
  refine MetFree.of_bodySF (plainFor_of_name pn_2) hisR ?_
  intro p e s m args below meth c s₁ Bd hml0 hP hK
  obtain ⟨rfl, hZ, hh⟩ := hP
  have hx := Bd.exec
  have hby := Bd.bytes
  have hml : c.maxLocals = 1 := hml0
  have hown : s.vm.findClass "com/example/countersign/countersign/util/PercentCodingIsUnreservedPinLaw" = some m.cls := findClass_of_methodNamed Bd.named
  have hnm := (name_of_methodNamed Bd.named Bd.method).1
  have X0 : Stand p l e ({ frames := 0, cells := 0, slots := 0, locals := 0 } : Room) s m #[(.int p1)] below meth c s₁ [] 0 0 := Stand.of_body Bd
  have e0 : s₁.heap = h0 := by rw [← hh, Bd.state]; rfl
  have N0 := Fr.nil n0
  have pre0 : ∀ t, Steps p.tables e below (s₁.setTop (mkF m 0 #[.val (.int p1)] [])) t → Steps p.tables e below (s₁.setTop (entryFrame m #[(.int p1)] 1)) t := fun t k => castTop (ef_2 m p1) k


  obtain ⟨fs, hr, hrun, hended, hW, hsame⟩ := X0.leave (v := some (.int (1 : Int32))) (fun h => by rw [Bd.returns] at h; cases h)
  refine ⟨_, _, pre0 _ ?_, hrun, hended, _, _, rfl, ?_, ⟨_, rfl⟩, hW, hsame.mono (by decide) (by decide)⟩

  · show Steps p.tables e below (s₁.setTop (mkF m 0 #[.val (.int p1)] [])) _
    refine XS.iloadN X0.here hx rfl (hb hby d2_0) rfl ?_
    show Steps p.tables e below (s₁.setTop (mkF m 1 #[.val (.int p1)] [(.int p1)])) _
    refine XS.bipush X0.here hx rfl (hb hby d2_1) ?_
    show Steps p.tables e below (s₁.setTop (mkF m 3 #[.val (.int p1)] [(.int (65 : Int32)), (.int p1)])) _
    refine XS.icmpYes X0.here hx rfl (pc0 := 3) (pc' := 14) rfl (hb hby d2_3) rfl (tlt hc3).1 (by decide) (by decide) ?_
    show Steps p.tables e below (s₁.setTop (mkF m 14 #[.val (.int p1)] [])) _
    refine XS.iloadN X0.here hx rfl (hb hby d2_14) rfl ?_
    show Steps p.tables e below (s₁.setTop (mkF m 15 #[.val (.int p1)] [(.int p1)])) _
    refine XS.bipush X0.here hx rfl (hb hby d2_15) ?_
    show Steps p.tables e below (s₁.setTop (mkF m 17 #[.val (.int p1)] [(.int (97 : Int32)), (.int p1)])) _
    refine XS.icmpYes X0.here hx rfl (pc0 := 17) (pc' := 28) rfl (hb hby d2_17) rfl (tlt hc17).1 (by decide) (by decide) ?_
    show Steps p.tables e below (s₁.setTop (mkF m 28 #[.val (.int p1)] [])) _
    refine XS.iloadN X0.here hx rfl (hb hby d2_28) rfl ?_
    show Steps p.tables e below (s₁.setTop (mkF m 29 #[.val (.int p1)] [(.int p1)])) _
    refine XS.bipush X0.here hx rfl (hb hby d2_29) ?_
    show Steps p.tables e below (s₁.setTop (mkF m 31 #[.val (.int p1)] [(.int (48 : Int32)), (.int p1)])) _
    refine XS.icmpNo X0.here hx rfl (hb hby d2_31) rfl (flt hc31).1 ?_
    show Steps p.tables e below (s₁.setTop (mkF m 34 #[.val (.int p1)] [])) _
    refine XS.iloadN X0.here hx rfl (hb hby d2_34) rfl ?_
    show Steps p.tables e below (s₁.setTop (mkF m 35 #[.val (.int p1)] [(.int p1)])) _
    refine XS.bipush X0.here hx rfl (hb hby d2_35) ?_
    show Steps p.tables e below (s₁.setTop (mkF m 37 #[.val (.int p1)] [(.int (57 : Int32)), (.int p1)])) _
    refine XS.icmpNo X0.here hx rfl (hb hby d2_37) rfl (flt hc37).2.2.1 ?_
    show Steps p.tables e below (s₁.setTop (mkF m 40 #[.val (.int p1)] [])) _
    refine XS.iconst X0.here hx rfl (hb hby d2_40) ?_
    show Steps p.tables e below (s₁.setTop (mkF m 41 #[.val (.int p1)] [(.int (1 : Int32))])) _
    exact retN X0 hx (t := .boolean) Bd.returns (by simp) (hb hby d2_41) hr
  · show Q2_dig Z p1 h0 n0 _ s₁.heap _
    rw [e0]
    exact ⟨rfl, N0, rfl⟩
theorem d2_42 : decode method_2_code 42 = .ok (.iload_n 0, 1) := by decide +kernel
theorem d2_43 : decode method_2_code 43 = .ok (.bipush 45, 2) := by decide +kernel
theorem d2_45 : decode method_2_code 45 = .ok (.if_icmp .eq 21, 3) := by decide +kernel
theorem d2_66 : decode method_2_code 66 = .ok (.iconst 1, 1) := by decide +kernel
theorem d2_67 : decode method_2_code 67 = .ok (.ireturn, 1) := by decide +kernel
def Q2_dash (Z : State) (p1 : Int32) (h0 : Heap) (n0 : Nat) (v : Option Value) (h : Heap) (L : List Loc) : Prop := v = some (.int (1 : Int32)) ∧ Fr n0 L ∧ h = h0
set_option maxRecDepth 65536 in
set_option maxHeartbeats 40000000 in
theorem rm2_dash (l : Launch) (Z : State) (a0 : Array Value) (hw : ∀ d ∈ tables_1, d.before a0 Z = true) (ws : List Jvm.Cond) (p1 : Int32) (h0 : Heap) (n0 : Nat) (Z0 : n0 ≤ h0.size) (hc3 : p1 < (65 : Int32)) (hc17 : p1 < (97 : Int32)) (hc31 : p1 < (48 : Int32)) (hc45 : p1 = (45 : Int32)) :
    MetFree l (⟨"com/example/countersign/countersign/util/PercentCodingIsUnreservedPinLaw", "expected", "(C)Z"⟩ : MethodName) (head1 (Jvm.Cond.code (⟨"com/example/countersign/countersign/util/PercentCodingIsUnreservedPinLaw", "expected", "(C)Z"⟩ : MethodName) method_2_code 1 (some .boolean) :: ws) ({ frames := 0, cells := 0, slots := 0, locals := 0 } : Room)) (fun a U => a = #[(.int p1)] ∧ Z.Warmed39 U.vm ∧ U.heap = h0) (fun _ _ _ _ _ => True) (fun _ U o U' => ∃ v L, o = .returned v ∧ Q2_dash Z p1 h0 n0 v U'.heap L ∧ FrameEnd U o U' L ({ frames := 0, cells := 0, slots := 0, locals := 0 } : Room).cells ({ frames := 0, cells := 0, slots := 0, locals := 0 } : Room).slots) := by
  refine MetFree.of_bodySF (plainFor_of_name pn_2) hisR ?_
  intro p e s m args below meth c s₁ Bd hml0 hP hK
  obtain ⟨rfl, hZ, hh⟩ := hP
  have hx := Bd.exec
  have hby := Bd.bytes
  have hml : c.maxLocals = 1 := hml0
  have hown : s.vm.findClass "com/example/countersign/countersign/util/PercentCodingIsUnreservedPinLaw" = some m.cls := findClass_of_methodNamed Bd.named
  have hnm := (name_of_methodNamed Bd.named Bd.method).1
  have X0 : Stand p l e ({ frames := 0, cells := 0, slots := 0, locals := 0 } : Room) s m #[(.int p1)] below meth c s₁ [] 0 0 := Stand.of_body Bd
  have e0 : s₁.heap = h0 := by rw [← hh, Bd.state]; rfl
  have N0 := Fr.nil n0
  have pre0 : ∀ t, Steps p.tables e below (s₁.setTop (mkF m 0 #[.val (.int p1)] [])) t → Steps p.tables e below (s₁.setTop (entryFrame m #[(.int p1)] 1)) t := fun t k => castTop (ef_2 m p1) k


  obtain ⟨fs, hr, hrun, hended, hW, hsame⟩ := X0.leave (v := some (.int (1 : Int32))) (fun h => by rw [Bd.returns] at h; cases h)
  refine ⟨_, _, pre0 _ ?_, hrun, hended, _, _, rfl, ?_, ⟨_, rfl⟩, hW, hsame.mono (by decide) (by decide)⟩

  · show Steps p.tables e below (s₁.setTop (mkF m 0 #[.val (.int p1)] [])) _
    refine XS.iloadN X0.here hx rfl (hb hby d2_0) rfl ?_
    show Steps p.tables e below (s₁.setTop (mkF m 1 #[.val (.int p1)] [(.int p1)])) _
    refine XS.bipush X0.here hx rfl (hb hby d2_1) ?_
    show Steps p.tables e below (s₁.setTop (mkF m 3 #[.val (.int p1)] [(.int (65 : Int32)), (.int p1)])) _
    refine XS.icmpYes X0.here hx rfl (pc0 := 3) (pc' := 14) rfl (hb hby d2_3) rfl (tlt hc3).1 (by decide) (by decide) ?_
    show Steps p.tables e below (s₁.setTop (mkF m 14 #[.val (.int p1)] [])) _
    refine XS.iloadN X0.here hx rfl (hb hby d2_14) rfl ?_
    show Steps p.tables e below (s₁.setTop (mkF m 15 #[.val (.int p1)] [(.int p1)])) _
    refine XS.bipush X0.here hx rfl (hb hby d2_15) ?_
    show Steps p.tables e below (s₁.setTop (mkF m 17 #[.val (.int p1)] [(.int (97 : Int32)), (.int p1)])) _
    refine XS.icmpYes X0.here hx rfl (pc0 := 17) (pc' := 28) rfl (hb hby d2_17) rfl (tlt hc17).1 (by decide) (by decide) ?_
    show Steps p.tables e below (s₁.setTop (mkF m 28 #[.val (.int p1)] [])) _
    refine XS.iloadN X0.here hx rfl (hb hby d2_28) rfl ?_
    show Steps p.tables e below (s₁.setTop (mkF m 29 #[.val (.int p1)] [(.int p1)])) _
    refine XS.bipush X0.here hx rfl (hb hby d2_29) ?_
    show Steps p.tables e below (s₁.setTop (mkF m 31 #[.val (.int p1)] [(.int (48 : Int32)), (.int p1)])) _
    refine XS.icmpYes X0.here hx rfl (pc0 := 31) (pc' := 42) rfl (hb hby d2_31) rfl (tlt hc31).1 (by decide) (by decide) ?_
    show Steps p.tables e below (s₁.setTop (mkF m 42 #[.val (.int p1)] [])) _
    refine XS.iloadN X0.here hx rfl (hb hby d2_42) rfl ?_
    show Steps p.tables e below (s₁.setTop (mkF m 43 #[.val (.int p1)] [(.int p1)])) _
    refine XS.bipush X0.here hx rfl (hb hby d2_43) ?_
    show Steps p.tables e below (s₁.setTop (mkF m 45 #[.val (.int p1)] [(.int (45 : Int32)), (.int p1)])) _
    refine XS.icmpYes X0.here hx rfl (pc0 := 45) (pc' := 66) rfl (hb hby d2_45) rfl (teq hc45).1 (by decide) (by decide) ?_
    show Steps p.tables e below (s₁.setTop (mkF m 66 #[.val (.int p1)] [])) _
    refine XS.iconst X0.here hx rfl (hb hby d2_66) ?_
    show Steps p.tables e below (s₁.setTop (mkF m 67 #[.val (.int p1)] [(.int (1 : Int32))])) _
    exact retN X0 hx (t := .boolean) Bd.returns (by simp) (hb hby d2_67) hr
  · show Q2_dash Z p1 h0 n0 _ s₁.heap _
    rw [e0]
    exact ⟨rfl, N0, rfl⟩
theorem d2_48 : decode method_2_code 48 = .ok (.iload_n 0, 1) := by decide +kernel
theorem d2_49 : decode method_2_code 49 = .ok (.bipush 95, 2) := by decide +kernel
theorem d2_51 : decode method_2_code 51 = .ok (.if_icmp .eq 15, 3) := by decide +kernel
theorem d2_54 : decode method_2_code 54 = .ok (.iload_n 0, 1) := by decide +kernel
theorem d2_55 : decode method_2_code 55 = .ok (.bipush 46, 2) := by decide +kernel
theorem d2_57 : decode method_2_code 57 = .ok (.if_icmp .eq 9, 3) := by decide +kernel
def Q2_dot (Z : State) (p1 : Int32) (h0 : Heap) (n0 : Nat) (v : Option Value) (h : Heap) (L : List Loc) : Prop := v = some (.int (1 : Int32)) ∧ Fr n0 L ∧ h = h0
set_option maxRecDepth 65536 in
set_option maxHeartbeats 40000000 in
theorem rm2_dot (l : Launch) (Z : State) (a0 : Array Value) (hw : ∀ d ∈ tables_1, d.before a0 Z = true) (ws : List Jvm.Cond) (p1 : Int32) (h0 : Heap) (n0 : Nat) (Z0 : n0 ≤ h0.size) (hc3 : p1 < (65 : Int32)) (hc17 : p1 < (97 : Int32)) (hc31 : p1 < (48 : Int32)) (hc45 : ¬ (p1 = (45 : Int32))) (hc51 : ¬ (p1 = (95 : Int32))) (hc57 : p1 = (46 : Int32)) :
    MetFree l (⟨"com/example/countersign/countersign/util/PercentCodingIsUnreservedPinLaw", "expected", "(C)Z"⟩ : MethodName) (head1 (Jvm.Cond.code (⟨"com/example/countersign/countersign/util/PercentCodingIsUnreservedPinLaw", "expected", "(C)Z"⟩ : MethodName) method_2_code 1 (some .boolean) :: ws) ({ frames := 0, cells := 0, slots := 0, locals := 0 } : Room)) (fun a U => a = #[(.int p1)] ∧ Z.Warmed39 U.vm ∧ U.heap = h0) (fun _ _ _ _ _ => True) (fun _ U o U' => ∃ v L, o = .returned v ∧ Q2_dot Z p1 h0 n0 v U'.heap L ∧ FrameEnd U o U' L ({ frames := 0, cells := 0, slots := 0, locals := 0 } : Room).cells ({ frames := 0, cells := 0, slots := 0, locals := 0 } : Room).slots) := by
  refine MetFree.of_bodySF (plainFor_of_name pn_2) hisR ?_
  intro p e s m args below meth c s₁ Bd hml0 hP hK
  obtain ⟨rfl, hZ, hh⟩ := hP
  have hx := Bd.exec
  have hby := Bd.bytes
  have hml : c.maxLocals = 1 := hml0
  have hown : s.vm.findClass "com/example/countersign/countersign/util/PercentCodingIsUnreservedPinLaw" = some m.cls := findClass_of_methodNamed Bd.named
  have hnm := (name_of_methodNamed Bd.named Bd.method).1
  have X0 : Stand p l e ({ frames := 0, cells := 0, slots := 0, locals := 0 } : Room) s m #[(.int p1)] below meth c s₁ [] 0 0 := Stand.of_body Bd
  have e0 : s₁.heap = h0 := by rw [← hh, Bd.state]; rfl
  have N0 := Fr.nil n0
  have pre0 : ∀ t, Steps p.tables e below (s₁.setTop (mkF m 0 #[.val (.int p1)] [])) t → Steps p.tables e below (s₁.setTop (entryFrame m #[(.int p1)] 1)) t := fun t k => castTop (ef_2 m p1) k


  obtain ⟨fs, hr, hrun, hended, hW, hsame⟩ := X0.leave (v := some (.int (1 : Int32))) (fun h => by rw [Bd.returns] at h; cases h)
  refine ⟨_, _, pre0 _ ?_, hrun, hended, _, _, rfl, ?_, ⟨_, rfl⟩, hW, hsame.mono (by decide) (by decide)⟩

  · show Steps p.tables e below (s₁.setTop (mkF m 0 #[.val (.int p1)] [])) _
    refine XS.iloadN X0.here hx rfl (hb hby d2_0) rfl ?_
    show Steps p.tables e below (s₁.setTop (mkF m 1 #[.val (.int p1)] [(.int p1)])) _
    refine XS.bipush X0.here hx rfl (hb hby d2_1) ?_
    show Steps p.tables e below (s₁.setTop (mkF m 3 #[.val (.int p1)] [(.int (65 : Int32)), (.int p1)])) _
    refine XS.icmpYes X0.here hx rfl (pc0 := 3) (pc' := 14) rfl (hb hby d2_3) rfl (tlt hc3).1 (by decide) (by decide) ?_
    show Steps p.tables e below (s₁.setTop (mkF m 14 #[.val (.int p1)] [])) _
    refine XS.iloadN X0.here hx rfl (hb hby d2_14) rfl ?_
    show Steps p.tables e below (s₁.setTop (mkF m 15 #[.val (.int p1)] [(.int p1)])) _
    refine XS.bipush X0.here hx rfl (hb hby d2_15) ?_
    show Steps p.tables e below (s₁.setTop (mkF m 17 #[.val (.int p1)] [(.int (97 : Int32)), (.int p1)])) _
    refine XS.icmpYes X0.here hx rfl (pc0 := 17) (pc' := 28) rfl (hb hby d2_17) rfl (tlt hc17).1 (by decide) (by decide) ?_
    show Steps p.tables e below (s₁.setTop (mkF m 28 #[.val (.int p1)] [])) _
    refine XS.iloadN X0.here hx rfl (hb hby d2_28) rfl ?_
    show Steps p.tables e below (s₁.setTop (mkF m 29 #[.val (.int p1)] [(.int p1)])) _
    refine XS.bipush X0.here hx rfl (hb hby d2_29) ?_
    show Steps p.tables e below (s₁.setTop (mkF m 31 #[.val (.int p1)] [(.int (48 : Int32)), (.int p1)])) _
    refine XS.icmpYes X0.here hx rfl (pc0 := 31) (pc' := 42) rfl (hb hby d2_31) rfl (tlt hc31).1 (by decide) (by decide) ?_
    show Steps p.tables e below (s₁.setTop (mkF m 42 #[.val (.int p1)] [])) _
    refine XS.iloadN X0.here hx rfl (hb hby d2_42) rfl ?_
    show Steps p.tables e below (s₁.setTop (mkF m 43 #[.val (.int p1)] [(.int p1)])) _
    refine XS.bipush X0.here hx rfl (hb hby d2_43) ?_
    show Steps p.tables e below (s₁.setTop (mkF m 45 #[.val (.int p1)] [(.int (45 : Int32)), (.int p1)])) _
    refine XS.icmpNo X0.here hx rfl (hb hby d2_45) rfl (feq hc45).1 ?_
    show Steps p.tables e below (s₁.setTop (mkF m 48 #[.val (.int p1)] [])) _
    refine XS.iloadN X0.here hx rfl (hb hby d2_48) rfl ?_
    show Steps p.tables e below (s₁.setTop (mkF m 49 #[.val (.int p1)] [(.int p1)])) _
    refine XS.bipush X0.here hx rfl (hb hby d2_49) ?_
    show Steps p.tables e below (s₁.setTop (mkF m 51 #[.val (.int p1)] [(.int (95 : Int32)), (.int p1)])) _
    refine XS.icmpNo X0.here hx rfl (hb hby d2_51) rfl (feq hc51).1 ?_
    show Steps p.tables e below (s₁.setTop (mkF m 54 #[.val (.int p1)] [])) _
    refine XS.iloadN X0.here hx rfl (hb hby d2_54) rfl ?_
    show Steps p.tables e below (s₁.setTop (mkF m 55 #[.val (.int p1)] [(.int p1)])) _
    refine XS.bipush X0.here hx rfl (hb hby d2_55) ?_
    show Steps p.tables e below (s₁.setTop (mkF m 57 #[.val (.int p1)] [(.int (46 : Int32)), (.int p1)])) _
    refine XS.icmpYes X0.here hx rfl (pc0 := 57) (pc' := 66) rfl (hb hby d2_57) rfl (teq hc57).1 (by decide) (by decide) ?_
    show Steps p.tables e below (s₁.setTop (mkF m 66 #[.val (.int p1)] [])) _
    refine XS.iconst X0.here hx rfl (hb hby d2_66) ?_
    show Steps p.tables e below (s₁.setTop (mkF m 67 #[.val (.int p1)] [(.int (1 : Int32))])) _
    exact retN X0 hx (t := .boolean) Bd.returns (by simp) (hb hby d2_67) hr
  · show Q2_dot Z p1 h0 n0 _ s₁.heap _
    rw [e0]
    exact ⟨rfl, N0, rfl⟩
def Q2_und (Z : State) (p1 : Int32) (h0 : Heap) (n0 : Nat) (v : Option Value) (h : Heap) (L : List Loc) : Prop := v = some (.int (1 : Int32)) ∧ Fr n0 L ∧ h = h0
set_option maxRecDepth 65536 in
set_option maxHeartbeats 40000000 in
theorem rm2_und (l : Launch) (Z : State) (a0 : Array Value) (hw : ∀ d ∈ tables_1, d.before a0 Z = true) (ws : List Jvm.Cond) (p1 : Int32) (h0 : Heap) (n0 : Nat) (Z0 : n0 ≤ h0.size) (hc3 : ¬ (p1 < (65 : Int32))) (hc9 : (90 : Int32) < p1) (hc17 : p1 < (97 : Int32)) (hc31 : ¬ (p1 < (48 : Int32))) (hc37 : (57 : Int32) < p1) (hc45 : ¬ (p1 = (45 : Int32))) (hc51 : p1 = (95 : Int32)) :
    MetFree l (⟨"com/example/countersign/countersign/util/PercentCodingIsUnreservedPinLaw", "expected", "(C)Z"⟩ : MethodName) (head1 (Jvm.Cond.code (⟨"com/example/countersign/countersign/util/PercentCodingIsUnreservedPinLaw", "expected", "(C)Z"⟩ : MethodName) method_2_code 1 (some .boolean) :: ws) ({ frames := 0, cells := 0, slots := 0, locals := 0 } : Room)) (fun a U => a = #[(.int p1)] ∧ Z.Warmed39 U.vm ∧ U.heap = h0) (fun _ _ _ _ _ => True) (fun _ U o U' => ∃ v L, o = .returned v ∧ Q2_und Z p1 h0 n0 v U'.heap L ∧ FrameEnd U o U' L ({ frames := 0, cells := 0, slots := 0, locals := 0 } : Room).cells ({ frames := 0, cells := 0, slots := 0, locals := 0 } : Room).slots) := by
  refine MetFree.of_bodySF (plainFor_of_name pn_2) hisR ?_
  intro p e s m args below meth c s₁ Bd hml0 hP hK
  obtain ⟨rfl, hZ, hh⟩ := hP
  have hx := Bd.exec
  have hby := Bd.bytes
  have hml : c.maxLocals = 1 := hml0
  have hown : s.vm.findClass "com/example/countersign/countersign/util/PercentCodingIsUnreservedPinLaw" = some m.cls := findClass_of_methodNamed Bd.named
  have hnm := (name_of_methodNamed Bd.named Bd.method).1
  have X0 : Stand p l e ({ frames := 0, cells := 0, slots := 0, locals := 0 } : Room) s m #[(.int p1)] below meth c s₁ [] 0 0 := Stand.of_body Bd
  have e0 : s₁.heap = h0 := by rw [← hh, Bd.state]; rfl
  have N0 := Fr.nil n0
  have pre0 : ∀ t, Steps p.tables e below (s₁.setTop (mkF m 0 #[.val (.int p1)] [])) t → Steps p.tables e below (s₁.setTop (entryFrame m #[(.int p1)] 1)) t := fun t k => castTop (ef_2 m p1) k


  obtain ⟨fs, hr, hrun, hended, hW, hsame⟩ := X0.leave (v := some (.int (1 : Int32))) (fun h => by rw [Bd.returns] at h; cases h)
  refine ⟨_, _, pre0 _ ?_, hrun, hended, _, _, rfl, ?_, ⟨_, rfl⟩, hW, hsame.mono (by decide) (by decide)⟩

  · show Steps p.tables e below (s₁.setTop (mkF m 0 #[.val (.int p1)] [])) _
    refine XS.iloadN X0.here hx rfl (hb hby d2_0) rfl ?_
    show Steps p.tables e below (s₁.setTop (mkF m 1 #[.val (.int p1)] [(.int p1)])) _
    refine XS.bipush X0.here hx rfl (hb hby d2_1) ?_
    show Steps p.tables e below (s₁.setTop (mkF m 3 #[.val (.int p1)] [(.int (65 : Int32)), (.int p1)])) _
    refine XS.icmpNo X0.here hx rfl (hb hby d2_3) rfl (flt hc3).1 ?_
    show Steps p.tables e below (s₁.setTop (mkF m 6 #[.val (.int p1)] [])) _
    refine XS.iloadN X0.here hx rfl (hb hby d2_6) rfl ?_
    show Steps p.tables e below (s₁.setTop (mkF m 7 #[.val (.int p1)] [(.int p1)])) _
    refine XS.bipush X0.here hx rfl (hb hby d2_7) ?_
    show Steps p.tables e below (s₁.setTop (mkF m 9 #[.val (.int p1)] [(.int (90 : Int32)), (.int p1)])) _
    refine XS.icmpYes X0.here hx rfl (pc0 := 9) (pc' := 14) rfl (hb hby d2_9) rfl (tlt hc9).2.2.1 (by decide) (by decide) ?_
    show Steps p.tables e below (s₁.setTop (mkF m 14 #[.val (.int p1)] [])) _
    refine XS.iloadN X0.here hx rfl (hb hby d2_14) rfl ?_
    show Steps p.tables e below (s₁.setTop (mkF m 15 #[.val (.int p1)] [(.int p1)])) _
    refine XS.bipush X0.here hx rfl (hb hby d2_15) ?_
    show Steps p.tables e below (s₁.setTop (mkF m 17 #[.val (.int p1)] [(.int (97 : Int32)), (.int p1)])) _
    refine XS.icmpYes X0.here hx rfl (pc0 := 17) (pc' := 28) rfl (hb hby d2_17) rfl (tlt hc17).1 (by decide) (by decide) ?_
    show Steps p.tables e below (s₁.setTop (mkF m 28 #[.val (.int p1)] [])) _
    refine XS.iloadN X0.here hx rfl (hb hby d2_28) rfl ?_
    show Steps p.tables e below (s₁.setTop (mkF m 29 #[.val (.int p1)] [(.int p1)])) _
    refine XS.bipush X0.here hx rfl (hb hby d2_29) ?_
    show Steps p.tables e below (s₁.setTop (mkF m 31 #[.val (.int p1)] [(.int (48 : Int32)), (.int p1)])) _
    refine XS.icmpNo X0.here hx rfl (hb hby d2_31) rfl (flt hc31).1 ?_
    show Steps p.tables e below (s₁.setTop (mkF m 34 #[.val (.int p1)] [])) _
    refine XS.iloadN X0.here hx rfl (hb hby d2_34) rfl ?_
    show Steps p.tables e below (s₁.setTop (mkF m 35 #[.val (.int p1)] [(.int p1)])) _
    refine XS.bipush X0.here hx rfl (hb hby d2_35) ?_
    show Steps p.tables e below (s₁.setTop (mkF m 37 #[.val (.int p1)] [(.int (57 : Int32)), (.int p1)])) _
    refine XS.icmpYes X0.here hx rfl (pc0 := 37) (pc' := 42) rfl (hb hby d2_37) rfl (tlt hc37).2.2.1 (by decide) (by decide) ?_
    show Steps p.tables e below (s₁.setTop (mkF m 42 #[.val (.int p1)] [])) _
    refine XS.iloadN X0.here hx rfl (hb hby d2_42) rfl ?_
    show Steps p.tables e below (s₁.setTop (mkF m 43 #[.val (.int p1)] [(.int p1)])) _
    refine XS.bipush X0.here hx rfl (hb hby d2_43) ?_
    show Steps p.tables e below (s₁.setTop (mkF m 45 #[.val (.int p1)] [(.int (45 : Int32)), (.int p1)])) _
    refine XS.icmpNo X0.here hx rfl (hb hby d2_45) rfl (feq hc45).1 ?_
    show Steps p.tables e below (s₁.setTop (mkF m 48 #[.val (.int p1)] [])) _
    refine XS.iloadN X0.here hx rfl (hb hby d2_48) rfl ?_
    show Steps p.tables e below (s₁.setTop (mkF m 49 #[.val (.int p1)] [(.int p1)])) _
    refine XS.bipush X0.here hx rfl (hb hby d2_49) ?_
    show Steps p.tables e below (s₁.setTop (mkF m 51 #[.val (.int p1)] [(.int (95 : Int32)), (.int p1)])) _
    refine XS.icmpYes X0.here hx rfl (pc0 := 51) (pc' := 66) rfl (hb hby d2_51) rfl (teq hc51).1 (by decide) (by decide) ?_
    show Steps p.tables e below (s₁.setTop (mkF m 66 #[.val (.int p1)] [])) _
    refine XS.iconst X0.here hx rfl (hb hby d2_66) ?_
    show Steps p.tables e below (s₁.setTop (mkF m 67 #[.val (.int p1)] [(.int (1 : Int32))])) _
    exact retN X0 hx (t := .boolean) Bd.returns (by simp) (hb hby d2_67) hr
  · show Q2_und Z p1 h0 n0 _ s₁.heap _
    rw [e0]
    exact ⟨rfl, N0, rfl⟩
theorem d2_60 : decode method_2_code 60 = .ok (.iload_n 0, 1) := by decide +kernel
theorem d2_61 : decode method_2_code 61 = .ok (.bipush 126, 2) := by decide +kernel
theorem d2_63 : decode method_2_code 63 = .ok (.if_icmp .ne 5, 3) := by decide +kernel
def Q2_til (Z : State) (p1 : Int32) (h0 : Heap) (n0 : Nat) (v : Option Value) (h : Heap) (L : List Loc) : Prop := v = some (.int (1 : Int32)) ∧ Fr n0 L ∧ h = h0
set_option maxRecDepth 65536 in
set_option maxHeartbeats 40000000 in
theorem rm2_til (l : Launch) (Z : State) (a0 : Array Value) (hw : ∀ d ∈ tables_1, d.before a0 Z = true) (ws : List Jvm.Cond) (p1 : Int32) (h0 : Heap) (n0 : Nat) (Z0 : n0 ≤ h0.size) (hc3 : ¬ (p1 < (65 : Int32))) (hc9 : (90 : Int32) < p1) (hc17 : ¬ (p1 < (97 : Int32))) (hc23 : (122 : Int32) < p1) (hc31 : ¬ (p1 < (48 : Int32))) (hc37 : (57 : Int32) < p1) (hc45 : ¬ (p1 = (45 : Int32))) (hc51 : ¬ (p1 = (95 : Int32))) (hc57 : ¬ (p1 = (46 : Int32))) (hc63 : p1 = (126 : Int32)) :
    MetFree l (⟨"com/example/countersign/countersign/util/PercentCodingIsUnreservedPinLaw", "expected", "(C)Z"⟩ : MethodName) (head1 (Jvm.Cond.code (⟨"com/example/countersign/countersign/util/PercentCodingIsUnreservedPinLaw", "expected", "(C)Z"⟩ : MethodName) method_2_code 1 (some .boolean) :: ws) ({ frames := 0, cells := 0, slots := 0, locals := 0 } : Room)) (fun a U => a = #[(.int p1)] ∧ Z.Warmed39 U.vm ∧ U.heap = h0) (fun _ _ _ _ _ => True) (fun _ U o U' => ∃ v L, o = .returned v ∧ Q2_til Z p1 h0 n0 v U'.heap L ∧ FrameEnd U o U' L ({ frames := 0, cells := 0, slots := 0, locals := 0 } : Room).cells ({ frames := 0, cells := 0, slots := 0, locals := 0 } : Room).slots) := by
  refine MetFree.of_bodySF (plainFor_of_name pn_2) hisR ?_
  intro p e s m args below meth c s₁ Bd hml0 hP hK
  obtain ⟨rfl, hZ, hh⟩ := hP
  have hx := Bd.exec
  have hby := Bd.bytes
  have hml : c.maxLocals = 1 := hml0
  have hown : s.vm.findClass "com/example/countersign/countersign/util/PercentCodingIsUnreservedPinLaw" = some m.cls := findClass_of_methodNamed Bd.named
  have hnm := (name_of_methodNamed Bd.named Bd.method).1
  have X0 : Stand p l e ({ frames := 0, cells := 0, slots := 0, locals := 0 } : Room) s m #[(.int p1)] below meth c s₁ [] 0 0 := Stand.of_body Bd
  have e0 : s₁.heap = h0 := by rw [← hh, Bd.state]; rfl
  have N0 := Fr.nil n0
  have pre0 : ∀ t, Steps p.tables e below (s₁.setTop (mkF m 0 #[.val (.int p1)] [])) t → Steps p.tables e below (s₁.setTop (entryFrame m #[(.int p1)] 1)) t := fun t k => castTop (ef_2 m p1) k


  obtain ⟨fs, hr, hrun, hended, hW, hsame⟩ := X0.leave (v := some (.int (1 : Int32))) (fun h => by rw [Bd.returns] at h; cases h)
  refine ⟨_, _, pre0 _ ?_, hrun, hended, _, _, rfl, ?_, ⟨_, rfl⟩, hW, hsame.mono (by decide) (by decide)⟩

  · show Steps p.tables e below (s₁.setTop (mkF m 0 #[.val (.int p1)] [])) _
    refine XS.iloadN X0.here hx rfl (hb hby d2_0) rfl ?_
    show Steps p.tables e below (s₁.setTop (mkF m 1 #[.val (.int p1)] [(.int p1)])) _
    refine XS.bipush X0.here hx rfl (hb hby d2_1) ?_
    show Steps p.tables e below (s₁.setTop (mkF m 3 #[.val (.int p1)] [(.int (65 : Int32)), (.int p1)])) _
    refine XS.icmpNo X0.here hx rfl (hb hby d2_3) rfl (flt hc3).1 ?_
    show Steps p.tables e below (s₁.setTop (mkF m 6 #[.val (.int p1)] [])) _
    refine XS.iloadN X0.here hx rfl (hb hby d2_6) rfl ?_
    show Steps p.tables e below (s₁.setTop (mkF m 7 #[.val (.int p1)] [(.int p1)])) _
    refine XS.bipush X0.here hx rfl (hb hby d2_7) ?_
    show Steps p.tables e below (s₁.setTop (mkF m 9 #[.val (.int p1)] [(.int (90 : Int32)), (.int p1)])) _
    refine XS.icmpYes X0.here hx rfl (pc0 := 9) (pc' := 14) rfl (hb hby d2_9) rfl (tlt hc9).2.2.1 (by decide) (by decide) ?_
    show Steps p.tables e below (s₁.setTop (mkF m 14 #[.val (.int p1)] [])) _
    refine XS.iloadN X0.here hx rfl (hb hby d2_14) rfl ?_
    show Steps p.tables e below (s₁.setTop (mkF m 15 #[.val (.int p1)] [(.int p1)])) _
    refine XS.bipush X0.here hx rfl (hb hby d2_15) ?_
    show Steps p.tables e below (s₁.setTop (mkF m 17 #[.val (.int p1)] [(.int (97 : Int32)), (.int p1)])) _
    refine XS.icmpNo X0.here hx rfl (hb hby d2_17) rfl (flt hc17).1 ?_
    show Steps p.tables e below (s₁.setTop (mkF m 20 #[.val (.int p1)] [])) _
    refine XS.iloadN X0.here hx rfl (hb hby d2_20) rfl ?_
    show Steps p.tables e below (s₁.setTop (mkF m 21 #[.val (.int p1)] [(.int p1)])) _
    refine XS.bipush X0.here hx rfl (hb hby d2_21) ?_
    show Steps p.tables e below (s₁.setTop (mkF m 23 #[.val (.int p1)] [(.int (122 : Int32)), (.int p1)])) _
    refine XS.icmpYes X0.here hx rfl (pc0 := 23) (pc' := 28) rfl (hb hby d2_23) rfl (tlt hc23).2.2.1 (by decide) (by decide) ?_
    show Steps p.tables e below (s₁.setTop (mkF m 28 #[.val (.int p1)] [])) _
    refine XS.iloadN X0.here hx rfl (hb hby d2_28) rfl ?_
    show Steps p.tables e below (s₁.setTop (mkF m 29 #[.val (.int p1)] [(.int p1)])) _
    refine XS.bipush X0.here hx rfl (hb hby d2_29) ?_
    show Steps p.tables e below (s₁.setTop (mkF m 31 #[.val (.int p1)] [(.int (48 : Int32)), (.int p1)])) _
    refine XS.icmpNo X0.here hx rfl (hb hby d2_31) rfl (flt hc31).1 ?_
    show Steps p.tables e below (s₁.setTop (mkF m 34 #[.val (.int p1)] [])) _
    refine XS.iloadN X0.here hx rfl (hb hby d2_34) rfl ?_
    show Steps p.tables e below (s₁.setTop (mkF m 35 #[.val (.int p1)] [(.int p1)])) _
    refine XS.bipush X0.here hx rfl (hb hby d2_35) ?_
    show Steps p.tables e below (s₁.setTop (mkF m 37 #[.val (.int p1)] [(.int (57 : Int32)), (.int p1)])) _
    refine XS.icmpYes X0.here hx rfl (pc0 := 37) (pc' := 42) rfl (hb hby d2_37) rfl (tlt hc37).2.2.1 (by decide) (by decide) ?_
    show Steps p.tables e below (s₁.setTop (mkF m 42 #[.val (.int p1)] [])) _
    refine XS.iloadN X0.here hx rfl (hb hby d2_42) rfl ?_
    show Steps p.tables e below (s₁.setTop (mkF m 43 #[.val (.int p1)] [(.int p1)])) _
    refine XS.bipush X0.here hx rfl (hb hby d2_43) ?_
    show Steps p.tables e below (s₁.setTop (mkF m 45 #[.val (.int p1)] [(.int (45 : Int32)), (.int p1)])) _
    refine XS.icmpNo X0.here hx rfl (hb hby d2_45) rfl (feq hc45).1 ?_
    show Steps p.tables e below (s₁.setTop (mkF m 48 #[.val (.int p1)] [])) _
    refine XS.iloadN X0.here hx rfl (hb hby d2_48) rfl ?_
    show Steps p.tables e below (s₁.setTop (mkF m 49 #[.val (.int p1)] [(.int p1)])) _
    refine XS.bipush X0.here hx rfl (hb hby d2_49) ?_
    show Steps p.tables e below (s₁.setTop (mkF m 51 #[.val (.int p1)] [(.int (95 : Int32)), (.int p1)])) _
    refine XS.icmpNo X0.here hx rfl (hb hby d2_51) rfl (feq hc51).1 ?_
    show Steps p.tables e below (s₁.setTop (mkF m 54 #[.val (.int p1)] [])) _
    refine XS.iloadN X0.here hx rfl (hb hby d2_54) rfl ?_
    show Steps p.tables e below (s₁.setTop (mkF m 55 #[.val (.int p1)] [(.int p1)])) _
    refine XS.bipush X0.here hx rfl (hb hby d2_55) ?_
    show Steps p.tables e below (s₁.setTop (mkF m 57 #[.val (.int p1)] [(.int (46 : Int32)), (.int p1)])) _
    refine XS.icmpNo X0.here hx rfl (hb hby d2_57) rfl (feq hc57).1 ?_
    show Steps p.tables e below (s₁.setTop (mkF m 60 #[.val (.int p1)] [])) _
    refine XS.iloadN X0.here hx rfl (hb hby d2_60) rfl ?_
    show Steps p.tables e below (s₁.setTop (mkF m 61 #[.val (.int p1)] [(.int p1)])) _
    refine XS.bipush X0.here hx rfl (hb hby d2_61) ?_
    show Steps p.tables e below (s₁.setTop (mkF m 63 #[.val (.int p1)] [(.int (126 : Int32)), (.int p1)])) _
    refine XS.icmpNo X0.here hx rfl (hb hby d2_63) rfl (teq hc63).2 ?_
    show Steps p.tables e below (s₁.setTop (mkF m 66 #[.val (.int p1)] [])) _
    refine XS.iconst X0.here hx rfl (hb hby d2_66) ?_
    show Steps p.tables e below (s₁.setTop (mkF m 67 #[.val (.int p1)] [(.int (1 : Int32))])) _
    exact retN X0 hx (t := .boolean) Bd.returns (by simp) (hb hby d2_67) hr
  · show Q2_til Z p1 h0 n0 _ s₁.heap _
    rw [e0]
    exact ⟨rfl, N0, rfl⟩
theorem d2_68 : decode method_2_code 68 = .ok (.iconst 0, 1) := by decide +kernel
theorem d2_69 : decode method_2_code 69 = .ok (.ireturn, 1) := by decide +kernel
def Q2_x1 (Z : State) (p1 : Int32) (h0 : Heap) (n0 : Nat) (v : Option Value) (h : Heap) (L : List Loc) : Prop := v = some (.int (0 : Int32)) ∧ Fr n0 L ∧ h = h0
set_option maxRecDepth 65536 in
set_option maxHeartbeats 40000000 in
theorem rm2_x1 (l : Launch) (Z : State) (a0 : Array Value) (hw : ∀ d ∈ tables_1, d.before a0 Z = true) (ws : List Jvm.Cond) (p1 : Int32) (h0 : Heap) (n0 : Nat) (Z0 : n0 ≤ h0.size) (hc3 : p1 < (65 : Int32)) (hc17 : p1 < (97 : Int32)) (hc31 : p1 < (48 : Int32)) (hc45 : ¬ (p1 = (45 : Int32))) (hc51 : ¬ (p1 = (95 : Int32))) (hc57 : ¬ (p1 = (46 : Int32))) (hc63 : ¬ (p1 = (126 : Int32))) :
    MetFree l (⟨"com/example/countersign/countersign/util/PercentCodingIsUnreservedPinLaw", "expected", "(C)Z"⟩ : MethodName) (head1 (Jvm.Cond.code (⟨"com/example/countersign/countersign/util/PercentCodingIsUnreservedPinLaw", "expected", "(C)Z"⟩ : MethodName) method_2_code 1 (some .boolean) :: ws) ({ frames := 0, cells := 0, slots := 0, locals := 0 } : Room)) (fun a U => a = #[(.int p1)] ∧ Z.Warmed39 U.vm ∧ U.heap = h0) (fun _ _ _ _ _ => True) (fun _ U o U' => ∃ v L, o = .returned v ∧ Q2_x1 Z p1 h0 n0 v U'.heap L ∧ FrameEnd U o U' L ({ frames := 0, cells := 0, slots := 0, locals := 0 } : Room).cells ({ frames := 0, cells := 0, slots := 0, locals := 0 } : Room).slots) := by
  refine MetFree.of_bodySF (plainFor_of_name pn_2) hisR ?_
  intro p e s m args below meth c s₁ Bd hml0 hP hK
  obtain ⟨rfl, hZ, hh⟩ := hP
  have hx := Bd.exec
  have hby := Bd.bytes
  have hml : c.maxLocals = 1 := hml0
  have hown : s.vm.findClass "com/example/countersign/countersign/util/PercentCodingIsUnreservedPinLaw" = some m.cls := findClass_of_methodNamed Bd.named
  have hnm := (name_of_methodNamed Bd.named Bd.method).1
  have X0 : Stand p l e ({ frames := 0, cells := 0, slots := 0, locals := 0 } : Room) s m #[(.int p1)] below meth c s₁ [] 0 0 := Stand.of_body Bd
  have e0 : s₁.heap = h0 := by rw [← hh, Bd.state]; rfl
  have N0 := Fr.nil n0
  have pre0 : ∀ t, Steps p.tables e below (s₁.setTop (mkF m 0 #[.val (.int p1)] [])) t → Steps p.tables e below (s₁.setTop (entryFrame m #[(.int p1)] 1)) t := fun t k => castTop (ef_2 m p1) k


  obtain ⟨fs, hr, hrun, hended, hW, hsame⟩ := X0.leave (v := some (.int (0 : Int32))) (fun h => by rw [Bd.returns] at h; cases h)
  refine ⟨_, _, pre0 _ ?_, hrun, hended, _, _, rfl, ?_, ⟨_, rfl⟩, hW, hsame.mono (by decide) (by decide)⟩

  · show Steps p.tables e below (s₁.setTop (mkF m 0 #[.val (.int p1)] [])) _
    refine XS.iloadN X0.here hx rfl (hb hby d2_0) rfl ?_
    show Steps p.tables e below (s₁.setTop (mkF m 1 #[.val (.int p1)] [(.int p1)])) _
    refine XS.bipush X0.here hx rfl (hb hby d2_1) ?_
    show Steps p.tables e below (s₁.setTop (mkF m 3 #[.val (.int p1)] [(.int (65 : Int32)), (.int p1)])) _
    refine XS.icmpYes X0.here hx rfl (pc0 := 3) (pc' := 14) rfl (hb hby d2_3) rfl (tlt hc3).1 (by decide) (by decide) ?_
    show Steps p.tables e below (s₁.setTop (mkF m 14 #[.val (.int p1)] [])) _
    refine XS.iloadN X0.here hx rfl (hb hby d2_14) rfl ?_
    show Steps p.tables e below (s₁.setTop (mkF m 15 #[.val (.int p1)] [(.int p1)])) _
    refine XS.bipush X0.here hx rfl (hb hby d2_15) ?_
    show Steps p.tables e below (s₁.setTop (mkF m 17 #[.val (.int p1)] [(.int (97 : Int32)), (.int p1)])) _
    refine XS.icmpYes X0.here hx rfl (pc0 := 17) (pc' := 28) rfl (hb hby d2_17) rfl (tlt hc17).1 (by decide) (by decide) ?_
    show Steps p.tables e below (s₁.setTop (mkF m 28 #[.val (.int p1)] [])) _
    refine XS.iloadN X0.here hx rfl (hb hby d2_28) rfl ?_
    show Steps p.tables e below (s₁.setTop (mkF m 29 #[.val (.int p1)] [(.int p1)])) _
    refine XS.bipush X0.here hx rfl (hb hby d2_29) ?_
    show Steps p.tables e below (s₁.setTop (mkF m 31 #[.val (.int p1)] [(.int (48 : Int32)), (.int p1)])) _
    refine XS.icmpYes X0.here hx rfl (pc0 := 31) (pc' := 42) rfl (hb hby d2_31) rfl (tlt hc31).1 (by decide) (by decide) ?_
    show Steps p.tables e below (s₁.setTop (mkF m 42 #[.val (.int p1)] [])) _
    refine XS.iloadN X0.here hx rfl (hb hby d2_42) rfl ?_
    show Steps p.tables e below (s₁.setTop (mkF m 43 #[.val (.int p1)] [(.int p1)])) _
    refine XS.bipush X0.here hx rfl (hb hby d2_43) ?_
    show Steps p.tables e below (s₁.setTop (mkF m 45 #[.val (.int p1)] [(.int (45 : Int32)), (.int p1)])) _
    refine XS.icmpNo X0.here hx rfl (hb hby d2_45) rfl (feq hc45).1 ?_
    show Steps p.tables e below (s₁.setTop (mkF m 48 #[.val (.int p1)] [])) _
    refine XS.iloadN X0.here hx rfl (hb hby d2_48) rfl ?_
    show Steps p.tables e below (s₁.setTop (mkF m 49 #[.val (.int p1)] [(.int p1)])) _
    refine XS.bipush X0.here hx rfl (hb hby d2_49) ?_
    show Steps p.tables e below (s₁.setTop (mkF m 51 #[.val (.int p1)] [(.int (95 : Int32)), (.int p1)])) _
    refine XS.icmpNo X0.here hx rfl (hb hby d2_51) rfl (feq hc51).1 ?_
    show Steps p.tables e below (s₁.setTop (mkF m 54 #[.val (.int p1)] [])) _
    refine XS.iloadN X0.here hx rfl (hb hby d2_54) rfl ?_
    show Steps p.tables e below (s₁.setTop (mkF m 55 #[.val (.int p1)] [(.int p1)])) _
    refine XS.bipush X0.here hx rfl (hb hby d2_55) ?_
    show Steps p.tables e below (s₁.setTop (mkF m 57 #[.val (.int p1)] [(.int (46 : Int32)), (.int p1)])) _
    refine XS.icmpNo X0.here hx rfl (hb hby d2_57) rfl (feq hc57).1 ?_
    show Steps p.tables e below (s₁.setTop (mkF m 60 #[.val (.int p1)] [])) _
    refine XS.iloadN X0.here hx rfl (hb hby d2_60) rfl ?_
    show Steps p.tables e below (s₁.setTop (mkF m 61 #[.val (.int p1)] [(.int p1)])) _
    refine XS.bipush X0.here hx rfl (hb hby d2_61) ?_
    show Steps p.tables e below (s₁.setTop (mkF m 63 #[.val (.int p1)] [(.int (126 : Int32)), (.int p1)])) _
    refine XS.icmpYes X0.here hx rfl (pc0 := 63) (pc' := 68) rfl (hb hby d2_63) rfl (feq hc63).2 (by decide) (by decide) ?_
    show Steps p.tables e below (s₁.setTop (mkF m 68 #[.val (.int p1)] [])) _
    refine XS.iconst X0.here hx rfl (hb hby d2_68) ?_
    show Steps p.tables e below (s₁.setTop (mkF m 69 #[.val (.int p1)] [(.int (0 : Int32))])) _
    exact retN X0 hx (t := .boolean) Bd.returns (by simp) (hb hby d2_69) hr
  · show Q2_x1 Z p1 h0 n0 _ s₁.heap _
    rw [e0]
    exact ⟨rfl, N0, rfl⟩
def Q2_x2 (Z : State) (p1 : Int32) (h0 : Heap) (n0 : Nat) (v : Option Value) (h : Heap) (L : List Loc) : Prop := v = some (.int (0 : Int32)) ∧ Fr n0 L ∧ h = h0
set_option maxRecDepth 65536 in
set_option maxHeartbeats 40000000 in
theorem rm2_x2 (l : Launch) (Z : State) (a0 : Array Value) (hw : ∀ d ∈ tables_1, d.before a0 Z = true) (ws : List Jvm.Cond) (p1 : Int32) (h0 : Heap) (n0 : Nat) (Z0 : n0 ≤ h0.size) (hc3 : p1 < (65 : Int32)) (hc17 : p1 < (97 : Int32)) (hc31 : ¬ (p1 < (48 : Int32))) (hc37 : (57 : Int32) < p1) (hc45 : ¬ (p1 = (45 : Int32))) (hc51 : ¬ (p1 = (95 : Int32))) (hc57 : ¬ (p1 = (46 : Int32))) (hc63 : ¬ (p1 = (126 : Int32))) :
    MetFree l (⟨"com/example/countersign/countersign/util/PercentCodingIsUnreservedPinLaw", "expected", "(C)Z"⟩ : MethodName) (head1 (Jvm.Cond.code (⟨"com/example/countersign/countersign/util/PercentCodingIsUnreservedPinLaw", "expected", "(C)Z"⟩ : MethodName) method_2_code 1 (some .boolean) :: ws) ({ frames := 0, cells := 0, slots := 0, locals := 0 } : Room)) (fun a U => a = #[(.int p1)] ∧ Z.Warmed39 U.vm ∧ U.heap = h0) (fun _ _ _ _ _ => True) (fun _ U o U' => ∃ v L, o = .returned v ∧ Q2_x2 Z p1 h0 n0 v U'.heap L ∧ FrameEnd U o U' L ({ frames := 0, cells := 0, slots := 0, locals := 0 } : Room).cells ({ frames := 0, cells := 0, slots := 0, locals := 0 } : Room).slots) := by
  refine MetFree.of_bodySF (plainFor_of_name pn_2) hisR ?_
  intro p e s m args below meth c s₁ Bd hml0 hP hK
  obtain ⟨rfl, hZ, hh⟩ := hP
  have hx := Bd.exec
  have hby := Bd.bytes
  have hml : c.maxLocals = 1 := hml0
  have hown : s.vm.findClass "com/example/countersign/countersign/util/PercentCodingIsUnreservedPinLaw" = some m.cls := findClass_of_methodNamed Bd.named
  have hnm := (name_of_methodNamed Bd.named Bd.method).1
  have X0 : Stand p l e ({ frames := 0, cells := 0, slots := 0, locals := 0 } : Room) s m #[(.int p1)] below meth c s₁ [] 0 0 := Stand.of_body Bd
  have e0 : s₁.heap = h0 := by rw [← hh, Bd.state]; rfl
  have N0 := Fr.nil n0
  have pre0 : ∀ t, Steps p.tables e below (s₁.setTop (mkF m 0 #[.val (.int p1)] [])) t → Steps p.tables e below (s₁.setTop (entryFrame m #[(.int p1)] 1)) t := fun t k => castTop (ef_2 m p1) k


  obtain ⟨fs, hr, hrun, hended, hW, hsame⟩ := X0.leave (v := some (.int (0 : Int32))) (fun h => by rw [Bd.returns] at h; cases h)
  refine ⟨_, _, pre0 _ ?_, hrun, hended, _, _, rfl, ?_, ⟨_, rfl⟩, hW, hsame.mono (by decide) (by decide)⟩

  · show Steps p.tables e below (s₁.setTop (mkF m 0 #[.val (.int p1)] [])) _
    refine XS.iloadN X0.here hx rfl (hb hby d2_0) rfl ?_
    show Steps p.tables e below (s₁.setTop (mkF m 1 #[.val (.int p1)] [(.int p1)])) _
    refine XS.bipush X0.here hx rfl (hb hby d2_1) ?_
    show Steps p.tables e below (s₁.setTop (mkF m 3 #[.val (.int p1)] [(.int (65 : Int32)), (.int p1)])) _
    refine XS.icmpYes X0.here hx rfl (pc0 := 3) (pc' := 14) rfl (hb hby d2_3) rfl (tlt hc3).1 (by decide) (by decide) ?_
    show Steps p.tables e below (s₁.setTop (mkF m 14 #[.val (.int p1)] [])) _
    refine XS.iloadN X0.here hx rfl (hb hby d2_14) rfl ?_
    show Steps p.tables e below (s₁.setTop (mkF m 15 #[.val (.int p1)] [(.int p1)])) _
    refine XS.bipush X0.here hx rfl (hb hby d2_15) ?_
    show Steps p.tables e below (s₁.setTop (mkF m 17 #[.val (.int p1)] [(.int (97 : Int32)), (.int p1)])) _
    refine XS.icmpYes X0.here hx rfl (pc0 := 17) (pc' := 28) rfl (hb hby d2_17) rfl (tlt hc17).1 (by decide) (by decide) ?_
    show Steps p.tables e below (s₁.setTop (mkF m 28 #[.val (.int p1)] [])) _
    refine XS.iloadN X0.here hx rfl (hb hby d2_28) rfl ?_
    show Steps p.tables e below (s₁.setTop (mkF m 29 #[.val (.int p1)] [(.int p1)])) _
    refine XS.bipush X0.here hx rfl (hb hby d2_29) ?_
    show Steps p.tables e below (s₁.setTop (mkF m 31 #[.val (.int p1)] [(.int (48 : Int32)), (.int p1)])) _
    refine XS.icmpNo X0.here hx rfl (hb hby d2_31) rfl (flt hc31).1 ?_
    show Steps p.tables e below (s₁.setTop (mkF m 34 #[.val (.int p1)] [])) _
    refine XS.iloadN X0.here hx rfl (hb hby d2_34) rfl ?_
    show Steps p.tables e below (s₁.setTop (mkF m 35 #[.val (.int p1)] [(.int p1)])) _
    refine XS.bipush X0.here hx rfl (hb hby d2_35) ?_
    show Steps p.tables e below (s₁.setTop (mkF m 37 #[.val (.int p1)] [(.int (57 : Int32)), (.int p1)])) _
    refine XS.icmpYes X0.here hx rfl (pc0 := 37) (pc' := 42) rfl (hb hby d2_37) rfl (tlt hc37).2.2.1 (by decide) (by decide) ?_
    show Steps p.tables e below (s₁.setTop (mkF m 42 #[.val (.int p1)] [])) _
    refine XS.iloadN X0.here hx rfl (hb hby d2_42) rfl ?_
    show Steps p.tables e below (s₁.setTop (mkF m 43 #[.val (.int p1)] [(.int p1)])) _
    refine XS.bipush X0.here hx rfl (hb hby d2_43) ?_
    show Steps p.tables e below (s₁.setTop (mkF m 45 #[.val (.int p1)] [(.int (45 : Int32)), (.int p1)])) _
    refine XS.icmpNo X0.here hx rfl (hb hby d2_45) rfl (feq hc45).1 ?_
    show Steps p.tables e below (s₁.setTop (mkF m 48 #[.val (.int p1)] [])) _
    refine XS.iloadN X0.here hx rfl (hb hby d2_48) rfl ?_
    show Steps p.tables e below (s₁.setTop (mkF m 49 #[.val (.int p1)] [(.int p1)])) _
    refine XS.bipush X0.here hx rfl (hb hby d2_49) ?_
    show Steps p.tables e below (s₁.setTop (mkF m 51 #[.val (.int p1)] [(.int (95 : Int32)), (.int p1)])) _
    refine XS.icmpNo X0.here hx rfl (hb hby d2_51) rfl (feq hc51).1 ?_
    show Steps p.tables e below (s₁.setTop (mkF m 54 #[.val (.int p1)] [])) _
    refine XS.iloadN X0.here hx rfl (hb hby d2_54) rfl ?_
    show Steps p.tables e below (s₁.setTop (mkF m 55 #[.val (.int p1)] [(.int p1)])) _
    refine XS.bipush X0.here hx rfl (hb hby d2_55) ?_
    show Steps p.tables e below (s₁.setTop (mkF m 57 #[.val (.int p1)] [(.int (46 : Int32)), (.int p1)])) _
    refine XS.icmpNo X0.here hx rfl (hb hby d2_57) rfl (feq hc57).1 ?_
    show Steps p.tables e below (s₁.setTop (mkF m 60 #[.val (.int p1)] [])) _
    refine XS.iloadN X0.here hx rfl (hb hby d2_60) rfl ?_
    show Steps p.tables e below (s₁.setTop (mkF m 61 #[.val (.int p1)] [(.int p1)])) _
    refine XS.bipush X0.here hx rfl (hb hby d2_61) ?_
    show Steps p.tables e below (s₁.setTop (mkF m 63 #[.val (.int p1)] [(.int (126 : Int32)), (.int p1)])) _
    refine XS.icmpYes X0.here hx rfl (pc0 := 63) (pc' := 68) rfl (hb hby d2_63) rfl (feq hc63).2 (by decide) (by decide) ?_
    show Steps p.tables e below (s₁.setTop (mkF m 68 #[.val (.int p1)] [])) _
    refine XS.iconst X0.here hx rfl (hb hby d2_68) ?_
    show Steps p.tables e below (s₁.setTop (mkF m 69 #[.val (.int p1)] [(.int (0 : Int32))])) _
    exact retN X0 hx (t := .boolean) Bd.returns (by simp) (hb hby d2_69) hr
  · show Q2_x2 Z p1 h0 n0 _ s₁.heap _
    rw [e0]
    exact ⟨rfl, N0, rfl⟩
def Q2_x3 (Z : State) (p1 : Int32) (h0 : Heap) (n0 : Nat) (v : Option Value) (h : Heap) (L : List Loc) : Prop := v = some (.int (0 : Int32)) ∧ Fr n0 L ∧ h = h0
set_option maxRecDepth 65536 in
set_option maxHeartbeats 40000000 in
theorem rm2_x3 (l : Launch) (Z : State) (a0 : Array Value) (hw : ∀ d ∈ tables_1, d.before a0 Z = true) (ws : List Jvm.Cond) (p1 : Int32) (h0 : Heap) (n0 : Nat) (Z0 : n0 ≤ h0.size) (hc3 : ¬ (p1 < (65 : Int32))) (hc9 : (90 : Int32) < p1) (hc17 : p1 < (97 : Int32)) (hc31 : ¬ (p1 < (48 : Int32))) (hc37 : (57 : Int32) < p1) (hc45 : ¬ (p1 = (45 : Int32))) (hc51 : ¬ (p1 = (95 : Int32))) (hc57 : ¬ (p1 = (46 : Int32))) (hc63 : ¬ (p1 = (126 : Int32))) :
    MetFree l (⟨"com/example/countersign/countersign/util/PercentCodingIsUnreservedPinLaw", "expected", "(C)Z"⟩ : MethodName) (head1 (Jvm.Cond.code (⟨"com/example/countersign/countersign/util/PercentCodingIsUnreservedPinLaw", "expected", "(C)Z"⟩ : MethodName) method_2_code 1 (some .boolean) :: ws) ({ frames := 0, cells := 0, slots := 0, locals := 0 } : Room)) (fun a U => a = #[(.int p1)] ∧ Z.Warmed39 U.vm ∧ U.heap = h0) (fun _ _ _ _ _ => True) (fun _ U o U' => ∃ v L, o = .returned v ∧ Q2_x3 Z p1 h0 n0 v U'.heap L ∧ FrameEnd U o U' L ({ frames := 0, cells := 0, slots := 0, locals := 0 } : Room).cells ({ frames := 0, cells := 0, slots := 0, locals := 0 } : Room).slots) := by
  refine MetFree.of_bodySF (plainFor_of_name pn_2) hisR ?_
  intro p e s m args below meth c s₁ Bd hml0 hP hK
  obtain ⟨rfl, hZ, hh⟩ := hP
  have hx := Bd.exec
  have hby := Bd.bytes
  have hml : c.maxLocals = 1 := hml0
  have hown : s.vm.findClass "com/example/countersign/countersign/util/PercentCodingIsUnreservedPinLaw" = some m.cls := findClass_of_methodNamed Bd.named
  have hnm := (name_of_methodNamed Bd.named Bd.method).1
  have X0 : Stand p l e ({ frames := 0, cells := 0, slots := 0, locals := 0 } : Room) s m #[(.int p1)] below meth c s₁ [] 0 0 := Stand.of_body Bd
  have e0 : s₁.heap = h0 := by rw [← hh, Bd.state]; rfl
  have N0 := Fr.nil n0
  have pre0 : ∀ t, Steps p.tables e below (s₁.setTop (mkF m 0 #[.val (.int p1)] [])) t → Steps p.tables e below (s₁.setTop (entryFrame m #[(.int p1)] 1)) t := fun t k => castTop (ef_2 m p1) k


  obtain ⟨fs, hr, hrun, hended, hW, hsame⟩ := X0.leave (v := some (.int (0 : Int32))) (fun h => by rw [Bd.returns] at h; cases h)
  refine ⟨_, _, pre0 _ ?_, hrun, hended, _, _, rfl, ?_, ⟨_, rfl⟩, hW, hsame.mono (by decide) (by decide)⟩

  · show Steps p.tables e below (s₁.setTop (mkF m 0 #[.val (.int p1)] [])) _
    refine XS.iloadN X0.here hx rfl (hb hby d2_0) rfl ?_
    show Steps p.tables e below (s₁.setTop (mkF m 1 #[.val (.int p1)] [(.int p1)])) _
    refine XS.bipush X0.here hx rfl (hb hby d2_1) ?_
    show Steps p.tables e below (s₁.setTop (mkF m 3 #[.val (.int p1)] [(.int (65 : Int32)), (.int p1)])) _
    refine XS.icmpNo X0.here hx rfl (hb hby d2_3) rfl (flt hc3).1 ?_
    show Steps p.tables e below (s₁.setTop (mkF m 6 #[.val (.int p1)] [])) _
    refine XS.iloadN X0.here hx rfl (hb hby d2_6) rfl ?_
    show Steps p.tables e below (s₁.setTop (mkF m 7 #[.val (.int p1)] [(.int p1)])) _
    refine XS.bipush X0.here hx rfl (hb hby d2_7) ?_
    show Steps p.tables e below (s₁.setTop (mkF m 9 #[.val (.int p1)] [(.int (90 : Int32)), (.int p1)])) _
    refine XS.icmpYes X0.here hx rfl (pc0 := 9) (pc' := 14) rfl (hb hby d2_9) rfl (tlt hc9).2.2.1 (by decide) (by decide) ?_
    show Steps p.tables e below (s₁.setTop (mkF m 14 #[.val (.int p1)] [])) _
    refine XS.iloadN X0.here hx rfl (hb hby d2_14) rfl ?_
    show Steps p.tables e below (s₁.setTop (mkF m 15 #[.val (.int p1)] [(.int p1)])) _
    refine XS.bipush X0.here hx rfl (hb hby d2_15) ?_
    show Steps p.tables e below (s₁.setTop (mkF m 17 #[.val (.int p1)] [(.int (97 : Int32)), (.int p1)])) _
    refine XS.icmpYes X0.here hx rfl (pc0 := 17) (pc' := 28) rfl (hb hby d2_17) rfl (tlt hc17).1 (by decide) (by decide) ?_
    show Steps p.tables e below (s₁.setTop (mkF m 28 #[.val (.int p1)] [])) _
    refine XS.iloadN X0.here hx rfl (hb hby d2_28) rfl ?_
    show Steps p.tables e below (s₁.setTop (mkF m 29 #[.val (.int p1)] [(.int p1)])) _
    refine XS.bipush X0.here hx rfl (hb hby d2_29) ?_
    show Steps p.tables e below (s₁.setTop (mkF m 31 #[.val (.int p1)] [(.int (48 : Int32)), (.int p1)])) _
    refine XS.icmpNo X0.here hx rfl (hb hby d2_31) rfl (flt hc31).1 ?_
    show Steps p.tables e below (s₁.setTop (mkF m 34 #[.val (.int p1)] [])) _
    refine XS.iloadN X0.here hx rfl (hb hby d2_34) rfl ?_
    show Steps p.tables e below (s₁.setTop (mkF m 35 #[.val (.int p1)] [(.int p1)])) _
    refine XS.bipush X0.here hx rfl (hb hby d2_35) ?_
    show Steps p.tables e below (s₁.setTop (mkF m 37 #[.val (.int p1)] [(.int (57 : Int32)), (.int p1)])) _
    refine XS.icmpYes X0.here hx rfl (pc0 := 37) (pc' := 42) rfl (hb hby d2_37) rfl (tlt hc37).2.2.1 (by decide) (by decide) ?_
    show Steps p.tables e below (s₁.setTop (mkF m 42 #[.val (.int p1)] [])) _
    refine XS.iloadN X0.here hx rfl (hb hby d2_42) rfl ?_
    show Steps p.tables e below (s₁.setTop (mkF m 43 #[.val (.int p1)] [(.int p1)])) _
    refine XS.bipush X0.here hx rfl (hb hby d2_43) ?_
    show Steps p.tables e below (s₁.setTop (mkF m 45 #[.val (.int p1)] [(.int (45 : Int32)), (.int p1)])) _
    refine XS.icmpNo X0.here hx rfl (hb hby d2_45) rfl (feq hc45).1 ?_
    show Steps p.tables e below (s₁.setTop (mkF m 48 #[.val (.int p1)] [])) _
    refine XS.iloadN X0.here hx rfl (hb hby d2_48) rfl ?_
    show Steps p.tables e below (s₁.setTop (mkF m 49 #[.val (.int p1)] [(.int p1)])) _
    refine XS.bipush X0.here hx rfl (hb hby d2_49) ?_
    show Steps p.tables e below (s₁.setTop (mkF m 51 #[.val (.int p1)] [(.int (95 : Int32)), (.int p1)])) _
    refine XS.icmpNo X0.here hx rfl (hb hby d2_51) rfl (feq hc51).1 ?_
    show Steps p.tables e below (s₁.setTop (mkF m 54 #[.val (.int p1)] [])) _
    refine XS.iloadN X0.here hx rfl (hb hby d2_54) rfl ?_
    show Steps p.tables e below (s₁.setTop (mkF m 55 #[.val (.int p1)] [(.int p1)])) _
    refine XS.bipush X0.here hx rfl (hb hby d2_55) ?_
    show Steps p.tables e below (s₁.setTop (mkF m 57 #[.val (.int p1)] [(.int (46 : Int32)), (.int p1)])) _
    refine XS.icmpNo X0.here hx rfl (hb hby d2_57) rfl (feq hc57).1 ?_
    show Steps p.tables e below (s₁.setTop (mkF m 60 #[.val (.int p1)] [])) _
    refine XS.iloadN X0.here hx rfl (hb hby d2_60) rfl ?_
    show Steps p.tables e below (s₁.setTop (mkF m 61 #[.val (.int p1)] [(.int p1)])) _
    refine XS.bipush X0.here hx rfl (hb hby d2_61) ?_
    show Steps p.tables e below (s₁.setTop (mkF m 63 #[.val (.int p1)] [(.int (126 : Int32)), (.int p1)])) _
    refine XS.icmpYes X0.here hx rfl (pc0 := 63) (pc' := 68) rfl (hb hby d2_63) rfl (feq hc63).2 (by decide) (by decide) ?_
    show Steps p.tables e below (s₁.setTop (mkF m 68 #[.val (.int p1)] [])) _
    refine XS.iconst X0.here hx rfl (hb hby d2_68) ?_
    show Steps p.tables e below (s₁.setTop (mkF m 69 #[.val (.int p1)] [(.int (0 : Int32))])) _
    exact retN X0 hx (t := .boolean) Bd.returns (by simp) (hb hby d2_69) hr
  · show Q2_x3 Z p1 h0 n0 _ s₁.heap _
    rw [e0]
    exact ⟨rfl, N0, rfl⟩
def Q2_x4 (Z : State) (p1 : Int32) (h0 : Heap) (n0 : Nat) (v : Option Value) (h : Heap) (L : List Loc) : Prop := v = some (.int (0 : Int32)) ∧ Fr n0 L ∧ h = h0
set_option maxRecDepth 65536 in
set_option maxHeartbeats 40000000 in
theorem rm2_x4 (l : Launch) (Z : State) (a0 : Array Value) (hw : ∀ d ∈ tables_1, d.before a0 Z = true) (ws : List Jvm.Cond) (p1 : Int32) (h0 : Heap) (n0 : Nat) (Z0 : n0 ≤ h0.size) (hc3 : ¬ (p1 < (65 : Int32))) (hc9 : (90 : Int32) < p1) (hc17 : ¬ (p1 < (97 : Int32))) (hc23 : (122 : Int32) < p1) (hc31 : ¬ (p1 < (48 : Int32))) (hc37 : (57 : Int32) < p1) (hc45 : ¬ (p1 = (45 : Int32))) (hc51 : ¬ (p1 = (95 : Int32))) (hc57 : ¬ (p1 = (46 : Int32))) (hc63 : ¬ (p1 = (126 : Int32))) :
    MetFree l (⟨"com/example/countersign/countersign/util/PercentCodingIsUnreservedPinLaw", "expected", "(C)Z"⟩ : MethodName) (head1 (Jvm.Cond.code (⟨"com/example/countersign/countersign/util/PercentCodingIsUnreservedPinLaw", "expected", "(C)Z"⟩ : MethodName) method_2_code 1 (some .boolean) :: ws) ({ frames := 0, cells := 0, slots := 0, locals := 0 } : Room)) (fun a U => a = #[(.int p1)] ∧ Z.Warmed39 U.vm ∧ U.heap = h0) (fun _ _ _ _ _ => True) (fun _ U o U' => ∃ v L, o = .returned v ∧ Q2_x4 Z p1 h0 n0 v U'.heap L ∧ FrameEnd U o U' L ({ frames := 0, cells := 0, slots := 0, locals := 0 } : Room).cells ({ frames := 0, cells := 0, slots := 0, locals := 0 } : Room).slots) := by
  refine MetFree.of_bodySF (plainFor_of_name pn_2) hisR ?_
  intro p e s m args below meth c s₁ Bd hml0 hP hK
  obtain ⟨rfl, hZ, hh⟩ := hP
  have hx := Bd.exec
  have hby := Bd.bytes
  have hml : c.maxLocals = 1 := hml0
  have hown : s.vm.findClass "com/example/countersign/countersign/util/PercentCodingIsUnreservedPinLaw" = some m.cls := findClass_of_methodNamed Bd.named
  have hnm := (name_of_methodNamed Bd.named Bd.method).1
  have X0 : Stand p l e ({ frames := 0, cells := 0, slots := 0, locals := 0 } : Room) s m #[(.int p1)] below meth c s₁ [] 0 0 := Stand.of_body Bd
  have e0 : s₁.heap = h0 := by rw [← hh, Bd.state]; rfl
  have N0 := Fr.nil n0
  have pre0 : ∀ t, Steps p.tables e below (s₁.setTop (mkF m 0 #[.val (.int p1)] [])) t → Steps p.tables e below (s₁.setTop (entryFrame m #[(.int p1)] 1)) t := fun t k => castTop (ef_2 m p1) k


  obtain ⟨fs, hr, hrun, hended, hW, hsame⟩ := X0.leave (v := some (.int (0 : Int32))) (fun h => by rw [Bd.returns] at h; cases h)
  refine ⟨_, _, pre0 _ ?_, hrun, hended, _, _, rfl, ?_, ⟨_, rfl⟩, hW, hsame.mono (by decide) (by decide)⟩

  · show Steps p.tables e below (s₁.setTop (mkF m 0 #[.val (.int p1)] [])) _
    refine XS.iloadN X0.here hx rfl (hb hby d2_0) rfl ?_
    show Steps p.tables e below (s₁.setTop (mkF m 1 #[.val (.int p1)] [(.int p1)])) _
    refine XS.bipush X0.here hx rfl (hb hby d2_1) ?_
    show Steps p.tables e below (s₁.setTop (mkF m 3 #[.val (.int p1)] [(.int (65 : Int32)), (.int p1)])) _
    refine XS.icmpNo X0.here hx rfl (hb hby d2_3) rfl (flt hc3).1 ?_
    show Steps p.tables e below (s₁.setTop (mkF m 6 #[.val (.int p1)] [])) _
    refine XS.iloadN X0.here hx rfl (hb hby d2_6) rfl ?_
    show Steps p.tables e below (s₁.setTop (mkF m 7 #[.val (.int p1)] [(.int p1)])) _
    refine XS.bipush X0.here hx rfl (hb hby d2_7) ?_
    show Steps p.tables e below (s₁.setTop (mkF m 9 #[.val (.int p1)] [(.int (90 : Int32)), (.int p1)])) _
    refine XS.icmpYes X0.here hx rfl (pc0 := 9) (pc' := 14) rfl (hb hby d2_9) rfl (tlt hc9).2.2.1 (by decide) (by decide) ?_
    show Steps p.tables e below (s₁.setTop (mkF m 14 #[.val (.int p1)] [])) _
    refine XS.iloadN X0.here hx rfl (hb hby d2_14) rfl ?_
    show Steps p.tables e below (s₁.setTop (mkF m 15 #[.val (.int p1)] [(.int p1)])) _
    refine XS.bipush X0.here hx rfl (hb hby d2_15) ?_
    show Steps p.tables e below (s₁.setTop (mkF m 17 #[.val (.int p1)] [(.int (97 : Int32)), (.int p1)])) _
    refine XS.icmpNo X0.here hx rfl (hb hby d2_17) rfl (flt hc17).1 ?_
    show Steps p.tables e below (s₁.setTop (mkF m 20 #[.val (.int p1)] [])) _
    refine XS.iloadN X0.here hx rfl (hb hby d2_20) rfl ?_
    show Steps p.tables e below (s₁.setTop (mkF m 21 #[.val (.int p1)] [(.int p1)])) _
    refine XS.bipush X0.here hx rfl (hb hby d2_21) ?_
    show Steps p.tables e below (s₁.setTop (mkF m 23 #[.val (.int p1)] [(.int (122 : Int32)), (.int p1)])) _
    refine XS.icmpYes X0.here hx rfl (pc0 := 23) (pc' := 28) rfl (hb hby d2_23) rfl (tlt hc23).2.2.1 (by decide) (by decide) ?_
    show Steps p.tables e below (s₁.setTop (mkF m 28 #[.val (.int p1)] [])) _
    refine XS.iloadN X0.here hx rfl (hb hby d2_28) rfl ?_
    show Steps p.tables e below (s₁.setTop (mkF m 29 #[.val (.int p1)] [(.int p1)])) _
    refine XS.bipush X0.here hx rfl (hb hby d2_29) ?_
    show Steps p.tables e below (s₁.setTop (mkF m 31 #[.val (.int p1)] [(.int (48 : Int32)), (.int p1)])) _
    refine XS.icmpNo X0.here hx rfl (hb hby d2_31) rfl (flt hc31).1 ?_
    show Steps p.tables e below (s₁.setTop (mkF m 34 #[.val (.int p1)] [])) _
    refine XS.iloadN X0.here hx rfl (hb hby d2_34) rfl ?_
    show Steps p.tables e below (s₁.setTop (mkF m 35 #[.val (.int p1)] [(.int p1)])) _
    refine XS.bipush X0.here hx rfl (hb hby d2_35) ?_
    show Steps p.tables e below (s₁.setTop (mkF m 37 #[.val (.int p1)] [(.int (57 : Int32)), (.int p1)])) _
    refine XS.icmpYes X0.here hx rfl (pc0 := 37) (pc' := 42) rfl (hb hby d2_37) rfl (tlt hc37).2.2.1 (by decide) (by decide) ?_
    show Steps p.tables e below (s₁.setTop (mkF m 42 #[.val (.int p1)] [])) _
    refine XS.iloadN X0.here hx rfl (hb hby d2_42) rfl ?_
    show Steps p.tables e below (s₁.setTop (mkF m 43 #[.val (.int p1)] [(.int p1)])) _
    refine XS.bipush X0.here hx rfl (hb hby d2_43) ?_
    show Steps p.tables e below (s₁.setTop (mkF m 45 #[.val (.int p1)] [(.int (45 : Int32)), (.int p1)])) _
    refine XS.icmpNo X0.here hx rfl (hb hby d2_45) rfl (feq hc45).1 ?_
    show Steps p.tables e below (s₁.setTop (mkF m 48 #[.val (.int p1)] [])) _
    refine XS.iloadN X0.here hx rfl (hb hby d2_48) rfl ?_
    show Steps p.tables e below (s₁.setTop (mkF m 49 #[.val (.int p1)] [(.int p1)])) _
    refine XS.bipush X0.here hx rfl (hb hby d2_49) ?_
    show Steps p.tables e below (s₁.setTop (mkF m 51 #[.val (.int p1)] [(.int (95 : Int32)), (.int p1)])) _
    refine XS.icmpNo X0.here hx rfl (hb hby d2_51) rfl (feq hc51).1 ?_
    show Steps p.tables e below (s₁.setTop (mkF m 54 #[.val (.int p1)] [])) _
    refine XS.iloadN X0.here hx rfl (hb hby d2_54) rfl ?_
    show Steps p.tables e below (s₁.setTop (mkF m 55 #[.val (.int p1)] [(.int p1)])) _
    refine XS.bipush X0.here hx rfl (hb hby d2_55) ?_
    show Steps p.tables e below (s₁.setTop (mkF m 57 #[.val (.int p1)] [(.int (46 : Int32)), (.int p1)])) _
    refine XS.icmpNo X0.here hx rfl (hb hby d2_57) rfl (feq hc57).1 ?_
    show Steps p.tables e below (s₁.setTop (mkF m 60 #[.val (.int p1)] [])) _
    refine XS.iloadN X0.here hx rfl (hb hby d2_60) rfl ?_
    show Steps p.tables e below (s₁.setTop (mkF m 61 #[.val (.int p1)] [(.int p1)])) _
    refine XS.bipush X0.here hx rfl (hb hby d2_61) ?_
    show Steps p.tables e below (s₁.setTop (mkF m 63 #[.val (.int p1)] [(.int (126 : Int32)), (.int p1)])) _
    refine XS.icmpYes X0.here hx rfl (pc0 := 63) (pc' := 68) rfl (hb hby d2_63) rfl (feq hc63).2 (by decide) (by decide) ?_
    show Steps p.tables e below (s₁.setTop (mkF m 68 #[.val (.int p1)] [])) _
    refine XS.iconst X0.here hx rfl (hb hby d2_68) ?_
    show Steps p.tables e below (s₁.setTop (mkF m 69 #[.val (.int p1)] [(.int (0 : Int32))])) _
    exact retN X0 hx (t := .boolean) Bd.returns (by simp) (hb hby d2_69) hr
  · show Q2_x4 Z p1 h0 n0 _ s₁.heap _
    rw [e0]
    exact ⟨rfl, N0, rfl⟩
theorem pn_0 : plainName "com/example/countersign/countersign/util/PercentCodingIsUnreservedPinLaw" = true := by first | (simp [plainName, overriddenIn]; done) | decide +kernel
theorem pd_0_0 : parseMethodDescriptor "(C)Z" = some ⟨[.char], some .boolean⟩ := by decide +kernel
theorem ef_0 (m : MethodId) (x0 : Int32) : entryFrame m #[(.int x0)] maxLocals = mkF m 0 #[.val (.int x0), .unset] [] := by first | (simp [entryFrame, mkF, argsToLocals, Value.category, maxLocals]; done) | rfl
def Q0_a (Z : State) (p1 : Int32) (r2 : Int32) (r3 : Int32) (h0 : Heap) (n0 : Nat) (v : Option Value) (h : Heap) (L : List Loc) : Prop := v = some (.int (1 : Int32)) ∧ Fr n0 L
set_option maxRecDepth 65536 in
set_option maxHeartbeats 40000000 in
theorem rm0_a (l : Launch) (Z : State) (a0 : Array Value) (hw : ∀ d ∈ tables_1, d.before a0 Z = true) (ws : List Jvm.Cond) (p1 : Int32) (r2 : Int32) (r3 : Int32) (h0 : Heap) (n0 : Nat) (Z0 : n0 ≤ h0.size) (hM2 : Ret l Z h0 n0 (⟨"com/example/countersign/countersign/util/PercentCoding", "isUnreserved", "(C)Z"⟩ : MethodName) prog_66_method_12_code 1 (some .boolean) ({ frames := 0, cells := 0, slots := 0, locals := 0 } : Room) #[(.int (p1.toUInt32.toUInt16.toUInt32.toInt32))] (.int r2)) (hM3 : Ret l Z h0 n0 (⟨"com/example/countersign/countersign/util/PercentCodingIsUnreservedPinLaw", "expected", "(C)Z"⟩ : MethodName) method_2_code 1 (some .boolean) ({ frames := 0, cells := 0, slots := 0, locals := 0 } : Room) #[(.int (p1.toUInt32.toUInt16.toUInt32.toInt32))] (.int r3)) (hc11 : r2 = r3) :
    MetFree l x (head1 (Jvm.Cond.code x code maxLocals ret :: ws) room_1) (fun a U => a = #[(.int p1)] ∧ Z.Warmed39 U.vm ∧ U.heap = h0) (fun _ _ _ _ _ => True) (fun _ U o U' => ∃ v L, o = .returned v ∧ Q0_a Z p1 r2 r3 h0 n0 v U'.heap L ∧ FrameEnd U o U' L room_1.cells room_1.slots) := by
  refine MetFree.of_bodySF (plainFor_of_name pn_0) hisR ?_
  intro p e s m args below meth c s₁ Bd hml0 hP hK
  obtain ⟨rfl, hZ, hh⟩ := hP
  have hx := Bd.exec
  have hby := Bd.bytes
  have hml : c.maxLocals = 2 := hml0
  have hown : s.vm.findClass "com/example/countersign/countersign/util/PercentCodingIsUnreservedPinLaw" = some m.cls := findClass_of_methodNamed Bd.named
  have hnm := (name_of_methodNamed Bd.named Bd.method).1
  have X0 : Stand p l e room_1 s m #[(.int p1)] below meth c s₁ [] 0 0 := Stand.of_body Bd
  have e0 : s₁.heap = h0 := by rw [← hh, Bd.state]; rfl
  have N0 := Fr.nil n0
  have pre0 : ∀ t, Steps p.tables e below (s₁.setTop (mkF m 0 #[.val (.int p1), .unset] [])) t → Steps p.tables e below (s₁.setTop (entryFrame m #[(.int p1)] maxLocals)) t := fun t k => castTop (ef_0 m p1) k


  obtain ⟨_, _, ⟨T2, L2, k2, n2⟩, -, X2, ⟨Lc2, hQ2, l2, y2, z2⟩, st2⟩ := Jvm.LawKit.callS X0 hx (y := (⟨"com/example/countersign/countersign/util/PercentCoding", "isUnreserved", "(C)Z"⟩ : MethodName)) hown (mvT hZ (hw _ (List.mem_of_getElem? (i := 0) rfl))) (mvT hZ (hw _ (List.mem_of_getElem? (i := 1) rfl))) (mvT hZ (hw _ (List.mem_of_getElem? (i := 2) rfl))) (mvT hZ (hw _ (List.mem_of_getElem? (i := 3) rfl))) (by decide) (backOf (W := 0) hM2 hZ (hw _ (List.mem_of_getElem? (i := 3) rfl)) (hw _ (List.mem_of_getElem? (i := 2) rfl)) (by decide) (by decide)) (g := (mkF m 4 #[.val (.int p1), .val (.int (p1.toUInt32.toUInt16.toUInt32.toInt32))] [(.int (p1.toUInt32.toUInt16.toUInt32.toInt32))])) rfl (by rw [hml]; rfl) (argsL := [(.int (p1.toUInt32.toUInt16.toUInt32.toInt32))]) (rest := []) (lenOf pd_0_0 rfl) rfl (by show 2 * 0 + _ ≤ _; exact Nat.le_of_eq rfl) (hb hby at_4) (fun _ _ => ⟨rfl, e0, (by decide : 0 + 0 ≤ _), (by decide : 0 + 0 ≤ _)⟩)
  dsimp only [Pt.U, Pt.locs, Pt.cells, Pt.slots] at X2 l2 y2 z2 st2 hQ2
  subst l2 y2 z2
  obtain ⟨rfl, N2q, eQ2⟩ := hQ2
  have N2 := Fr.app N0 N2q

  obtain ⟨_, _, ⟨T3, L3, k3, n3⟩, -, X3, ⟨Lc3, hQ3, l3, y3, z3⟩, st3⟩ := Jvm.LawKit.callS X2 hx (y := (⟨"com/example/countersign/countersign/util/PercentCodingIsUnreservedPinLaw", "expected", "(C)Z"⟩ : MethodName)) hown (mvT hZ (hw _ (List.mem_of_getElem? (i := 6) rfl))) (mvT hZ (hw _ (List.mem_of_getElem? (i := 7) rfl))) (mvT hZ (hw _ (List.mem_of_getElem? (i := 8) rfl))) (mvT hZ (hw _ (List.mem_of_getElem? (i := 9) rfl))) (by decide) (backOf (W := 1) hM3 hZ (hw _ (List.mem_of_getElem? (i := 9) rfl)) (hw _ (List.mem_of_getElem? (i := 8) rfl)) (by decide) (by decide)) (g := (mkF m 8 #[.val (.int p1), .val (.int (p1.toUInt32.toUInt16.toUInt32.toInt32))] [(.int (p1.toUInt32.toUInt16.toUInt32.toInt32)), (.int r2)])) rfl (by rw [hml]; rfl) (argsL := [(.int (p1.toUInt32.toUInt16.toUInt32.toInt32))]) (rest := [(.int r2)]) (lenOf pd_0_0 rfl) rfl (by show 2 * 0 + _ ≤ _; exact Nat.le_of_eq rfl) (hb hby at_8) (fun _ _ => ⟨rfl, eQ2, (by decide : 0 + 0 ≤ _), (by decide : 0 + 0 ≤ _)⟩)
  dsimp only [Pt.U, Pt.locs, Pt.cells, Pt.slots] at X3 l3 y3 z3 st3 hQ3
  subst l3 y3 z3
  obtain ⟨rfl, N3q, eQ3⟩ := hQ3
  have N3 := Fr.app N2 N3q
  obtain ⟨fs, hr, hrun, hended, hW, hsame⟩ := X3.leave (v := some (.int (1 : Int32))) (fun h => by rw [Bd.returns] at h; cases h)
  refine ⟨_, _, pre0 _ ?_, hrun, hended, _, _, rfl, ?_, ⟨_, rfl⟩, hW, hsame.mono (by decide) (by decide)⟩

  · show Steps p.tables e below (s₁.setTop (mkF m 0 #[.val (.int p1), .unset] [])) _
    refine XS.iloadN X0.here hx rfl (hb hby at_0) rfl ?_
    show Steps p.tables e below (s₁.setTop (mkF m 1 #[.val (.int p1), .unset] [(.int p1)])) _
    refine XS.i2c X0.here hx rfl (hb hby at_1) rfl ?_
    show Steps p.tables e below (s₁.setTop (mkF m 2 #[.val (.int p1), .unset] [(.int (p1.toUInt32.toUInt16.toUInt32.toInt32))])) _
    refine XS.istoreN X0.here hx rfl (hb hby at_2) rfl (l' := #[.val (.int p1), .val (.int (p1.toUInt32.toUInt16.toUInt32.toInt32))]) rfl ?_
    show Steps p.tables e below (s₁.setTop (mkF m 3 #[.val (.int p1), .val (.int (p1.toUInt32.toUInt16.toUInt32.toInt32))] [])) _
    refine XS.iloadN X0.here hx rfl (hb hby at_3) rfl ?_
    show Steps p.tables e below (s₁.setTop (mkF m 4 #[.val (.int p1), .val (.int (p1.toUInt32.toUInt16.toUInt32.toInt32))] [(.int (p1.toUInt32.toUInt16.toUInt32.toInt32))])) _
    refine st2 _ ?_
    show Steps p.tables e below (T2.setTop (mkF m 7 #[.val (.int p1), .val (.int (p1.toUInt32.toUInt16.toUInt32.toInt32))] [(.int r2)])) _
    refine XS.iloadN X2.here hx rfl (hb hby at_7) rfl ?_
    show Steps p.tables e below (T2.setTop (mkF m 8 #[.val (.int p1), .val (.int (p1.toUInt32.toUInt16.toUInt32.toInt32))] [(.int (p1.toUInt32.toUInt16.toUInt32.toInt32)), (.int r2)])) _
    refine st3 _ ?_
    show Steps p.tables e below (T3.setTop (mkF m 11 #[.val (.int p1), .val (.int (p1.toUInt32.toUInt16.toUInt32.toInt32))] [(.int r3), (.int r2)])) _
    refine XS.icmpNo X3.here hx rfl (hb hby at_11) rfl (teq hc11).2 ?_
    show Steps p.tables e below (T3.setTop (mkF m 14 #[.val (.int p1), .val (.int (p1.toUInt32.toUInt16.toUInt32.toInt32))] [])) _
    refine XS.iconst X3.here hx rfl (hb hby at_14) ?_
    show Steps p.tables e below (T3.setTop (mkF m 15 #[.val (.int p1), .val (.int (p1.toUInt32.toUInt16.toUInt32.toInt32))] [(.int (1 : Int32))])) _
    refine XS.goto X3.here hx rfl (pc0 := 15) (pc' := 19) rfl (hb hby at_15) (by decide) (by decide) ?_
    show Steps p.tables e below (T3.setTop (mkF m 19 #[.val (.int p1), .val (.int (p1.toUInt32.toUInt16.toUInt32.toInt32))] [(.int (1 : Int32))])) _
    exact retN X3 hx (t := .boolean) Bd.returns (by simp) (hb hby at_19) hr
  · show Q0_a Z p1 r2 r3 h0 n0 _ T3.heap _
    rw [eQ3]
    exact ⟨rfl, N3⟩
theorem own_lt {a b : Int32} (h : a.toInt < b.toInt) : a < b := Int32.lt_iff_toInt_lt.mpr h
theorem own_nlt {a b : Int32} (h : b.toInt ≤ a.toInt) : ¬ a < b := fun q => by rw [Int32.lt_iff_toInt_lt] at q; omega
theorem own_eq {a b : Int32} (h : a.toInt = b.toInt) : a = b := Int32.toInt_inj.mp h
theorem own_neq {a b : Int32} (h : a.toInt ≠ b.toInt) : ¬ (a = b) := fun q => h (congrArg Int32.toInt q)
def exZ (z : Int) : Int32 := if (65 ≤ z ∧ z ≤ 90) ∨ (97 ≤ z ∧ z ≤ 122) ∨ (48 ≤ z ∧ z ≤ 57) ∨ z = 45 ∨ z = 95 ∨ z = 46 ∨ z = 126 then 1 else 0
theorem exZ1 {z : Int} (h : (65 ≤ z ∧ z ≤ 90) ∨ (97 ≤ z ∧ z ≤ 122) ∨ (48 ≤ z ∧ z ≤ 57) ∨ z = 45 ∨ z = 95 ∨ z = 46 ∨ z = 126) : exZ z = 1 := if_pos h
theorem exZ0 {z : Int} (h : ¬ ((65 ≤ z ∧ z ≤ 90) ∨ (97 ≤ z ∧ z ≤ 122) ∨ (48 ≤ z ∧ z ≤ 57) ∨ z = 45 ∨ z = 95 ∨ z = 46 ∨ z = 126)) : exZ z = 0 := if_neg h
theorem own_eqv {args : Array Value} {s : State} {idx : List Nat} {a : Term} {j : Int32} (h : (Cond.eq a (.int j)).value args s none s idx = some true) : a.eval args s none idx s = some (.int j) := by
  cases ha : a.eval args s none idx s with
  | none => simp [Cond.value, ha] at h
  | some v =>
    cases v <;> simp [Cond.value, ha, Term.int_eval] at h
    rw [h]
theorem own_or {args : Array Value} {s : State} {idx : List Nat} {c d : Cond} (h : (Cond.or c d).value args s none s idx = some true) : c.value args s none s idx = some true ∨ d.value args s none s idx = some true := by
  simp only [Cond.value] at h
  cases hc : c.value args s none s idx with
  | none => simp [hc] at h
  | some x => cases x <;> simp [hc] at h ⊢; exact h
theorem own_ix {args : Array Value} {s : State} {k : Nat} : (Term.index 0).eval args s none [k] s = some (.int k.toInt32) := by simp [Term.eval]
theorem own_k {k : Nat} (h : k < 128) : k.toInt32.toInt = k := len_toInt (by omega)
theorem own_kn {k : Nat} (h : k < 128) : k.toInt32.toNatClampNeg = k := by
  have e := own_k h
  show k.toInt32.toInt.toNat = k
  omega
theorem own_le {args : Array Value} {s : State} {k : Nat} {j : Int32} (hk : k < 128) (h : (Cond.le (.int j) (.index 0)).value args s none s [k] = some true) : j.toInt ≤ k := by
  have e := own_k hk
  have q : (Cond.le (.int j) (.index 0)).value args s none s [k] = some (decide (j ≤ k.toInt32)) := Cond.le_ints (Term.int_eval j) own_ix
  have r := gotT q h
  rw [Int32.le_iff_toInt_le] at r; omega
theorem own_lti {args : Array Value} {s : State} {k : Nat} {j : Int32} (hk : k < 128) (h : (Cond.lt (.index 0) (.int j)).value args s none s [k] = some true) : (k : Int) < j.toInt := by
  have e := own_k hk
  have q : (Cond.lt (.index 0) (.int j)).value args s none s [k] = some (decide (k.toInt32 < j)) := Cond.lt_ints own_ix (Term.int_eval j)
  have r := gotT q h
  rw [Int32.lt_iff_toInt_lt] at r; omega
theorem own_at {args : Array Value} {s : State} {C n d : String} {b : Addr} {cl : Cell} {k : Nat} {j : Int32} (hk : k < 128) (ev : (Term.static C n d).eval args s none [] s = some (.ref b)) (hc : s.heap[b]? = some cl)
    (h : (Cond.eq (.elem (.static C n d) (.index 0)) (.int j)).value args s none s [k] = some true) : cl.slots[k]? = some (.int j) := by
  have q := (elem_in (own_eqv h) (show (Term.static C n d).eval args s none [k] s = some (.ref b) from ev) own_ix hc).2
  rw [own_kn hk] at q; exact q
theorem own_lit {args : Array Value} {s : State} {t : Term} {b : Addr} {cl : Cell} {i j : Int32} (ev : t.eval args s none [] s = some (.ref b)) (hc : s.heap[b]? = some cl)
    (h : (Cond.eq (.elem t (.int i)) (.int j)).value args s none s [] = some true) : cl.slots[i.toNatClampNeg]? = some (.int j) := (elem_in (own_eqv h) ev (Term.int_eval i) hc).2
theorem own_size {args : Array Value} {s : State} {t : Term} {b : Addr} {cl : Cell} (ev : t.eval args s none [] s = some (.ref b)) (hA : s.arrayAt? b = some cl) (h : (Cond.eq (.length t) (.int 128)).value args s none s [] = some true) : cl.slots.size = 128 := by
  have e := own_eqv h
  by_cases hl : cl.slots.size < 2 ^ 31
  · rw [len_f ev hA hl] at e
    have e2 := congrArg Int32.toInt (Value.int.inj (Option.some.inj e))
    rw [len_toInt hl] at e2
    have q : (128 : Int32).toInt = 128 := by decide
    omega
  · simp [Term.eval, ev, hA, hl] at e
theorem own_exp (l : Launch) (Z : State) (a0 : Array Value) (hw : ∀ d ∈ tables_1, d.before a0 Z = true) (c : Int32) (h0 : Heap) (n0 : Nat) (Z0 : n0 ≤ h0.size) : Ret l Z h0 n0 (⟨"com/example/countersign/countersign/util/PercentCodingIsUnreservedPinLaw", "expected", "(C)Z"⟩ : MethodName) method_2_code 1 (some .boolean) ({ frames := 0, cells := 0, slots := 0, locals := 0 } : Room) #[(.int c)] (.int (exZ c.toInt)) := by
  have L65 : (65 : Int32).toInt = 65 := by decide
  have L90 : (90 : Int32).toInt = 90 := by decide
  have L97 : (97 : Int32).toInt = 97 := by decide
  have L122 : (122 : Int32).toInt = 122 := by decide
  have L48 : (48 : Int32).toInt = 48 := by decide
  have L57 : (57 : Int32).toInt = 57 := by decide
  have L45 : (45 : Int32).toInt = 45 := by decide
  have L95 : (95 : Int32).toInt = 95 := by decide
  have L46 : (46 : Int32).toInt = 46 := by decide
  have L126 : (126 : Int32).toInt = 126 := by decide
  have k : (65 ≤ c.toInt ∧ c.toInt ≤ 90) ∨ (97 ≤ c.toInt ∧ c.toInt ≤ 122) ∨ (48 ≤ c.toInt ∧ c.toInt ≤ 57) ∨ (c.toInt = 45) ∨ (c.toInt = 95) ∨ (c.toInt = 46) ∨ (c.toInt = 126) ∨ (c.toInt < 48 ∧ c.toInt ≠ 45 ∧ c.toInt ≠ 46) ∨ (57 < c.toInt ∧ c.toInt < 65) ∨ (90 < c.toInt ∧ c.toInt < 97 ∧ c.toInt ≠ 95) ∨ (122 < c.toInt ∧ c.toInt ≠ 126) := by omega
  rcases k with k | k | k | k | k | k | k | k | k | k | k
  · rw [exZ1 (by omega)]; exact (rm2_up l Z a0 hw [] c h0 n0 Z0 (by first | exact own_lt (by omega) | exact own_nlt (by omega) | exact own_eq (by omega) | exact own_neq (by omega)) (by first | exact own_lt (by omega) | exact own_nlt (by omega) | exact own_eq (by omega) | exact own_neq (by omega)))
  · rw [exZ1 (by omega)]; exact (rm2_low l Z a0 hw [] c h0 n0 Z0 (by first | exact own_lt (by omega) | exact own_nlt (by omega) | exact own_eq (by omega) | exact own_neq (by omega)) (by first | exact own_lt (by omega) | exact own_nlt (by omega) | exact own_eq (by omega) | exact own_neq (by omega)) (by first | exact own_lt (by omega) | exact own_nlt (by omega) | exact own_eq (by omega) | exact own_neq (by omega)) (by first | exact own_lt (by omega) | exact own_nlt (by omega) | exact own_eq (by omega) | exact own_neq (by omega)))
  · rw [exZ1 (by omega)]; exact (rm2_dig l Z a0 hw [] c h0 n0 Z0 (by first | exact own_lt (by omega) | exact own_nlt (by omega) | exact own_eq (by omega) | exact own_neq (by omega)) (by first | exact own_lt (by omega) | exact own_nlt (by omega) | exact own_eq (by omega) | exact own_neq (by omega)) (by first | exact own_lt (by omega) | exact own_nlt (by omega) | exact own_eq (by omega) | exact own_neq (by omega)) (by first | exact own_lt (by omega) | exact own_nlt (by omega) | exact own_eq (by omega) | exact own_neq (by omega)))
  · rw [exZ1 (by omega)]; exact (rm2_dash l Z a0 hw [] c h0 n0 Z0 (by first | exact own_lt (by omega) | exact own_nlt (by omega) | exact own_eq (by omega) | exact own_neq (by omega)) (by first | exact own_lt (by omega) | exact own_nlt (by omega) | exact own_eq (by omega) | exact own_neq (by omega)) (by first | exact own_lt (by omega) | exact own_nlt (by omega) | exact own_eq (by omega) | exact own_neq (by omega)) (by first | exact own_lt (by omega) | exact own_nlt (by omega) | exact own_eq (by omega) | exact own_neq (by omega)))
  · rw [exZ1 (by omega)]; exact (rm2_und l Z a0 hw [] c h0 n0 Z0 (by first | exact own_lt (by omega) | exact own_nlt (by omega) | exact own_eq (by omega) | exact own_neq (by omega)) (by first | exact own_lt (by omega) | exact own_nlt (by omega) | exact own_eq (by omega) | exact own_neq (by omega)) (by first | exact own_lt (by omega) | exact own_nlt (by omega) | exact own_eq (by omega) | exact own_neq (by omega)) (by first | exact own_lt (by omega) | exact own_nlt (by omega) | exact own_eq (by omega) | exact own_neq (by omega)) (by first | exact own_lt (by omega) | exact own_nlt (by omega) | exact own_eq (by omega) | exact own_neq (by omega)) (by first | exact own_lt (by omega) | exact own_nlt (by omega) | exact own_eq (by omega) | exact own_neq (by omega)) (by first | exact own_lt (by omega) | exact own_nlt (by omega) | exact own_eq (by omega) | exact own_neq (by omega)))
  · rw [exZ1 (by omega)]; exact (rm2_dot l Z a0 hw [] c h0 n0 Z0 (by first | exact own_lt (by omega) | exact own_nlt (by omega) | exact own_eq (by omega) | exact own_neq (by omega)) (by first | exact own_lt (by omega) | exact own_nlt (by omega) | exact own_eq (by omega) | exact own_neq (by omega)) (by first | exact own_lt (by omega) | exact own_nlt (by omega) | exact own_eq (by omega) | exact own_neq (by omega)) (by first | exact own_lt (by omega) | exact own_nlt (by omega) | exact own_eq (by omega) | exact own_neq (by omega)) (by first | exact own_lt (by omega) | exact own_nlt (by omega) | exact own_eq (by omega) | exact own_neq (by omega)) (by first | exact own_lt (by omega) | exact own_nlt (by omega) | exact own_eq (by omega) | exact own_neq (by omega)))
  · rw [exZ1 (by omega)]; exact (rm2_til l Z a0 hw [] c h0 n0 Z0 (by first | exact own_lt (by omega) | exact own_nlt (by omega) | exact own_eq (by omega) | exact own_neq (by omega)) (by first | exact own_lt (by omega) | exact own_nlt (by omega) | exact own_eq (by omega) | exact own_neq (by omega)) (by first | exact own_lt (by omega) | exact own_nlt (by omega) | exact own_eq (by omega) | exact own_neq (by omega)) (by first | exact own_lt (by omega) | exact own_nlt (by omega) | exact own_eq (by omega) | exact own_neq (by omega)) (by first | exact own_lt (by omega) | exact own_nlt (by omega) | exact own_eq (by omega) | exact own_neq (by omega)) (by first | exact own_lt (by omega) | exact own_nlt (by omega) | exact own_eq (by omega) | exact own_neq (by omega)) (by first | exact own_lt (by omega) | exact own_nlt (by omega) | exact own_eq (by omega) | exact own_neq (by omega)) (by first | exact own_lt (by omega) | exact own_nlt (by omega) | exact own_eq (by omega) | exact own_neq (by omega)) (by first | exact own_lt (by omega) | exact own_nlt (by omega) | exact own_eq (by omega) | exact own_neq (by omega)) (by first | exact own_lt (by omega) | exact own_nlt (by omega) | exact own_eq (by omega) | exact own_neq (by omega)))
  · rw [exZ0 (by omega)]; exact (rm2_x1 l Z a0 hw [] c h0 n0 Z0 (by first | exact own_lt (by omega) | exact own_nlt (by omega) | exact own_eq (by omega) | exact own_neq (by omega)) (by first | exact own_lt (by omega) | exact own_nlt (by omega) | exact own_eq (by omega) | exact own_neq (by omega)) (by first | exact own_lt (by omega) | exact own_nlt (by omega) | exact own_eq (by omega) | exact own_neq (by omega)) (by first | exact own_lt (by omega) | exact own_nlt (by omega) | exact own_eq (by omega) | exact own_neq (by omega)) (by first | exact own_lt (by omega) | exact own_nlt (by omega) | exact own_eq (by omega) | exact own_neq (by omega)) (by first | exact own_lt (by omega) | exact own_nlt (by omega) | exact own_eq (by omega) | exact own_neq (by omega)) (by first | exact own_lt (by omega) | exact own_nlt (by omega) | exact own_eq (by omega) | exact own_neq (by omega)))
  · rw [exZ0 (by omega)]; exact (rm2_x2 l Z a0 hw [] c h0 n0 Z0 (by first | exact own_lt (by omega) | exact own_nlt (by omega) | exact own_eq (by omega) | exact own_neq (by omega)) (by first | exact own_lt (by omega) | exact own_nlt (by omega) | exact own_eq (by omega) | exact own_neq (by omega)) (by first | exact own_lt (by omega) | exact own_nlt (by omega) | exact own_eq (by omega) | exact own_neq (by omega)) (by first | exact own_lt (by omega) | exact own_nlt (by omega) | exact own_eq (by omega) | exact own_neq (by omega)) (by first | exact own_lt (by omega) | exact own_nlt (by omega) | exact own_eq (by omega) | exact own_neq (by omega)) (by first | exact own_lt (by omega) | exact own_nlt (by omega) | exact own_eq (by omega) | exact own_neq (by omega)) (by first | exact own_lt (by omega) | exact own_nlt (by omega) | exact own_eq (by omega) | exact own_neq (by omega)) (by first | exact own_lt (by omega) | exact own_nlt (by omega) | exact own_eq (by omega) | exact own_neq (by omega)))
  · rw [exZ0 (by omega)]; exact (rm2_x3 l Z a0 hw [] c h0 n0 Z0 (by first | exact own_lt (by omega) | exact own_nlt (by omega) | exact own_eq (by omega) | exact own_neq (by omega)) (by first | exact own_lt (by omega) | exact own_nlt (by omega) | exact own_eq (by omega) | exact own_neq (by omega)) (by first | exact own_lt (by omega) | exact own_nlt (by omega) | exact own_eq (by omega) | exact own_neq (by omega)) (by first | exact own_lt (by omega) | exact own_nlt (by omega) | exact own_eq (by omega) | exact own_neq (by omega)) (by first | exact own_lt (by omega) | exact own_nlt (by omega) | exact own_eq (by omega) | exact own_neq (by omega)) (by first | exact own_lt (by omega) | exact own_nlt (by omega) | exact own_eq (by omega) | exact own_neq (by omega)) (by first | exact own_lt (by omega) | exact own_nlt (by omega) | exact own_eq (by omega) | exact own_neq (by omega)) (by first | exact own_lt (by omega) | exact own_nlt (by omega) | exact own_eq (by omega) | exact own_neq (by omega)) (by first | exact own_lt (by omega) | exact own_nlt (by omega) | exact own_eq (by omega) | exact own_neq (by omega)))
  · rw [exZ0 (by omega)]; exact (rm2_x4 l Z a0 hw [] c h0 n0 Z0 (by first | exact own_lt (by omega) | exact own_nlt (by omega) | exact own_eq (by omega) | exact own_neq (by omega)) (by first | exact own_lt (by omega) | exact own_nlt (by omega) | exact own_eq (by omega) | exact own_neq (by omega)) (by first | exact own_lt (by omega) | exact own_nlt (by omega) | exact own_eq (by omega) | exact own_neq (by omega)) (by first | exact own_lt (by omega) | exact own_nlt (by omega) | exact own_eq (by omega) | exact own_neq (by omega)) (by first | exact own_lt (by omega) | exact own_nlt (by omega) | exact own_eq (by omega) | exact own_neq (by omega)) (by first | exact own_lt (by omega) | exact own_nlt (by omega) | exact own_eq (by omega) | exact own_neq (by omega)) (by first | exact own_lt (by omega) | exact own_nlt (by omega) | exact own_eq (by omega) | exact own_neq (by omega)) (by first | exact own_lt (by omega) | exact own_nlt (by omega) | exact own_eq (by omega) | exact own_neq (by omega)) (by first | exact own_lt (by omega) | exact own_nlt (by omega) | exact own_eq (by omega) | exact own_neq (by omega)) (by first | exact own_lt (by omega) | exact own_nlt (by omega) | exact own_eq (by omega) | exact own_neq (by omega)))
theorem own_unr (l : Launch) (Z : State) (a0 : Array Value) (hw : ∀ d ∈ tables_1, d.before a0 Z = true) (c : Int32) (h0 : Heap) (n0 : Nat) (Z0 : n0 ≤ h0.size) (b : Addr) (cl : Cell) (S : Sta Z h0 "com/example/countersign/countersign/util/PercentCoding" "UNRESERVED" "[Z" (.ref b)) (Ar : Arr Z h0 b cl .boolean) (hs : cl.slots.size = 128)
    (hT : ∀ k : Nat, k < 128 → cl.slots[k]? = some (.int (exZ k))) (hc0 : 0 ≤ c.toInt) : Ret l Z h0 n0 (⟨"com/example/countersign/countersign/util/PercentCoding", "isUnreserved", "(C)Z"⟩ : MethodName) prog_66_method_12_code 1 (some .boolean) ({ frames := 0, cells := 0, slots := 0, locals := 0 } : Room) #[(.int c)] (.int (exZ c.toInt)) := by
  have L0 : (0 : Int32).toInt = 0 := by decide
  have L128 : (128 : Int32).toInt = 128 := by decide
  have S2 : cl.slots.size = (128 : Int32).toNatClampNeg := hs
  have N2 : ¬ (128 : Int32) < 0 := by decide
  by_cases hc : c.toInt < 128
  · have hk : c.toNatClampNeg = c.toInt.toNat := rfl
    have hin : ¬ (c < 0 ∨ cl.slots.size ≤ c.toNatClampNeg) := by
      rintro (q | q)
      · rw [Int32.lt_iff_toInt_lt] at q; omega
      · rw [hs, hk] at q; omega
    have hat : cl.slots[c.toNatClampNeg]? = some (.int (exZ c.toInt)) := by
      have q := hT c.toNatClampNeg (by omega)
      have e : ((c.toNatClampNeg : Nat) : Int) = c.toInt := by omega
      rw [e] at q; exact q
    by_cases hz : exZ c.toInt = 0
    · rw [hz]; rw [hz] at hat
      exact (rm1_ft l Z a0 hw [] c b cl 128 0 h0 n0 Z0 S Ar S2 N2 hin hat (own_lt (by omega)) rfl)
    · have h1 : exZ c.toInt = 1 := by
        unfold exZ at hz ⊢
        split at hz <;> simp_all
      rw [h1]
      exact (rm1_ff l Z a0 hw [] c b cl 128 (exZ c.toInt) h0 n0 Z0 S Ar S2 N2 hin hat (own_lt (by omega)) hz)
  · rw [exZ0 (by omega)]
    exact (rm1_t l Z a0 hw [] c b cl 128 h0 n0 Z0 S Ar S2 N2 (own_nlt (by omega)))
theorem own_i2c (x : Int32) : 0 ≤ (x.toUInt32.toUInt16.toUInt32.toInt32).toInt := by
  have e : (x.toUInt32.toUInt16.toUInt32.toInt32).toInt = ((x.toUInt32.toUInt16.toUInt32.toNat : Nat) : Int) := by
    have h := x.toUInt32.toUInt16.toNat_lt
    have e1 : x.toUInt32.toUInt16.toUInt32.toNat = x.toUInt32.toUInt16.toNat := by simp
    show (x.toUInt32.toUInt16.toUInt32.toBitVec).toInt = _
    rw [BitVec.toInt_eq_toNat_of_lt]
    · rfl
    · show 2 * x.toUInt32.toUInt16.toUInt32.toNat < 2 ^ 32
      rw [e1]; omega
  rw [e]; omega
set_option maxRecDepth 65536 in
set_option maxHeartbeats 40000000 in
theorem comes_1 {Post : Tables → Env → Array Value → State → Outcome → State → Prop} (hpost : ∀ tb e args s v u, (limb_1_1.after args s (.returned v) u = true ∧ limb_1_2.after args s (.returned v) u = true ∧ True) → FrameEnd s (.returned v) u (Jvm.fieldLocs frame_1_writes args s ++ Jvm.arrayLocs frame_1_arrays args s ++ Jvm.staticLocs frame_1_statics s) 0 0 → Post tb e args s (.returned v) u) :
    ArmFor flags0 classFile x code maxLocals ret World_1 tables_1 room_1 Calls_1 rest_1 Pre_1 Post := by
  intro l hfl _ _ p e ha hc hk s m args below hf hA hF happ hP
  obtain ⟨hcalls, hrest, hpre⟩ := hP
  obtain ⟨-, -, -, hnamed, -, -, -, hat⟩ := (Spec.applies_iff hf).mp happ
  obtain ⟨hg, hn⟩ := and_e (Cond.before_iff.mp (show (Jvm.Cond.and given_1 narrow_1).before args s = true from hpre))
  obtain ⟨g4, g5⟩ := and_e hg
  obtain ⟨w0, rfl⟩ : ∃ w0 : Value, args = #[w0] := by
    have hs : args.size = 1 := by simpa [Cond.value, given_1] using g4
    obtain ⟨L⟩ := args
    match L, hs with
    | [w0], _ => exact ⟨w0, rfl⟩
  have hw := fun d (hd : d ∈ tables_1) => atoms_spec (ws := Jvm.Cond.code x code maxLocals ret :: tables_1) hat d (List.mem_cons_of_mem _ hd)
  have hfit : Fit s := fun {y c} hc i hi => by
    obtain ⟨ha, rfl⟩ := Array.getElem?_eq_some_iff.mp hc
    have q := List.all_eq_true.mp ((Array.all_eq_true_iff_forall_mem.mp hF) _ (Array.getElem_mem ha)) i (List.mem_range.mpr hi)
    simpa [Array.getElem?_eq_getElem hi] using q
  obtain ⟨i0, ei0⟩ := is_v g5
  obtain rfl : w0 = (.int i0) := Option.some.inj ei0
  obtain ⟨nX_0, hn⟩ := and_e hn
  obtain ⟨nX_1, hn⟩ := and_e hn
  obtain ⟨nX_2, hn⟩ := and_e hn
  obtain ⟨nX_3, hn⟩ := and_e hn
  obtain ⟨nX_4, hn⟩ := and_e hn
  obtain ⟨nX_5, hn⟩ := and_e hn
  obtain ⟨nX_6, hn⟩ := and_e hn
  obtain ⟨nX_7, hn⟩ := and_e hn
  obtain ⟨nX_8, hn⟩ := and_e hn
  obtain ⟨nX_9, hn⟩ := and_e hn
  obtain ⟨nX_10, hn⟩ := and_e hn
  obtain ⟨nX_11, hn⟩ := and_e hn
  obtain ⟨nX_12, hn⟩ := and_e hn
  obtain ⟨nX_13, hn⟩ := and_e hn
  obtain ⟨nX_14, hn⟩ := and_e hn
  obtain ⟨nX_15, hn⟩ := and_e hn
  obtain ⟨nX_16, nX_17⟩ := and_e hn
  obtain ⟨b, ev⟩ := arr_v nX_0
  obtain ⟨cl, Ar⟩ := Arr.start ev nX_0
  have hA : s.arrayAt? b = some cl := Ar.fin (Vm.Alike.refl _)
  have hs : cl.slots.size = 128 := own_size ev hA nX_1
  have S := Sta.start ev (Or.inr ⟨(hw _ (List.mem_of_getElem? (i := 2) rfl)), (hw _ (List.mem_of_getElem? (i := 5) rfl))⟩)
  have L0 : (0 : Int32).toInt = 0 := by decide
  have L65 : (65 : Int32).toInt = 65 := by decide
  have L97 : (97 : Int32).toInt = 97 := by decide
  have L123 : (123 : Int32).toInt = 123 := by decide
  have L45 : (45 : Int32).toInt = 45 := by decide
  have L48 : (48 : Int32).toInt = 48 := by decide
  have L58 : (58 : Int32).toInt = 58 := by decide
  have L91 : (91 : Int32).toInt = 91 := by decide
  have L95 : (95 : Int32).toInt = 95 := by decide
  have A2 : ∀ k : Nat, k < 128 → 0 ≤ k → k < 45 → cl.slots[k]? = some (.int 0) := by
    intro k hk h1 h2
    have q := Cond.all_elim ev hA nX_2 k (by omega)
    rcases own_or q with q | q
    · have z := own_le hk q; omega
    exact own_at hk ev Ar.1 q
  have A6 : ∀ k : Nat, k < 128 → 48 ≤ k → k < 58 → cl.slots[k]? = some (.int 1) := by
    intro k hk h1 h2
    have q := Cond.all_elim ev hA nX_6 k (by omega)
    rcases own_or q with q | q
    · have z := own_lti hk q; omega
    rcases own_or q with q | q
    · have z := own_le hk q; omega
    exact own_at hk ev Ar.1 q
  have A7 : ∀ k : Nat, k < 128 → 58 ≤ k → k < 65 → cl.slots[k]? = some (.int 0) := by
    intro k hk h1 h2
    have q := Cond.all_elim ev hA nX_7 k (by omega)
    rcases own_or q with q | q
    · have z := own_lti hk q; omega
    rcases own_or q with q | q
    · have z := own_le hk q; omega
    exact own_at hk ev Ar.1 q
  have A8 : ∀ k : Nat, k < 128 → 65 ≤ k → k < 91 → cl.slots[k]? = some (.int 1) := by
    intro k hk h1 h2
    have q := Cond.all_elim ev hA nX_8 k (by omega)
    rcases own_or q with q | q
    · have z := own_lti hk q; omega
    rcases own_or q with q | q
    · have z := own_le hk q; omega
    exact own_at hk ev Ar.1 q
  have A9 : ∀ k : Nat, k < 128 → 91 ≤ k → k < 95 → cl.slots[k]? = some (.int 0) := by
    intro k hk h1 h2
    have q := Cond.all_elim ev hA nX_9 k (by omega)
    rcases own_or q with q | q
    · have z := own_lti hk q; omega
    rcases own_or q with q | q
    · have z := own_le hk q; omega
    exact own_at hk ev Ar.1 q
  have A12 : ∀ k : Nat, k < 128 → 97 ≤ k → k < 123 → cl.slots[k]? = some (.int 1) := by
    intro k hk h1 h2
    have q := Cond.all_elim ev hA nX_12 k (by omega)
    rcases own_or q with q | q
    · have z := own_lti hk q; omega
    rcases own_or q with q | q
    · have z := own_le hk q; omega
    exact own_at hk ev Ar.1 q
  have B45 : cl.slots[45]? = some (.int 1) := own_lit ev Ar.1 nX_3
  have B46 : cl.slots[46]? = some (.int 1) := own_lit ev Ar.1 nX_4
  have B47 : cl.slots[47]? = some (.int 0) := own_lit ev Ar.1 nX_5
  have B95 : cl.slots[95]? = some (.int 1) := own_lit ev Ar.1 nX_10
  have B96 : cl.slots[96]? = some (.int 0) := own_lit ev Ar.1 nX_11
  have B123 : cl.slots[123]? = some (.int 0) := own_lit ev Ar.1 nX_13
  have B124 : cl.slots[124]? = some (.int 0) := own_lit ev Ar.1 nX_14
  have B125 : cl.slots[125]? = some (.int 0) := own_lit ev Ar.1 nX_15
  have B126 : cl.slots[126]? = some (.int 1) := own_lit ev Ar.1 nX_16
  have B127 : cl.slots[127]? = some (.int 0) := own_lit ev Ar.1 nX_17
  have hT : ∀ k : Nat, k < 128 → cl.slots[k]? = some (.int (exZ k)) := by
    intro k hk
    have c : (0 ≤ k ∧ k < 45) ∨ k = 45 ∨ k = 46 ∨ k = 47 ∨ (48 ≤ k ∧ k < 58) ∨ (58 ≤ k ∧ k < 65) ∨ (65 ≤ k ∧ k < 91) ∨ (91 ≤ k ∧ k < 95) ∨ k = 95 ∨ k = 96 ∨ (97 ≤ k ∧ k < 123) ∨ k = 123 ∨ k = 124 ∨ k = 125 ∨ k = 126 ∨ k = 127 := by omega
    rcases c with c | c | c | c | c | c | c | c | c | c | c | c | c | c | c | c
    · rw [exZ0 (by omega)]; exact A2 k hk c.1 c.2
    · subst c; exact B45
    · subst c; exact B46
    · subst c; exact B47
    · rw [exZ1 (by omega)]; exact A6 k hk c.1 c.2
    · rw [exZ0 (by omega)]; exact A7 k hk c.1 c.2
    · rw [exZ1 (by omega)]; exact A8 k hk c.1 c.2
    · rw [exZ0 (by omega)]; exact A9 k hk c.1 c.2
    · subst c; exact B95
    · subst c; exact B96
    · rw [exZ1 (by omega)]; exact A12 k hk c.1 c.2
    · subst c; exact B123
    · subst c; exact B124
    · subst c; exact B125
    · subst c; exact B126
    · subst c; exact B127
  have K : MetFree l x (head1 (Jvm.Cond.code x code maxLocals ret :: tables_1) room_1) (fun a U => a = #[(.int i0)] ∧ s.Warmed39 U.vm ∧ U.heap = s.heap) (fun _ _ _ _ _ => True) (fun _ U o U' => ∃ v L, o = .returned v ∧ (v = some (.int (1 : Int32)) ∧ Fr s.heap.size L) ∧ FrameEnd U o U' L room_1.cells room_1.slots) := by
    have c0 : 0 ≤ (i0.toUInt32.toUInt16.toUInt32.toInt32).toInt := own_i2c i0
    exact (rm0_a l s _ hw tables_1 i0 _ _ s.heap s.heap.size (Nat.le_refl _) (own_unr l s _ hw _ _ _ (Nat.le_refl _) b cl S Ar hs hT c0) (own_exp l s _ hw _ _ _ (Nat.le_refl _)) rfl)
  obtain ⟨n, o, h1, h2, h3, _, L, rfl, ⟨rfl, N⟩, hq⟩ := K p e ha hc hk s m _ below hf ((Spec.applies_iff_loose hf).mp happ).1 ⟨rfl, State.Warmed39.refl s, rfl⟩ trivial
  refine ⟨n, _, h1, h2, h3, hpost _ _ _ _ _ _ ⟨Cond.after_iff.mpr rfl, Cond.after_iff.mpr (eq_i res_at (Term.int_eval (1)) rfl), trivial⟩ ⟨hq.1, hq.2.1, (hq.2.2.sift fun y hy => Or.inr (N y hy)).mono (by decide) (by decide)⟩⟩
theorem main_1_1 : Claimed_1_1 := comes_1 fun _ _ _ _ _ _ h hF => ⟨h.1, hF⟩
theorem main_1_2 : Claimed_1_2 := comes_1 fun _ _ _ _ _ _ h hF => ⟨h.2.1, hF⟩
end Jvm.Pilot.@@N@@
namespace Jvm.Pilot.@@N@@
open Jvm Jvm.ClassFile Sem Op Lib Jvm.Free Jvm.Stand Jvm.Pilot.@@N@@.Jvm.D
/-! MADE BY PROGRAM (witnessworld.py) out of the Statement's table words and the real class files: 9 classes; the members and pool entries that the words name. The judged class is class 1, her method 2. -/
namespace start1
open Jvm.ClassFile
def u (s : String) : CpInfo := .utf8 (stringToUtf16 s)
/-- a pool by its gaps: so many unusable entries, then the entry; so many at the end -/
def gap : Nat → List CpInfo → List CpInfo
  | 0, r => r
  | n + 1, r => .unusable :: gap n r
def poolList (es : List (Nat × CpInfo)) (last : Nat) : List CpInfo := es.foldr (fun e r => gap e.1 (e.2 :: r)) (gap last [])
def pool (es : List (Nat × CpInfo)) (last : Nat) : Array CpInfo := ⟨poolList es last⟩
def fileOf (pool : Array CpInfo) (this : Nat) (attrs : Array Attribute := #[]) (ms : Array MethodInfo := #[]) (fl : Nat := 33) (sup : Nat := 0) (ifs : Array Nat := #[]) (fds : Array FieldInfo := #[]) : ClassFile where
  minorVersion := 0
  majorVersion := 65
  constantPool := pool
  accessFlags := fl
  thisClass := this
  superClass := sup
  interfaces := ifs
  fields := fds
  methods := ms
  attributes := attrs
def plain (name : String) (sup : Option ClassId) : Class where
  name := name
  kind := .ordinary
  loader := none
  accessFlags := 33
  super := sup
  interfaces := #[]
  cf := none
  fields := #[]
  methods := #[]
  instanceTypes := #[]
  staticTypes := #[]
  resolved := #[]
  callSites := []
  init := .initialized
  statics := none
  mirror := none

def pool0 : Array CpInfo := pool [(5, u "<init>"), (0, u "()V"), (1, .class_ 10), (1, u "java/lang/Object")] 113

def k0m0 : Method := { name := "<init>", desc := "()V", sig := { parameters := [], returnType := none }, accessFlags := 1, code := none }
/-- java/lang/Object -/
def k0 : Class := { plain "java/lang/Object" none with
  accessFlags := 33
  interfaces := #[]
  cf := some (fileOf pool0 8 #[] #[{ accessFlags := 1, nameIndex := 5, descriptorIndex := 6, attributes := #[] }] 33 0 #[] #[])
  fields := #[]
  methods := #[k0m0]
  instanceTypes := #[]
  staticTypes := #[]
  resolved := Array.replicate 124 none
  statics := none }

def pool1 : Array CpInfo := pool [(2, .class_ 4), (1, u "java/lang/Object"), (0, u "<init>"), (0, u "()V"), (0, .methodref 8 9), (0, .class_ 10), (0, .nameAndType 11 12), (0, u "com/example/countersign/countersign/util/PercentCoding"), (0, u "isUnreserved"), (0, u "(C)Z"), (0, .methodref 14 15), (0, .class_ 16), (0, .nameAndType 17 12), (0, u "com/example/countersign/countersign/util/PercentCodingIsUnreservedPinLaw"), (0, u "expected"), (3, u "law"), (0, u "(I)Z")] 2

def k1m0 : Method := { name := "<init>", desc := "()V", sig := { parameters := [], returnType := none }, accessFlags := 2, code := none }
def k1c1 : Code := { maxStack := 2, maxLocals := 1, code := method_2_code, exceptionTable := #[], attributes := #[] }
def k1m1 : Method := { name := "expected", desc := "(C)Z", sig := { parameters := [.char], returnType := some .boolean }, accessFlags := 10, code := some k1c1 }
def k1c2 : Code := { maxStack := 2, maxLocals := 2, code := code, exceptionTable := #[], attributes := #[] }
def k1m2 : Method := { name := "law", desc := "(I)Z", sig := { parameters := [.int], returnType := some .boolean }, accessFlags := 9, code := some k1c2 }
/-- com/example/countersign/countersign/util/PercentCodingIsUnreservedPinLaw -/
def k1 : Class := { plain "com/example/countersign/countersign/util/PercentCodingIsUnreservedPinLaw" (some 0) with
  accessFlags := 49
  interfaces := #[]
  cf := some (fileOf pool1 14 #[] #[{ accessFlags := 2, nameIndex := 5, descriptorIndex := 6, attributes := #[] }, { accessFlags := 10, nameIndex := 17, descriptorIndex := 12, attributes := #[] }, { accessFlags := 9, nameIndex := 21, descriptorIndex := 22, attributes := #[] }] 49 2 #[] #[])
  fields := #[]
  methods := #[k1m0, k1m1, k1m2]
  instanceTypes := #[]
  staticTypes := #[]
  resolved := Array.replicate 25 none
  statics := none }

def pool2 : Array CpInfo := pool [(2, .class_ 4), (1, u "java/lang/Object"), (0, u "<init>"), (0, u "()V"), (11, .class_ 20), (1, u "com/example/countersign/countersign/util/PercentCoding"), (0, u "isUnreserved"), (0, u "(C)Z"), (18, u "HEX_DIGITS"), (0, u "[B"), (103, .fieldref 18 147), (0, .nameAndType 148 149), (0, u "UNRESERVED"), (0, u "[Z"), (12, u "QUOTED_LENGTH"), (0, u "I")] 40

def k2m0 : Method := { name := "<init>", desc := "()V", sig := { parameters := [], returnType := none }, accessFlags := 2, code := none }
def k2c1 : Code := { maxStack := 2, maxLocals := 1, code := prog_66_method_12_code, exceptionTable := #[], attributes := #[] }
def k2m1 : Method := { name := "isUnreserved", desc := "(C)Z", sig := { parameters := [.char], returnType := some .boolean }, accessFlags := 9, code := some k2c1 }
/-- com/example/countersign/countersign/util/PercentCoding -/
def k2 : Class := { plain "com/example/countersign/countersign/util/PercentCoding" (some 0) with
  accessFlags := 49
  interfaces := #[]
  cf := some (fileOf pool2 18 #[] #[{ accessFlags := 2, nameIndex := 5, descriptorIndex := 6, attributes := #[] }, { accessFlags := 9, nameIndex := 21, descriptorIndex := 22, attributes := #[] }] 49 2 #[] #[{ accessFlags := 26, nameIndex := 41, descriptorIndex := 42, attributes := #[] }, { accessFlags := 26, nameIndex := 148, descriptorIndex := 149, attributes := #[] }, { accessFlags := 26, nameIndex := 162, descriptorIndex := 163, attributes := #[] }])
  fields := #[{ name := "HEX_DIGITS", type := (.array .byte), accessFlags := 26, slot := 0, constantValue := 0 }, { name := "UNRESERVED", type := (.array .boolean), accessFlags := 26, slot := 1, constantValue := 0 }, { name := "QUOTED_LENGTH", type := .int, accessFlags := 26, slot := 2, constantValue := 0 }]
  methods := #[k2m0, k2m1]
  instanceTypes := #[]
  staticTypes := #[(.array .byte), (.array .boolean), .int]
  resolved := Array.replicate 204 none
  statics := some 0 }

def pool3 : Array CpInfo := pool [(1, u "java/lang/Cloneable"), (0, .class_ 1), (0, u "java/lang/Object"), (0, .class_ 3)] 3

/-- java/lang/Cloneable -/
def k3 : Class := { plain "java/lang/Cloneable" (some 0) with
  accessFlags := 1537
  interfaces := #[]
  cf := some (fileOf pool3 2 #[] #[] 1537 4 #[] #[])
  fields := #[]
  methods := #[]
  instanceTypes := #[]
  staticTypes := #[]
  resolved := Array.replicate 8 none
  statics := none }

def pool4 : Array CpInfo := pool [(1, u "java/io/Serializable"), (0, .class_ 1), (0, u "java/lang/Object"), (0, .class_ 3)] 3

/-- java/io/Serializable -/
def k4 : Class := { plain "java/io/Serializable" (some 0) with
  accessFlags := 1537
  interfaces := #[]
  cf := some (fileOf pool4 2 #[] #[] 1537 4 #[] #[])
  fields := #[]
  methods := #[]
  instanceTypes := #[]
  staticTypes := #[]
  resolved := Array.replicate 8 none
  statics := none }

/-- the primitive boolean -/
def k5 : Class := { plain "boolean" none with kind := .primitive 'Z', accessFlags := 0x411 }
/-- [Z -/
def k6 : Class := { plain "[Z" (some 0) with kind := .array 5 .boolean, interfaces := #[3, 4], accessFlags := 1041 }

/-- the primitive byte -/
def k7 : Class := { plain "byte" none with kind := .primitive 'B', accessFlags := 0x411 }
/-- [B -/
def k8 : Class := { plain "[B" (some 0) with kind := .array 7 .byte, interfaces := #[3, 4], accessFlags := 1041 }

def heap : Heap := #[{ cls := 2, slots := #[.null, .ref 1, .int 0], vm := .statics 2 },
  { cls := 6, slots := #[.int 0, .int 0, .int 0, .int 0, .int 0, .int 0, .int 0, .int 0, .int 0, .int 0, .int 0, .int 0, .int 0, .int 0, .int 0, .int 0, .int 0, .int 0, .int 0, .int 0, .int 0, .int 0, .int 0, .int 0, .int 0, .int 0, .int 0, .int 0, .int 0, .int 0, .int 0, .int 0, .int 0, .int 0, .int 0, .int 0, .int 0, .int 0, .int 0, .int 0, .int 0, .int 0, .int 0, .int 0, .int 0, .int 1, .int 1, .int 0, .int 1, .int 1, .int 1, .int 1, .int 1, .int 1, .int 1, .int 1, .int 1, .int 1, .int 0, .int 0, .int 0, .int 0, .int 0, .int 0, .int 0, .int 1, .int 1, .int 1, .int 1, .int 1, .int 1, .int 1, .int 1, .int 1, .int 1, .int 1, .int 1, .int 1, .int 1, .int 1, .int 1, .int 1, .int 1, .int 1, .int 1, .int 1, .int 1, .int 1, .int 1, .int 1, .int 1, .int 0, .int 0, .int 0, .int 0, .int 1, .int 0, .int 1, .int 1, .int 1, .int 1, .int 1, .int 1, .int 1, .int 1, .int 1, .int 1, .int 1, .int 1, .int 1, .int 1, .int 1, .int 1, .int 1, .int 1, .int 1, .int 1, .int 1, .int 1, .int 1, .int 1, .int 1, .int 1, .int 0, .int 0, .int 0, .int 1, .int 0], vm := .none }]
def classes : Array Class := #[k0, k1, k2, k3, k4, k5, k6, k7, k8]
def interned : List (Array UInt16 × Addr) := []
def slotsUsed : Nat := 131
def theMethod : MethodId := ⟨1, 2⟩
def args0 : Array Value := #[.int 66]
def aboutOver (below : List Frame) : State where
  vm := { classes := classes, interned := interned.toArray }
  heap := heap
  slotsUsed := slotsUsed
  threads := #[{ frames := .invoking theMethod args0 :: below }]
def below0 : List Frame := [.native { method := ⟨0, 0⟩, args := #[] }]
def about1 : State := aboutOver below0
def p0 : Program := .bare "" "" ""
def e0 : Env := launch0.env 0 0 0
theorem w_frames : about1.frames = Frame.invoking theMethod args0 :: below0 := rfl
set_option maxRecDepth 65536 in
theorem w_args : argsFit about1.vm theMethod args0 = true := by decide +kernel
set_option maxRecDepth 65536 in
theorem w_heap : heapFits about1 = true := by decide +kernel
set_option maxRecDepth 65536 in
theorem w_runnable : about1.curStatus? = some .runnable := by decide +kernel
set_option maxRecDepth 65536 in
theorem w_alone : about1.alone = true := by decide +kernel
set_option maxRecDepth 65536 in
theorem w_named : about1.methodNamed? x = some theMethod := by decide +kernel
set_option maxRecDepth 65536 in
theorem w_hears : about1.hears theMethod below0 = true := by decide +kernel
set_option maxRecDepth 65536 in
theorem w_ripe : about1.ripe theMethod args0 below0 = true := by decide +kernel
theorem w_running : about1.status = .running := rfl
set_option maxRecDepth 65536 in
theorem w_room : about1.hasRoom e0.platform room_1 = true :=
  launch0.hasRoom_least _ room_1 (by decide +kernel) (by decide +kernel) (by decide +kernel) (by decide +kernel) (by decide +kernel) (by decide +kernel)
theorem allAtoms_all (ts : List Jvm.Cond) (a : Array Jvm.Value) (st : Jvm.State) : (allAtoms ts).before a st = ts.all (fun c => c.before a st) := by
  induction ts with
  | nil => rfl
  | cons c t ih =>
    show (Jvm.Cond.and c (allAtoms t)).before a st = _
    rw [Jvm.Cond.before_and, ih, List.all_cons]
def words1 : List Jvm.Cond := Jvm.Cond.code x code maxLocals ret :: tables_1
/-- a 'code' word, met by the world's own term for the bytes: nothing is compared byte by byte -/
theorem code_word {y : MethodName} {bytes : ByteArray} {mx : Nat} {rt : Option FieldType} {a : Array Value} {s : State} {m : MethodId} {meth : Method} {c : Code} (h1 : s.methodNamed? y = some m) (h2 : s.vm.method? m = some meth) (h3 : meth.code = some c) (h4 : c.code = bytes)
    (h5 : (c.maxLocals == mx && c.exceptionTable.isEmpty && decide (c.maxStack ≤ mostOperands) && decide (meth.sig.returnType = rt) && !meth.locks && decide (parseMethodDescriptor y.desc = some meth.sig)) = true) : (Jvm.Cond.code y bytes mx rt).before a s = true := by
  simp only [Bool.and_eq_true, beq_iff_eq, Bool.not_eq_true', decide_eq_true_eq] at h5
  obtain ⟨⟨⟨⟨⟨g1, g2⟩, g3⟩, g4⟩, g5⟩, g6⟩ := h5
  simp [Cond.before, Cond.holds, Cond.value, h1, h2, h3, h4, g1, g2, g3, g4, g5, g6]
def isCode : Jvm.Cond → Bool
  | .code _ _ _ _ => true
  | _ => false
theorem all_split {L : List Jvm.Cond} {P : Jvm.Cond → Bool} (h1 : L.all (fun c => isCode c || P c) = true) (h2 : ∀ c ∈ L.filter isCode, P c = true) : L.all P = true := by
  refine List.all_eq_true.mpr fun c hc => ?_
  have h := List.all_eq_true.mp h1 c hc
  rcases Bool.eq_false_or_eq_true (isCode c) with hi | hi
  · exact h2 c (List.mem_filter.mpr ⟨hc, hi⟩)
  · simpa [hi] using h
set_option maxRecDepth 65536 in
theorem w_c0 : (Jvm.Cond.code x code maxLocals ret).before args0 about1 = true := code_word (m := ⟨1, 2⟩) (meth := k1m2) (c := k1c2) (by decide +kernel) rfl rfl rfl (by decide +kernel)
set_option maxRecDepth 65536 in
theorem w_c1 : (Jvm.Cond.code ({ cls := "com/example/countersign/countersign/util/PercentCoding", name := "isUnreserved", desc := "(C)Z" } : Jvm.MethodName) prog_66_method_12_code (1 : Nat) (Option.some Jvm.ClassFile.FieldType.boolean)).before args0 about1 = true := code_word (m := ⟨2, 1⟩) (meth := k2m1) (c := k2c1) (by decide +kernel) rfl rfl rfl (by decide +kernel)
set_option maxRecDepth 65536 in
theorem w_c2 : (Jvm.Cond.code ({ cls := "com/example/countersign/countersign/util/PercentCodingIsUnreservedPinLaw", name := "expected", desc := "(C)Z" } : Jvm.MethodName) method_2_code (1 : Nat) (Option.some Jvm.ClassFile.FieldType.boolean)).before args0 about1 = true := code_word (m := ⟨1, 1⟩) (meth := k1m1) (c := k1c1) (by decide +kernel) rfl rfl rfl (by decide +kernel)
def codes1 : List Jvm.Cond := [Jvm.Cond.code x code maxLocals ret, Jvm.Cond.code ({ cls := "com/example/countersign/countersign/util/PercentCoding", name := "isUnreserved", desc := "(C)Z" } : Jvm.MethodName) prog_66_method_12_code (1 : Nat) (Option.some Jvm.ClassFile.FieldType.boolean), Jvm.Cond.code ({ cls := "com/example/countersign/countersign/util/PercentCodingIsUnreservedPinLaw", name := "expected", desc := "(C)Z" } : Jvm.MethodName) method_2_code (1 : Nat) (Option.some Jvm.ClassFile.FieldType.boolean)]
set_option maxRecDepth 65536 in
theorem codes_eq : words1.filter isCode = codes1 := rfl
theorem w_codes : ∀ c ∈ words1.filter isCode, c.before args0 about1 = true := by
  rw [codes_eq]
  intro c hc
  simp only [codes1, List.mem_cons, List.not_mem_nil, or_false] at hc
  rcases hc with rfl | rfl | rfl
  · exact w_c0
  · exact w_c1
  · exact w_c2
set_option maxRecDepth 65536 in
theorem w_t1 : words1.all (fun c => isCode c || c.before args0 about1) = true := by decide +kernel
theorem w_tables : (allAtoms (Jvm.Cond.code x code maxLocals ret :: tables_1)).before args0 about1 = true := by
  rw [allAtoms_all]
  show words1.all (fun c => c.before args0 about1) = true
  refine all_split ?_ w_codes
  rw [w_t1]
set_option maxRecDepth 65536 in
theorem w_case : (Jvm.Cond.and given_1 narrow_1).before args0 about1 = true := by decide +kernel
theorem w_applies : (headSpec (Jvm.Cond.code x code maxLocals ret :: tables_1) room_1).applies x e0.platform about1 = true :=
  (Spec.applies_iff w_frames).mpr ⟨w_running, w_runnable, w_alone, w_named, w_hears, w_ripe, w_room, w_tables⟩
theorem atStart : AtStart classFile x code maxLocals ret World_1 tables_1 room_1 Calls_1 rest_1 Pre_1 launch0 p0 e0 about1 theMethod args0 below0 :=
  ⟨lists_1, trivial, launch0.admits_env _ _ _, launch0.least_env, fairChoices_fair.cas, fairChoices_fair.clock, w_frames, w_args, w_heap, w_applies, trivial, trivial, w_case⟩
end start1
theorem witness_1 : WitnessClaimed_1 := ⟨start1.p0, start1.e0, start1.about1, start1.theMethod, start1.args0, start1.below0, start1.atStart⟩
end Jvm.Pilot.@@N@@
