import JvmDerived
import JvmDerived.Pilot.@@N@@Statement
import JvmDerived.Pilot.@@N@@Code
set_option linter.unusedVariables false
set_option linter.unusedSimpArgs false
@@BLOCK:NumsL.lean.txt@@
namespace Jvm.RoadKit
open Sem ClassFile Op Lib Jvm.Stand Jvm.Free Jvm.LawKit
section New
variable {p : Program} {l : Launch} {e : Env} {R : Room} {s : State} {m : MethodId} {args : Array Value} {below : List Frame} {meth : Method} {c : Code} {T : State} {locs : List Loc} {cells slots : Nat}
theorem retI (X : Stand p l e R s m args below meth c T locs cells slots) (hx : p.tables.exec = Jvm.exec) {pc : Nat} {Ls : Array Slot} {z : Int32} {rest : List Value} (hret : meth.sig.returnType = some .int) (hd : decode c.code pc = .ok (.ireturn, 1)) {fs : List Frame}
    (hl : ∀ (f : JFrame) (acts : List Action), f.method = m → f.locked = none → f.entered = [] → (doReturn e (T.setTop f) acts (some (.int z))).1 = T.setFrames fs) : Steps p.tables e below (T.setTop (mkF m pc Ls (.int z :: rest))) (T.setFrames fs) := by
  have hm' : T.vm.method? m = some meth := X.method'
  have hn : narrow .int (.int z) = .int z := rfl
  show Steps p.tables e below (T.setTop { method := m, pc := pc, locals := Ls, stack := _ :: rest, locked := none }) _
  jvm_step X.here [X.here.top, hx, hd, hm', hret, hn]
  first | (intro acts; rw [hl _ acts rfl rfl rfl]) | rw [hl _ _ rfl rfl rfl]
  exact Steps.refl _
end New
end Jvm.RoadKit
namespace Jvm.Pilot.@@N@@
open Jvm Jvm.ClassFile Sem Op Lib Jvm.Free Jvm.Stand Jvm.LawKit Jvm.RoadKit Bundle Jvm.Pilot.@@N@@.Jvm.D
def QR (h0 : Heap) (n0 : Nat) (r : Value) (v : Option Value) (h : Heap) (L : List Loc) : Prop := v = some r ∧ Fr n0 L ∧ h = h0
abbrev Ret (l : Launch) (Z : State) (h0 : Heap) (n0 : Nat) (y : MethodName) (bytes : ByteArray) (mx : Nat) (rt : Option FieldType) (rm : Room) (as' : Array Value) (r : Value) : Prop :=
  MetFree l y (head1 (Jvm.Cond.code y bytes mx rt :: []) rm) (fun a U => a = as' ∧ Z.Warmed39 U.vm ∧ U.heap = h0) (fun _ _ _ _ _ => True) (fun _ U o U' => ∃ v L, o = .returned v ∧ QR h0 n0 r v U'.heap L ∧ FrameEnd U o U' L rm.cells rm.slots)
theorem d2_0 : decode prog_14_method_7_code 0 = .ok (.lload_n 0, 1) := by decide +kernel
theorem d2_1 : decode prog_14_method_7_code 1 = .ok (.lconst 1, 1) := by decide +kernel
theorem d2_2 : decode prog_14_method_7_code 2 = .ok (.iload_n 2, 1) := by decide +kernel
theorem d2_3 : decode prog_14_method_7_code 3 = .ok (.lshl, 1) := by decide +kernel
theorem d2_4 : decode prog_14_method_7_code 4 = .ok (.ladd, 1) := by decide +kernel
theorem d2_5 : decode prog_14_method_7_code 5 = .ok (.lconst 1, 1) := by decide +kernel
theorem d2_6 : decode prog_14_method_7_code 6 = .ok (.lsub, 1) := by decide +kernel
theorem d2_7 : decode prog_14_method_7_code 7 = .ok (.iload_n 2, 1) := by decide +kernel
theorem d2_8 : decode prog_14_method_7_code 8 = .ok (.lushr, 1) := by decide +kernel
theorem d2_9 : decode prog_14_method_7_code 9 = .ok (.l2i, 1) := by decide +kernel
theorem d2_10 : decode prog_14_method_7_code 10 = .ok (.ireturn, 1) := by decide +kernel
theorem pn_2 : plainName "com/example/cowbird/cowbird/table/Words" = true := by first | (simp [plainName, overriddenIn]; done) | decide +kernel
theorem ef_2 (m : MethodId) (x0 : Int64) (x1 : Int32) : entryFrame m #[(.long x0), (.int x1)] 3 = mkF m 0 #[.val (.long x0), .second, .val (.int x1)] [] := by first | (simp [entryFrame, mkF, argsToLocals, Value.category]; done) | rfl
def Q2_x (Z : State) (q1 : Int64) (p2 : Int32) (h0 : Heap) (n0 : Nat) (v : Option Value) (h : Heap) (L : List Loc) : Prop := v = some (.int (((((q1 + ((1 : Int64) <<< (p2 &&& 0x3f).toInt64)) - (1 : Int64)).toUInt64 >>> (p2 &&& 0x3f).toInt64.toUInt64).toInt64).toInt32)) ∧ Fr n0 L ∧ h = h0
set_option maxRecDepth 65536 in
set_option maxHeartbeats 40000000 in
theorem rm2_x (l : Launch) (Z : State) (a0 : Array Value) (hw : ∀ d ∈ tables_1, d.before a0 Z = true) (ws : List Jvm.Cond) (q1 : Int64) (p2 : Int32) (h0 : Heap) (n0 : Nat) (Z0 : n0 ≤ h0.size) :
    MetFree l (⟨"com/example/cowbird/cowbird/table/Words", "pageCount", "(JI)I"⟩ : MethodName) (head1 (Jvm.Cond.code (⟨"com/example/cowbird/cowbird/table/Words", "pageCount", "(JI)I"⟩ : MethodName) prog_14_method_7_code 3 (some .int) :: ws) ({ frames := 0, cells := 0, slots := 0, locals := 0 } : Room)) (fun a U => a = #[(.long q1), (.int p2)] ∧ Z.Warmed39 U.vm ∧ U.heap = h0) (fun _ _ _ _ _ => True) (fun _ U o U' => ∃ v L, o = .returned v ∧ Q2_x Z q1 p2 h0 n0 v U'.heap L ∧ FrameEnd U o U' L ({ frames := 0, cells := 0, slots := 0, locals := 0 } : Room).cells ({ frames := 0, cells := 0, slots := 0, locals := 0 } : Room).slots) := by
  refine MetFree.of_bodySF (plainFor_of_name pn_2) hisR ?_
  intro p e s m args below meth c s₁ Bd hml0 hP hK
  obtain ⟨rfl, hZ, hh⟩ := hP
  have hx := Bd.exec
  have hby := Bd.bytes
  have hml : c.maxLocals = 3 := hml0
  have hown : s.vm.findClass "com/example/cowbird/cowbird/table/Words" = some m.cls := findClass_of_methodNamed Bd.named
  have hnm := (name_of_methodNamed Bd.named Bd.method).1
  have X0 : Stand p l e ({ frames := 0, cells := 0, slots := 0, locals := 0 } : Room) s m #[(.long q1), (.int p2)] below meth c s₁ [] 0 0 := Stand.of_body Bd
  have e0 : s₁.heap = h0 := by rw [← hh, Bd.state]; rfl
  have N0 := Fr.nil n0
  have pre0 : ∀ t, Steps p.tables e below (s₁.setTop (mkF m 0 #[.val (.long q1), .second, .val (.int p2)] [])) t → Steps p.tables e below (s₁.setTop (entryFrame m #[(.long q1), (.int p2)] 3)) t := fun t k => castTop (ef_2 m q1 p2) k


  obtain ⟨fs, hr, hrun, hended, hW, hsame⟩ := X0.leave (v := some (.int (((((q1 + ((1 : Int64) <<< (p2 &&& 0x3f).toInt64)) - (1 : Int64)).toUInt64 >>> (p2 &&& 0x3f).toInt64.toUInt64).toInt64).toInt32))) (fun h => by rw [Bd.returns] at h; cases h)
  refine ⟨_, _, pre0 _ ?_, hrun, hended, _, _, rfl, ?_, ⟨_, rfl⟩, hW, hsame.mono (by decide) (by decide)⟩

  · show Steps p.tables e below (s₁.setTop (mkF m 0 #[.val (.long q1), .second, .val (.int p2)] [])) _
    refine XS.lloadN X0.here hx rfl (hb hby d2_0) rfl ?_
    show Steps p.tables e below (s₁.setTop (mkF m 1 #[.val (.long q1), .second, .val (.int p2)] [(.long q1)])) _
    refine XS.lconst X0.here hx rfl (hb hby d2_1) ?_
    show Steps p.tables e below (s₁.setTop (mkF m 2 #[.val (.long q1), .second, .val (.int p2)] [(.long (1 : Int64)), (.long q1)])) _
    refine XS.iloadN X0.here hx rfl (hb hby d2_2) rfl ?_
    show Steps p.tables e below (s₁.setTop (mkF m 3 #[.val (.long q1), .second, .val (.int p2)] [(.int p2), (.long (1 : Int64)), (.long q1)])) _
    refine XS.lshl X0.here hx rfl (hb hby d2_3) rfl ?_
    show Steps p.tables e below (s₁.setTop (mkF m 4 #[.val (.long q1), .second, .val (.int p2)] [(.long ((1 : Int64) <<< (p2 &&& 0x3f).toInt64)), (.long q1)])) _
    refine XS.ladd X0.here hx rfl (hb hby d2_4) rfl ?_
    show Steps p.tables e below (s₁.setTop (mkF m 5 #[.val (.long q1), .second, .val (.int p2)] [(.long (q1 + ((1 : Int64) <<< (p2 &&& 0x3f).toInt64)))])) _
    refine XS.lconst X0.here hx rfl (hb hby d2_5) ?_
    show Steps p.tables e below (s₁.setTop (mkF m 6 #[.val (.long q1), .second, .val (.int p2)] [(.long (1 : Int64)), (.long (q1 + ((1 : Int64) <<< (p2 &&& 0x3f).toInt64)))])) _
    refine XS.lsub X0.here hx rfl (hb hby d2_6) rfl ?_
    show Steps p.tables e below (s₁.setTop (mkF m 7 #[.val (.long q1), .second, .val (.int p2)] [(.long ((q1 + ((1 : Int64) <<< (p2 &&& 0x3f).toInt64)) - (1 : Int64)))])) _
    refine XS.iloadN X0.here hx rfl (hb hby d2_7) rfl ?_
    show Steps p.tables e below (s₁.setTop (mkF m 8 #[.val (.long q1), .second, .val (.int p2)] [(.int p2), (.long ((q1 + ((1 : Int64) <<< (p2 &&& 0x3f).toInt64)) - (1 : Int64)))])) _
    refine XS.lushr X0.here hx rfl (hb hby d2_8) rfl ?_
    show Steps p.tables e below (s₁.setTop (mkF m 9 #[.val (.long q1), .second, .val (.int p2)] [(.long ((((q1 + ((1 : Int64) <<< (p2 &&& 0x3f).toInt64)) - (1 : Int64)).toUInt64 >>> (p2 &&& 0x3f).toInt64.toUInt64).toInt64))])) _
    refine XS.l2i X0.here hx rfl (hb hby d2_9) rfl ?_
    show Steps p.tables e below (s₁.setTop (mkF m 10 #[.val (.long q1), .second, .val (.int p2)] [(.int (((((q1 + ((1 : Int64) <<< (p2 &&& 0x3f).toInt64)) - (1 : Int64)).toUInt64 >>> (p2 &&& 0x3f).toInt64.toUInt64).toInt64).toInt32))])) _
    exact retI X0 hx Bd.returns (hb hby d2_10) hr
  · show Q2_x Z q1 p2 h0 n0 _ s₁.heap _
    rw [e0]
    exact ⟨rfl, N0, rfl⟩
theorem d6_0 : decode jdk_29_method_70_code 0 = .ok (.lload_n 0, 1) := by decide +kernel
theorem d6_1 : decode jdk_29_method_70_code 1 = .ok (.lload_n 2, 1) := by decide +kernel
theorem d6_2 : decode jdk_29_method_70_code 2 = .ok (.lcmp, 1) := by decide +kernel
theorem d6_3 : decode jdk_29_method_70_code 3 = .ok (.ifCond .gt 7, 3) := by decide +kernel
theorem d6_10 : decode jdk_29_method_70_code 10 = .ok (.lload_n 2, 1) := by decide +kernel
theorem d6_11 : decode jdk_29_method_70_code 11 = .ok (.lreturn, 1) := by decide +kernel
theorem ef_6 (m : MethodId) (x0 : Int64) (x1 : Int64) : entryFrame m #[(.long x0), (.long x1)] 4 = mkF m 0 #[.val (.long x0), .second, .val (.long x1), .second] [] := by first | (simp [entryFrame, mkF, argsToLocals, Value.category]; done) | rfl
def Q6_t (Z : State) (q1 : Int64) (q2 : Int64) (h0 : Heap) (n0 : Nat) (v : Option Value) (h : Heap) (L : List Loc) : Prop := v = some (.long q2) ∧ Fr n0 L ∧ h = h0
set_option maxRecDepth 65536 in
set_option maxHeartbeats 40000000 in
theorem rm6_t (l : Launch) (Z : State) (a0 : Array Value) (hw : ∀ d ∈ tables_1, d.before a0 Z = true) (ws : List Jvm.Cond) (q1 : Int64) (q2 : Int64) (h0 : Heap) (n0 : Nat) (Z0 : n0 ≤ h0.size) (hc3 : (0 : Int32) < (lcmpW q1 q2)) :
    MetFree l (⟨"java/lang/Math", "min", "(JJ)J"⟩ : MethodName) (head1 (Jvm.Cond.code (⟨"java/lang/Math", "min", "(JJ)J"⟩ : MethodName) jdk_29_method_70_code 4 (some .long) :: ws) ({ frames := 0, cells := 0, slots := 0, locals := 0 } : Room)) (fun a U => a = #[(.long q1), (.long q2)] ∧ Z.Warmed39 U.vm ∧ U.heap = h0) (fun _ _ _ _ _ => True) (fun _ U o U' => ∃ v L, o = .returned v ∧ Q6_t Z q1 q2 h0 n0 v U'.heap L ∧ FrameEnd U o U' L ({ frames := 0, cells := 0, slots := 0, locals := 0 } : Room).cells ({ frames := 0, cells := 0, slots := 0, locals := 0 } : Room).slots) := by
  refine MetFree.of_bodySF (Jvm.Free.JP.mathPlain rfl (by decide +kernel)) hisR ?_
  intro p e s m args below meth c s₁ Bd hml0 hP hK
  obtain ⟨rfl, hZ, hh⟩ := hP
  have hx := Bd.exec
  have hby := Bd.bytes
  have hml : c.maxLocals = 4 := hml0
  have hown : s.vm.findClass "java/lang/Math" = some m.cls := findClass_of_methodNamed Bd.named
  have hnm := (name_of_methodNamed Bd.named Bd.method).1
  have X0 : Stand p l e ({ frames := 0, cells := 0, slots := 0, locals := 0 } : Room) s m #[(.long q1), (.long q2)] below meth c s₁ [] 0 0 := Stand.of_body Bd
  have e0 : s₁.heap = h0 := by rw [← hh, Bd.state]; rfl
  have N0 := Fr.nil n0
  have pre0 : ∀ t, Steps p.tables e below (s₁.setTop (mkF m 0 #[.val (.long q1), .second, .val (.long q2), .second] [])) t → Steps p.tables e below (s₁.setTop (entryFrame m #[(.long q1), (.long q2)] 4)) t := fun t k => castTop (ef_6 m q1 q2) k


  obtain ⟨fs, hr, hrun, hended, hW, hsame⟩ := X0.leave (v := some (.long q2)) (fun h => by rw [Bd.returns] at h; cases h)
  refine ⟨_, _, pre0 _ ?_, hrun, hended, _, _, rfl, ?_, ⟨_, rfl⟩, hW, hsame.mono (by decide) (by decide)⟩

  · show Steps p.tables e below (s₁.setTop (mkF m 0 #[.val (.long q1), .second, .val (.long q2), .second] [])) _
    refine XS.lloadN X0.here hx rfl (hb hby d6_0) rfl ?_
    show Steps p.tables e below (s₁.setTop (mkF m 1 #[.val (.long q1), .second, .val (.long q2), .second] [(.long q1)])) _
    refine XS.lloadN X0.here hx rfl (hb hby d6_1) rfl ?_
    show Steps p.tables e below (s₁.setTop (mkF m 2 #[.val (.long q1), .second, .val (.long q2), .second] [(.long q2), (.long q1)])) _
    refine XS.lcmp X0.here hx rfl (hb hby d6_2) rfl ?_
    show Steps p.tables e below (s₁.setTop (mkF m 3 #[.val (.long q1), .second, .val (.long q2), .second] [(.int (lcmpW q1 q2))])) _
    refine XS.ifYes X0.here hx rfl (pc0 := 3) (pc' := 10) rfl (hb hby d6_3) rfl ((if0 _ _).trans (tlt hc3).2.2.1) (by decide) (by decide) ?_
    show Steps p.tables e below (s₁.setTop (mkF m 10 #[.val (.long q1), .second, .val (.long q2), .second] [])) _
    refine XS.lloadN X0.here hx rfl (hb hby d6_10) rfl ?_
    show Steps p.tables e below (s₁.setTop (mkF m 11 #[.val (.long q1), .second, .val (.long q2), .second] [(.long q2)])) _
    jvm_step X0.here [X0.here.top, hx, (hb hby d6_11), X0.method', Bd.returns, narrow]
    first | (intro acts; rw [hr _ acts rfl rfl rfl]) | rw [hr _ _ rfl rfl rfl]
    exact Steps.refl _
  · show Q6_t Z q1 q2 h0 n0 _ s₁.heap _
    rw [e0]
    exact ⟨rfl, N0, rfl⟩
theorem d6_6 : decode jdk_29_method_70_code 6 = .ok (.lload_n 0, 1) := by decide +kernel
theorem d6_7 : decode jdk_29_method_70_code 7 = .ok (.goto 4, 3) := by decide +kernel
def Q6_f (Z : State) (q1 : Int64) (q2 : Int64) (h0 : Heap) (n0 : Nat) (v : Option Value) (h : Heap) (L : List Loc) : Prop := v = some (.long q1) ∧ Fr n0 L ∧ h = h0
set_option maxRecDepth 65536 in
set_option maxHeartbeats 40000000 in
theorem rm6_f (l : Launch) (Z : State) (a0 : Array Value) (hw : ∀ d ∈ tables_1, d.before a0 Z = true) (ws : List Jvm.Cond) (q1 : Int64) (q2 : Int64) (h0 : Heap) (n0 : Nat) (Z0 : n0 ≤ h0.size) (hc3 : ¬ ((0 : Int32) < (lcmpW q1 q2))) :
    MetFree l (⟨"java/lang/Math", "min", "(JJ)J"⟩ : MethodName) (head1 (Jvm.Cond.code (⟨"java/lang/Math", "min", "(JJ)J"⟩ : MethodName) jdk_29_method_70_code 4 (some .long) :: ws) ({ frames := 0, cells := 0, slots := 0, locals := 0 } : Room)) (fun a U => a = #[(.long q1), (.long q2)] ∧ Z.Warmed39 U.vm ∧ U.heap = h0) (fun _ _ _ _ _ => True) (fun _ U o U' => ∃ v L, o = .returned v ∧ Q6_f Z q1 q2 h0 n0 v U'.heap L ∧ FrameEnd U o U' L ({ frames := 0, cells := 0, slots := 0, locals := 0 } : Room).cells ({ frames := 0, cells := 0, slots := 0, locals := 0 } : Room).slots) := by
  refine MetFree.of_bodySF (Jvm.Free.JP.mathPlain rfl (by decide +kernel)) hisR ?_
  intro p e s m args below meth c s₁ Bd hml0 hP hK
  obtain ⟨rfl, hZ, hh⟩ := hP
  have hx := Bd.exec
  have hby := Bd.bytes
  have hml : c.maxLocals = 4 := hml0
  have hown : s.vm.findClass "java/lang/Math" = some m.cls := findClass_of_methodNamed Bd.named
  have hnm := (name_of_methodNamed Bd.named Bd.method).1
  have X0 : Stand p l e ({ frames := 0, cells := 0, slots := 0, locals := 0 } : Room) s m #[(.long q1), (.long q2)] below meth c s₁ [] 0 0 := Stand.of_body Bd
  have e0 : s₁.heap = h0 := by rw [← hh, Bd.state]; rfl
  have N0 := Fr.nil n0
  have pre0 : ∀ t, Steps p.tables e below (s₁.setTop (mkF m 0 #[.val (.long q1), .second, .val (.long q2), .second] [])) t → Steps p.tables e below (s₁.setTop (entryFrame m #[(.long q1), (.long q2)] 4)) t := fun t k => castTop (ef_6 m q1 q2) k


  obtain ⟨fs, hr, hrun, hended, hW, hsame⟩ := X0.leave (v := some (.long q1)) (fun h => by rw [Bd.returns] at h; cases h)
  refine ⟨_, _, pre0 _ ?_, hrun, hended, _, _, rfl, ?_, ⟨_, rfl⟩, hW, hsame.mono (by decide) (by decide)⟩

  · show Steps p.tables e below (s₁.setTop (mkF m 0 #[.val (.long q1), .second, .val (.long q2), .second] [])) _
    refine XS.lloadN X0.here hx rfl (hb hby d6_0) rfl ?_
    show Steps p.tables e below (s₁.setTop (mkF m 1 #[.val (.long q1), .second, .val (.long q2), .second] [(.long q1)])) _
    refine XS.lloadN X0.here hx rfl (hb hby d6_1) rfl ?_
    show Steps p.tables e below (s₁.setTop (mkF m 2 #[.val (.long q1), .second, .val (.long q2), .second] [(.long q2), (.long q1)])) _
    refine XS.lcmp X0.here hx rfl (hb hby d6_2) rfl ?_
    show Steps p.tables e below (s₁.setTop (mkF m 3 #[.val (.long q1), .second, .val (.long q2), .second] [(.int (lcmpW q1 q2))])) _
    refine XS.ifNo X0.here hx rfl (hb hby d6_3) rfl ((if0 _ _).trans (flt hc3).2.2.1) ?_
    show Steps p.tables e below (s₁.setTop (mkF m 6 #[.val (.long q1), .second, .val (.long q2), .second] [])) _
    refine XS.lloadN X0.here hx rfl (hb hby d6_6) rfl ?_
    show Steps p.tables e below (s₁.setTop (mkF m 7 #[.val (.long q1), .second, .val (.long q2), .second] [(.long q1)])) _
    refine XS.goto X0.here hx rfl (pc0 := 7) (pc' := 11) rfl (hb hby d6_7) (by decide) (by decide) ?_
    show Steps p.tables e below (s₁.setTop (mkF m 11 #[.val (.long q1), .second, .val (.long q2), .second] [(.long q1)])) _
    jvm_step X0.here [X0.here.top, hx, (hb hby d6_11), X0.method', Bd.returns, narrow]
    first | (intro acts; rw [hr _ acts rfl rfl rfl]) | rw [hr _ _ rfl rfl rfl]
    exact Steps.refl _
  · show Q6_f Z q1 q2 h0 n0 _ s₁.heap _
    rw [e0]
    exact ⟨rfl, N0, rfl⟩
theorem d5_0 : decode prog_14_method_8_code 0 = .ok (.lconst 1, 1) := by decide +kernel
theorem d5_1 : decode prog_14_method_8_code 1 = .ok (.iload_n 2, 1) := by decide +kernel
theorem d5_2 : decode prog_14_method_8_code 2 = .ok (.lshl, 1) := by decide +kernel
theorem d5_3 : decode prog_14_method_8_code 3 = .ok (.lload_n 0, 1) := by decide +kernel
theorem d5_4 : decode prog_14_method_8_code 4 = .ok (.iload_n 3, 1) := by decide +kernel
theorem d5_5 : decode prog_14_method_8_code 5 = .ok (.i2l, 1) := by decide +kernel
theorem d5_6 : decode prog_14_method_8_code 6 = .ok (.iload_n 2, 1) := by decide +kernel
theorem d5_7 : decode prog_14_method_8_code 7 = .ok (.lshl, 1) := by decide +kernel
theorem d5_8 : decode prog_14_method_8_code 8 = .ok (.lsub, 1) := by decide +kernel
theorem d5_9 : decode prog_14_method_8_code 9 = .ok (.invokestatic 40, 3) := by decide +kernel
theorem d5_12 : decode prog_14_method_8_code 12 = .ok (.l2i, 1) := by decide +kernel
theorem d5_13 : decode prog_14_method_8_code 13 = .ok (.ireturn, 1) := by decide +kernel
theorem pn_5 : plainName "com/example/cowbird/cowbird/table/Words" = true := by first | (simp [plainName, overriddenIn]; done) | decide +kernel
theorem pd_5_5 : parseMethodDescriptor "(JJ)J" = some ⟨[.long, .long], some .long⟩ := by decide +kernel
theorem ef_5 (m : MethodId) (x0 : Int64) (x1 : Int32) (x2 : Int32) : entryFrame m #[(.long x0), (.int x1), (.int x2)] 4 = mkF m 0 #[.val (.long x0), .second, .val (.int x1), .val (.int x2)] [] := by first | (simp [entryFrame, mkF, argsToLocals, Value.category]; done) | rfl
def Q5_x (Z : State) (q1 : Int64) (p2 : Int32) (p3 : Int32) (r4 : Int64) (h0 : Heap) (n0 : Nat) (v : Option Value) (h : Heap) (L : List Loc) : Prop := v = some (.int (r4.toInt32)) ∧ Fr n0 L ∧ h = h0
set_option maxRecDepth 65536 in
set_option maxHeartbeats 40000000 in
theorem rm5_x (l : Launch) (Z : State) (a0 : Array Value) (hw : ∀ d ∈ tables_1, d.before a0 Z = true) (ws : List Jvm.Cond) (q1 : Int64) (p2 : Int32) (p3 : Int32) (r4 : Int64) (h0 : Heap) (n0 : Nat) (Z0 : n0 ≤ h0.size) (hM4 : Ret l Z h0 n0 (⟨"java/lang/Math", "min", "(JJ)J"⟩ : MethodName) jdk_29_method_70_code 4 (some .long) ({ frames := 0, cells := 0, slots := 0, locals := 0 } : Room) #[(.long ((1 : Int64) <<< (p2 &&& 0x3f).toInt64)), (.long (q1 - ((p3.toInt64) <<< (p2 &&& 0x3f).toInt64)))] (.long r4)) :
    MetFree l (⟨"com/example/cowbird/cowbird/table/Words", "pageLength", "(JII)I"⟩ : MethodName) (head1 (Jvm.Cond.code (⟨"com/example/cowbird/cowbird/table/Words", "pageLength", "(JII)I"⟩ : MethodName) prog_14_method_8_code 4 (some .int) :: ws) ({ frames := 1, cells := 0, slots := 0, locals := 15 } : Room)) (fun a U => a = #[(.long q1), (.int p2), (.int p3)] ∧ Z.Warmed39 U.vm ∧ U.heap = h0) (fun _ _ _ _ _ => True) (fun _ U o U' => ∃ v L, o = .returned v ∧ Q5_x Z q1 p2 p3 r4 h0 n0 v U'.heap L ∧ FrameEnd U o U' L ({ frames := 1, cells := 0, slots := 0, locals := 15 } : Room).cells ({ frames := 1, cells := 0, slots := 0, locals := 15 } : Room).slots) := by
  refine MetFree.of_bodySF (plainFor_of_name pn_5) hisR ?_
  intro p e s m args below meth c s₁ Bd hml0 hP hK
  obtain ⟨rfl, hZ, hh⟩ := hP
  have hx := Bd.exec
  have hby := Bd.bytes
  have hml : c.maxLocals = 4 := hml0
  have hown : s.vm.findClass "com/example/cowbird/cowbird/table/Words" = some m.cls := findClass_of_methodNamed Bd.named
  have hnm := (name_of_methodNamed Bd.named Bd.method).1
  have X0 : Stand p l e ({ frames := 1, cells := 0, slots := 0, locals := 15 } : Room) s m #[(.long q1), (.int p2), (.int p3)] below meth c s₁ [] 0 0 := Stand.of_body Bd
  have e0 : s₁.heap = h0 := by rw [← hh, Bd.state]; rfl
  have N0 := Fr.nil n0
  have pre0 : ∀ t, Steps p.tables e below (s₁.setTop (mkF m 0 #[.val (.long q1), .second, .val (.int p2), .val (.int p3)] [])) t → Steps p.tables e below (s₁.setTop (entryFrame m #[(.long q1), (.int p2), (.int p3)] 4)) t := fun t k => castTop (ef_5 m q1 p2 p3) k


  obtain ⟨_, _, ⟨T4, L4, k4, n4⟩, -, X4, ⟨Lc4, hQ4, l4, y4, z4⟩, st4⟩ := Jvm.LawKit.callS X0 hx (y := (⟨"java/lang/Math", "min", "(JJ)J"⟩ : MethodName)) hown (mvT hZ (hw _ (List.mem_of_getElem? (i := 29) rfl))) (mvT hZ (hw _ (List.mem_of_getElem? (i := 30) rfl))) (mvT hZ (hw _ (List.mem_of_getElem? (i := 31) rfl))) (mvT hZ (hw _ (List.mem_of_getElem? (i := 32) rfl))) (by decide) (backOf (W := 0) hM4 hZ (hw _ (List.mem_of_getElem? (i := 32) rfl)) (hw _ (List.mem_of_getElem? (i := 31) rfl)) (by decide) (by decide)) (g := (mkF m 9 #[.val (.long q1), .second, .val (.int p2), .val (.int p3)] [(.long (q1 - ((p3.toInt64) <<< (p2 &&& 0x3f).toInt64))), (.long ((1 : Int64) <<< (p2 &&& 0x3f).toInt64))])) rfl (by rw [hml]; rfl) (argsL := [(.long ((1 : Int64) <<< (p2 &&& 0x3f).toInt64)), (.long (q1 - ((p3.toInt64) <<< (p2 &&& 0x3f).toInt64)))]) (rest := []) (lenOf pd_5_5 rfl) rfl (by show 2 * 0 + _ ≤ _; exact Nat.le_of_eq rfl) (hb hby d5_9) (fun _ _ => ⟨rfl, e0, (by decide : 0 + 0 ≤ _), (by decide : 0 + 0 ≤ _)⟩)
  dsimp only [Pt.U, Pt.locs, Pt.cells, Pt.slots] at X4 l4 y4 z4 st4 hQ4
  subst l4 y4 z4
  obtain ⟨rfl, N4q, eQ4⟩ := hQ4
  have N4 := Fr.app N0 N4q
  obtain ⟨fs, hr, hrun, hended, hW, hsame⟩ := X4.leave (v := some (.int (r4.toInt32))) (fun h => by rw [Bd.returns] at h; cases h)
  refine ⟨_, _, pre0 _ ?_, hrun, hended, _, _, rfl, ?_, ⟨_, rfl⟩, hW, hsame.mono (by decide) (by decide)⟩

  · show Steps p.tables e below (s₁.setTop (mkF m 0 #[.val (.long q1), .second, .val (.int p2), .val (.int p3)] [])) _
    refine XS.lconst X0.here hx rfl (hb hby d5_0) ?_
    show Steps p.tables e below (s₁.setTop (mkF m 1 #[.val (.long q1), .second, .val (.int p2), .val (.int p3)] [(.long (1 : Int64))])) _
    refine XS.iloadN X0.here hx rfl (hb hby d5_1) rfl ?_
    show Steps p.tables e below (s₁.setTop (mkF m 2 #[.val (.long q1), .second, .val (.int p2), .val (.int p3)] [(.int p2), (.long (1 : Int64))])) _
    refine XS.lshl X0.here hx rfl (hb hby d5_2) rfl ?_
    show Steps p.tables e below (s₁.setTop (mkF m 3 #[.val (.long q1), .second, .val (.int p2), .val (.int p3)] [(.long ((1 : Int64) <<< (p2 &&& 0x3f).toInt64))])) _
    refine XS.lloadN X0.here hx rfl (hb hby d5_3) rfl ?_
    show Steps p.tables e below (s₁.setTop (mkF m 4 #[.val (.long q1), .second, .val (.int p2), .val (.int p3)] [(.long q1), (.long ((1 : Int64) <<< (p2 &&& 0x3f).toInt64))])) _
    refine XS.iloadN X0.here hx rfl (hb hby d5_4) rfl ?_
    show Steps p.tables e below (s₁.setTop (mkF m 5 #[.val (.long q1), .second, .val (.int p2), .val (.int p3)] [(.int p3), (.long q1), (.long ((1 : Int64) <<< (p2 &&& 0x3f).toInt64))])) _
    refine XS.i2l X0.here hx rfl (hb hby d5_5) rfl ?_
    show Steps p.tables e below (s₁.setTop (mkF m 6 #[.val (.long q1), .second, .val (.int p2), .val (.int p3)] [(.long (p3.toInt64)), (.long q1), (.long ((1 : Int64) <<< (p2 &&& 0x3f).toInt64))])) _
    refine XS.iloadN X0.here hx rfl (hb hby d5_6) rfl ?_
    show Steps p.tables e below (s₁.setTop (mkF m 7 #[.val (.long q1), .second, .val (.int p2), .val (.int p3)] [(.int p2), (.long (p3.toInt64)), (.long q1), (.long ((1 : Int64) <<< (p2 &&& 0x3f).toInt64))])) _
    refine XS.lshl X0.here hx rfl (hb hby d5_7) rfl ?_
    show Steps p.tables e below (s₁.setTop (mkF m 8 #[.val (.long q1), .second, .val (.int p2), .val (.int p3)] [(.long ((p3.toInt64) <<< (p2 &&& 0x3f).toInt64)), (.long q1), (.long ((1 : Int64) <<< (p2 &&& 0x3f).toInt64))])) _
    refine XS.lsub X0.here hx rfl (hb hby d5_8) rfl ?_
    show Steps p.tables e below (s₁.setTop (mkF m 9 #[.val (.long q1), .second, .val (.int p2), .val (.int p3)] [(.long (q1 - ((p3.toInt64) <<< (p2 &&& 0x3f).toInt64))), (.long ((1 : Int64) <<< (p2 &&& 0x3f).toInt64))])) _
    refine st4 _ ?_
    show Steps p.tables e below (T4.setTop (mkF m 12 #[.val (.long q1), .second, .val (.int p2), .val (.int p3)] [(.long r4)])) _
    refine XS.l2i X4.here hx rfl (hb hby d5_12) rfl ?_
    show Steps p.tables e below (T4.setTop (mkF m 13 #[.val (.long q1), .second, .val (.int p2), .val (.int p3)] [(.int (r4.toInt32))])) _
    exact retI X4 hx Bd.returns (hb hby d5_13) hr
  · show Q5_x Z q1 p2 p3 r4 h0 n0 _ T4.heap _
    rw [eQ4]
    exact ⟨rfl, N4, rfl⟩
theorem d3_0 : decode prog_14_method_3_code 0 = .ok (.aload_n 0, 1) := by decide +kernel
theorem d3_1 : decode prog_14_method_3_code 1 = .ok (.invokespecial 24, 3) := by decide +kernel
theorem d3_4 : decode prog_14_method_3_code 4 = .ok (.aload_n 0, 1) := by decide +kernel
theorem d3_5 : decode prog_14_method_3_code 5 = .ok (.aload_n 1, 1) := by decide +kernel
theorem d3_6 : decode prog_14_method_3_code 6 = .ok (.putfield 16, 3) := by decide +kernel
theorem d3_9 : decode prog_14_method_3_code 9 = .ok (.aload_n 0, 1) := by decide +kernel
theorem d3_10 : decode prog_14_method_3_code 10 = .ok (.iload_n 2, 1) := by decide +kernel
theorem d3_11 : decode prog_14_method_3_code 11 = .ok (.putfield 29, 3) := by decide +kernel
theorem d3_14 : decode prog_14_method_3_code 14 = .ok (.aload_n 0, 1) := by decide +kernel
theorem d3_15 : decode prog_14_method_3_code 15 = .ok (.lconst 1, 1) := by decide +kernel
theorem d3_16 : decode prog_14_method_3_code 16 = .ok (.iload_n 2, 1) := by decide +kernel
theorem d3_17 : decode prog_14_method_3_code 17 = .ok (.lshl, 1) := by decide +kernel
theorem d3_18 : decode prog_14_method_3_code 18 = .ok (.lconst 1, 1) := by decide +kernel
theorem d3_19 : decode prog_14_method_3_code 19 = .ok (.lsub, 1) := by decide +kernel
theorem d3_20 : decode prog_14_method_3_code 20 = .ok (.putfield 33, 3) := by decide +kernel
theorem d3_23 : decode prog_14_method_3_code 23 = .ok (.aload_n 0, 1) := by decide +kernel
theorem d3_24 : decode prog_14_method_3_code 24 = .ok (.lload_n 3, 1) := by decide +kernel
theorem d3_25 : decode prog_14_method_3_code 25 = .ok (.putfield 37, 3) := by decide +kernel
theorem d3_28 : decode prog_14_method_3_code 28 = .ok (.return_, 1) := by decide +kernel
theorem pn_3 : plainName "com/example/cowbird/cowbird/table/Words" = true := by first | (simp [plainName, overriddenIn]; done) | decide +kernel
theorem ef_3 (m : MethodId) (x0 : Addr) (x1 : Addr) (x2 : Int32) (x3 : Int64) : entryFrame m #[(.ref x0), (.ref x1), (.int x2), (.long x3)] 5 = mkF m 0 #[.val (.ref x0), .val (.ref x1), .val (.int x2), .val (.long x3), .second] [] := by first | (simp [entryFrame, mkF, argsToLocals, Value.category]; done) | rfl
def Q3_x (Z : State) (a1 : Addr) (a2 : Addr) (p3 : Int32) (q4 : Int64) (u_pages_a1 : Value) (u_pageShift_a1 : Value) (u_pageMask_a1 : Value) (u_length_a1 : Value) (h0 : Heap) (n0 : Nat) (v : Option Value) (h : Heap) (L : List Loc) : Prop := v = none ∧ Fr n0 L ∧ Keep h0 h [a1] ∧ Exa Z h a1 "com/example/cowbird/cowbird/table/Words" ∧ Fld Z h a1 "com/example/cowbird/cowbird/table/Words" "pages" "[[J" (.ref a2) ∧ Fld Z h a1 "com/example/cowbird/cowbird/table/Words" "pageShift" "I" (.int p3) ∧ Fld Z h a1 "com/example/cowbird/cowbird/table/Words" "pageMask" "J" (.long (((1 : Int64) <<< (p3 &&& 0x3f).toInt64) - (1 : Int64))) ∧ Fld Z h a1 "com/example/cowbird/cowbird/table/Words" "length" "J" (.long q4)
set_option maxRecDepth 65536 in
set_option maxHeartbeats 40000000 in
theorem rm3_x (l : Launch) (Z : State) (a0 : Array Value) (hw : ∀ d ∈ tables_1, d.before a0 Z = true) (ws : List Jvm.Cond) (a1 : Addr) (a2 : Addr) (p3 : Int32) (q4 : Int64) (u_pages_a1 : Value) (u_pageShift_a1 : Value) (u_pageMask_a1 : Value) (u_length_a1 : Value) (h0 : Heap) (n0 : Nat) (Z0 : n0 ≤ h0.size) (E_a1 : Exa Z h0 a1 "com/example/cowbird/cowbird/table/Words") (F_pages_a1 : Fld Z h0 a1 "com/example/cowbird/cowbird/table/Words" "pages" "[[J" u_pages_a1) (g_a1 : n0 ≤ a1) (F_pageShift_a1 : Fld Z h0 a1 "com/example/cowbird/cowbird/table/Words" "pageShift" "I" u_pageShift_a1) (F_pageMask_a1 : Fld Z h0 a1 "com/example/cowbird/cowbird/table/Words" "pageMask" "J" u_pageMask_a1) (F_length_a1 : Fld Z h0 a1 "com/example/cowbird/cowbird/table/Words" "length" "J" u_length_a1) :
    MetFree l (⟨"com/example/cowbird/cowbird/table/Words", "<init>", "([[JIJ)V"⟩ : MethodName) (head1 (Jvm.Cond.code (⟨"com/example/cowbird/cowbird/table/Words", "<init>", "([[JIJ)V"⟩ : MethodName) prog_14_method_3_code 5 none :: ws) ({ frames := 1, cells := 0, slots := 0, locals := 12 } : Room)) (fun a U => a = #[(.ref a1), (.ref a2), (.int p3), (.long q4)] ∧ Z.Warmed39 U.vm ∧ U.heap = h0) (fun _ _ _ _ _ => True) (fun _ U o U' => ∃ v L, o = .returned v ∧ Q3_x Z a1 a2 p3 q4 u_pages_a1 u_pageShift_a1 u_pageMask_a1 u_length_a1 h0 n0 v U'.heap L ∧ FrameEnd U o U' L ({ frames := 1, cells := 0, slots := 0, locals := 12 } : Room).cells ({ frames := 1, cells := 0, slots := 0, locals := 12 } : Room).slots) := by
  refine MetFree.of_bodySF (plainFor_of_name pn_3) hisR ?_
  intro p e s m args below meth c s₁ Bd hml0 hP hK
  obtain ⟨rfl, hZ, hh⟩ := hP
  have hx := Bd.exec
  have hby := Bd.bytes
  have hml : c.maxLocals = 5 := hml0
  have hown : s.vm.findClass "com/example/cowbird/cowbird/table/Words" = some m.cls := findClass_of_methodNamed Bd.named
  have hnm := (name_of_methodNamed Bd.named Bd.method).1
  have X0 : Stand p l e ({ frames := 1, cells := 0, slots := 0, locals := 12 } : Room) s m #[(.ref a1), (.ref a2), (.int p3), (.long q4)] below meth c s₁ [] 0 0 := Stand.of_body Bd
  have e0 : s₁.heap = h0 := by rw [← hh, Bd.state]; rfl
  have N0 := Fr.nil n0
  have pre0 : ∀ t, Steps p.tables e below (s₁.setTop (mkF m 0 #[.val (.ref a1), .val (.ref a2), .val (.int p3), .val (.long q4), .second] [])) t → Steps p.tables e below (s₁.setTop (entryFrame m #[(.ref a1), (.ref a2), (.int p3), (.long q4)] 5)) t := fun t k => castTop (ef_3 m a1 a2 p3 q4) k

  obtain ⟨T5, X5, e5, st5⟩ := initO X0 hx hZ hown (hw _ (List.mem_of_getElem? (i := 15) rfl)) (hw _ (List.mem_of_getElem? (i := 16) rfl)) (hw _ (List.mem_of_getElem? (i := 17) rfl)) e0 (g := (mkF m 1 #[.val (.ref a1), .val (.ref a2), .val (.int p3), .val (.long q4), .second] [(.ref a1)])) rfl (by rw [hml]; rfl) rfl (hb hby d3_1) (by decide) (W := 0) (by show 2 * 0 + _ ≤ _; exact Nat.le_of_eq rfl) (by decide)
  obtain ⟨T6, h6, X6, e6, W6, st6⟩ := putF X5 hx hZ hown (host := "") (Or.inl (hw _ (List.mem_of_getElem? (i := 18) rfl))) Via.refl e5 F_pages_a1 E_a1 (Or.inr ⟨(hw _ (List.mem_of_getElem? (i := 19) rfl)), rfl, hnm⟩) (hw _ (List.mem_of_getElem? (i := 2) rfl)) (ty := (.array (.array .long))) (by decide) rfl rfl (g := (mkF m 6 #[.val (.ref a1), .val (.ref a2), .val (.int p3), .val (.long q4), .second] [(.ref a2), (.ref a1)])) rfl rfl (hb hby d3_6)
  have Fw6 := F_pages_a1.same W6
  have K6 : Keep h0 h6 [a1] := (Keep.refl h0 [a1]).wr W6 (Or.inl (List.mem_of_getElem? (i := 0) rfl))
  have N6 := Fr.snoc X6 N0 g_a1
  obtain ⟨T7, h7, X7, e7, W7, st7⟩ := putF X6 hx hZ hown (host := "") (Or.inl (hw _ (List.mem_of_getElem? (i := 20) rfl))) Via.refl e6 (F_pageShift_a1.other W6 (Or.inr (slot_ne (Or.inr (hw _ (List.mem_of_getElem? (i := 21) rfl))) (Or.inr (hw _ (List.mem_of_getElem? (i := 19) rfl))) (by decide) (t := .int) (t' := (.array (.array .long))) (by decide) (by decide)))) (E_a1.wr W6) (Or.inr ⟨(hw _ (List.mem_of_getElem? (i := 21) rfl)), rfl, hnm⟩) (hw _ (List.mem_of_getElem? (i := 2) rfl)) (ty := .int) (by decide) rfl rfl (g := (mkF m 11 #[.val (.ref a1), .val (.ref a2), .val (.int p3), .val (.long q4), .second] [(.int p3), (.ref a1)])) rfl rfl (hb hby d3_11)
  have Fw7 := (F_pageShift_a1.other W6 (Or.inr (slot_ne (Or.inr (hw _ (List.mem_of_getElem? (i := 21) rfl))) (Or.inr (hw _ (List.mem_of_getElem? (i := 19) rfl))) (by decide) (t := .int) (t' := (.array (.array .long))) (by decide) (by decide)))).same W7
  have K7 : Keep h0 h7 [a1] := K6.wr W7 (Or.inl (List.mem_of_getElem? (i := 0) rfl))
  have N7 := Fr.snoc X7 N6 g_a1
  obtain ⟨T8, h8, X8, e8, W8, st8⟩ := putF X7 hx hZ hown (host := "") (Or.inl (hw _ (List.mem_of_getElem? (i := 22) rfl))) Via.refl e7 ((F_pageMask_a1.other W6 (Or.inr (slot_ne (Or.inr (hw _ (List.mem_of_getElem? (i := 23) rfl))) (Or.inr (hw _ (List.mem_of_getElem? (i := 19) rfl))) (by decide) (t := .long) (t' := (.array (.array .long))) (by decide) (by decide)))).other W7 (Or.inr (slot_ne (Or.inr (hw _ (List.mem_of_getElem? (i := 23) rfl))) (Or.inr (hw _ (List.mem_of_getElem? (i := 21) rfl))) (by decide) (t := .long) (t' := .int) (by decide) (by decide)))) ((E_a1.wr W6).wr W7) (Or.inr ⟨(hw _ (List.mem_of_getElem? (i := 23) rfl)), rfl, hnm⟩) (hw _ (List.mem_of_getElem? (i := 2) rfl)) (ty := .long) (by decide) rfl rfl (g := (mkF m 20 #[.val (.ref a1), .val (.ref a2), .val (.int p3), .val (.long q4), .second] [(.long (((1 : Int64) <<< (p3 &&& 0x3f).toInt64) - (1 : Int64))), (.ref a1)])) rfl rfl (hb hby d3_20)
  have Fw8 := ((F_pageMask_a1.other W6 (Or.inr (slot_ne (Or.inr (hw _ (List.mem_of_getElem? (i := 23) rfl))) (Or.inr (hw _ (List.mem_of_getElem? (i := 19) rfl))) (by decide) (t := .long) (t' := (.array (.array .long))) (by decide) (by decide)))).other W7 (Or.inr (slot_ne (Or.inr (hw _ (List.mem_of_getElem? (i := 23) rfl))) (Or.inr (hw _ (List.mem_of_getElem? (i := 21) rfl))) (by decide) (t := .long) (t' := .int) (by decide) (by decide)))).same W8
  have K8 : Keep h0 h8 [a1] := K7.wr W8 (Or.inl (List.mem_of_getElem? (i := 0) rfl))
  have N8 := Fr.snoc X8 N7 g_a1
  obtain ⟨T9, h9, X9, e9, W9, st9⟩ := putF X8 hx hZ hown (host := "") (Or.inl (hw _ (List.mem_of_getElem? (i := 24) rfl))) Via.refl e8 (((F_length_a1.other W6 (Or.inr (slot_ne (Or.inr (hw _ (List.mem_of_getElem? (i := 25) rfl))) (Or.inr (hw _ (List.mem_of_getElem? (i := 19) rfl))) (by decide) (t := .long) (t' := (.array (.array .long))) (by decide) (by decide)))).other W7 (Or.inr (slot_ne (Or.inr (hw _ (List.mem_of_getElem? (i := 25) rfl))) (Or.inr (hw _ (List.mem_of_getElem? (i := 21) rfl))) (by decide) (t := .long) (t' := .int) (by decide) (by decide)))).other W8 (Or.inr (slot_ne (Or.inr (hw _ (List.mem_of_getElem? (i := 25) rfl))) (Or.inr (hw _ (List.mem_of_getElem? (i := 23) rfl))) (by decide) (t := .long) (t' := .long) (by decide) (by decide)))) (((E_a1.wr W6).wr W7).wr W8) (Or.inr ⟨(hw _ (List.mem_of_getElem? (i := 25) rfl)), rfl, hnm⟩) (hw _ (List.mem_of_getElem? (i := 2) rfl)) (ty := .long) (by decide) rfl rfl (g := (mkF m 25 #[.val (.ref a1), .val (.ref a2), .val (.int p3), .val (.long q4), .second] [(.long q4), (.ref a1)])) rfl rfl (hb hby d3_25)
  have Fw9 := (((F_length_a1.other W6 (Or.inr (slot_ne (Or.inr (hw _ (List.mem_of_getElem? (i := 25) rfl))) (Or.inr (hw _ (List.mem_of_getElem? (i := 19) rfl))) (by decide) (t := .long) (t' := (.array (.array .long))) (by decide) (by decide)))).other W7 (Or.inr (slot_ne (Or.inr (hw _ (List.mem_of_getElem? (i := 25) rfl))) (Or.inr (hw _ (List.mem_of_getElem? (i := 21) rfl))) (by decide) (t := .long) (t' := .int) (by decide) (by decide)))).other W8 (Or.inr (slot_ne (Or.inr (hw _ (List.mem_of_getElem? (i := 25) rfl))) (Or.inr (hw _ (List.mem_of_getElem? (i := 23) rfl))) (by decide) (t := .long) (t' := .long) (by decide) (by decide)))).same W9
  have K9 : Keep h0 h9 [a1] := K8.wr W9 (Or.inl (List.mem_of_getElem? (i := 0) rfl))
  have N9 := Fr.snoc X9 N8 g_a1
  obtain ⟨fs, hr, hrun, hended, hW, hsame⟩ := X9.leave (v := none) (fun _ => rfl)
  refine ⟨_, _, pre0 _ ?_, hrun, hended, _, _, rfl, ?_, ⟨_, rfl⟩, hW, hsame.mono (by decide) (by decide)⟩

  · show Steps p.tables e below (s₁.setTop (mkF m 0 #[.val (.ref a1), .val (.ref a2), .val (.int p3), .val (.long q4), .second] [])) _
    refine XS.aloadN X0.here hx rfl (hb hby d3_0) rfl rfl ?_
    show Steps p.tables e below (s₁.setTop (mkF m 1 #[.val (.ref a1), .val (.ref a2), .val (.int p3), .val (.long q4), .second] [(.ref a1)])) _
    refine st5 _ ?_
    show Steps p.tables e below (T5.setTop (mkF m 4 #[.val (.ref a1), .val (.ref a2), .val (.int p3), .val (.long q4), .second] [])) _
    refine XS.aloadN X5.here hx rfl (hb hby d3_4) rfl rfl ?_
    show Steps p.tables e below (T5.setTop (mkF m 5 #[.val (.ref a1), .val (.ref a2), .val (.int p3), .val (.long q4), .second] [(.ref a1)])) _
    refine XS.aloadN X5.here hx rfl (hb hby d3_5) rfl rfl ?_
    show Steps p.tables e below (T5.setTop (mkF m 6 #[.val (.ref a1), .val (.ref a2), .val (.int p3), .val (.long q4), .second] [(.ref a2), (.ref a1)])) _
    refine st6 _ ?_
    show Steps p.tables e below (T6.setTop (mkF m 9 #[.val (.ref a1), .val (.ref a2), .val (.int p3), .val (.long q4), .second] [])) _
    refine XS.aloadN X6.here hx rfl (hb hby d3_9) rfl rfl ?_
    show Steps p.tables e below (T6.setTop (mkF m 10 #[.val (.ref a1), .val (.ref a2), .val (.int p3), .val (.long q4), .second] [(.ref a1)])) _
    refine XS.iloadN X6.here hx rfl (hb hby d3_10) rfl ?_
    show Steps p.tables e below (T6.setTop (mkF m 11 #[.val (.ref a1), .val (.ref a2), .val (.int p3), .val (.long q4), .second] [(.int p3), (.ref a1)])) _
    refine st7 _ ?_
    show Steps p.tables e below (T7.setTop (mkF m 14 #[.val (.ref a1), .val (.ref a2), .val (.int p3), .val (.long q4), .second] [])) _
    refine XS.aloadN X7.here hx rfl (hb hby d3_14) rfl rfl ?_
    show Steps p.tables e below (T7.setTop (mkF m 15 #[.val (.ref a1), .val (.ref a2), .val (.int p3), .val (.long q4), .second] [(.ref a1)])) _
    refine XS.lconst X7.here hx rfl (hb hby d3_15) ?_
    show Steps p.tables e below (T7.setTop (mkF m 16 #[.val (.ref a1), .val (.ref a2), .val (.int p3), .val (.long q4), .second] [(.long (1 : Int64)), (.ref a1)])) _
    refine XS.iloadN X7.here hx rfl (hb hby d3_16) rfl ?_
    show Steps p.tables e below (T7.setTop (mkF m 17 #[.val (.ref a1), .val (.ref a2), .val (.int p3), .val (.long q4), .second] [(.int p3), (.long (1 : Int64)), (.ref a1)])) _
    refine XS.lshl X7.here hx rfl (hb hby d3_17) rfl ?_
    show Steps p.tables e below (T7.setTop (mkF m 18 #[.val (.ref a1), .val (.ref a2), .val (.int p3), .val (.long q4), .second] [(.long ((1 : Int64) <<< (p3 &&& 0x3f).toInt64)), (.ref a1)])) _
    refine XS.lconst X7.here hx rfl (hb hby d3_18) ?_
    show Steps p.tables e below (T7.setTop (mkF m 19 #[.val (.ref a1), .val (.ref a2), .val (.int p3), .val (.long q4), .second] [(.long (1 : Int64)), (.long ((1 : Int64) <<< (p3 &&& 0x3f).toInt64)), (.ref a1)])) _
    refine XS.lsub X7.here hx rfl (hb hby d3_19) rfl ?_
    show Steps p.tables e below (T7.setTop (mkF m 20 #[.val (.ref a1), .val (.ref a2), .val (.int p3), .val (.long q4), .second] [(.long (((1 : Int64) <<< (p3 &&& 0x3f).toInt64) - (1 : Int64))), (.ref a1)])) _
    refine st8 _ ?_
    show Steps p.tables e below (T8.setTop (mkF m 23 #[.val (.ref a1), .val (.ref a2), .val (.int p3), .val (.long q4), .second] [])) _
    refine XS.aloadN X8.here hx rfl (hb hby d3_23) rfl rfl ?_
    show Steps p.tables e below (T8.setTop (mkF m 24 #[.val (.ref a1), .val (.ref a2), .val (.int p3), .val (.long q4), .second] [(.ref a1)])) _
    refine XS.lloadN X8.here hx rfl (hb hby d3_24) rfl ?_
    show Steps p.tables e below (T8.setTop (mkF m 25 #[.val (.ref a1), .val (.ref a2), .val (.int p3), .val (.long q4), .second] [(.long q4), (.ref a1)])) _
    refine st9 _ ?_
    show Steps p.tables e below (T9.setTop (mkF m 28 #[.val (.ref a1), .val (.ref a2), .val (.int p3), .val (.long q4), .second] [])) _
    exact X9.returnOut hx Bd.returns (hb hby d3_28) hr
  · show Q3_x Z a1 a2 p3 q4 u_pages_a1 u_pageShift_a1 u_pageMask_a1 u_length_a1 h0 n0 _ T9.heap _
    rw [e9]
    exact ⟨rfl, N9, K9, ((((E_a1.wr W6).wr W7).wr W8).wr W9), (((Fw6.other W7 (Or.inr (slot_ne (Or.inr (hw _ (List.mem_of_getElem? (i := 19) rfl))) (Or.inr (hw _ (List.mem_of_getElem? (i := 21) rfl))) (by decide) (t := (.array (.array .long))) (t' := .int) (by decide) (by decide)))).other W8 (Or.inr (slot_ne (Or.inr (hw _ (List.mem_of_getElem? (i := 19) rfl))) (Or.inr (hw _ (List.mem_of_getElem? (i := 23) rfl))) (by decide) (t := (.array (.array .long))) (t' := .long) (by decide) (by decide)))).other W9 (Or.inr (slot_ne (Or.inr (hw _ (List.mem_of_getElem? (i := 19) rfl))) (Or.inr (hw _ (List.mem_of_getElem? (i := 25) rfl))) (by decide) (t := (.array (.array .long))) (t' := .long) (by decide) (by decide)))), ((Fw7.other W8 (Or.inr (slot_ne (Or.inr (hw _ (List.mem_of_getElem? (i := 21) rfl))) (Or.inr (hw _ (List.mem_of_getElem? (i := 23) rfl))) (by decide) (t := .int) (t' := .long) (by decide) (by decide)))).other W9 (Or.inr (slot_ne (Or.inr (hw _ (List.mem_of_getElem? (i := 21) rfl))) (Or.inr (hw _ (List.mem_of_getElem? (i := 25) rfl))) (by decide) (t := .int) (t' := .long) (by decide) (by decide)))), (Fw8.other W9 (Or.inr (slot_ne (Or.inr (hw _ (List.mem_of_getElem? (i := 23) rfl))) (Or.inr (hw _ (List.mem_of_getElem? (i := 25) rfl))) (by decide) (t := .long) (t' := .long) (by decide) (by decide)))), Fw9⟩
theorem d7_0 : decode prog_14_method_5_code 0 = .ok (.aload_n 0, 1) := by decide +kernel
theorem d7_1 : decode prog_14_method_5_code 1 = .ok (.getfield 16, 3) := by decide +kernel
theorem d7_4 : decode prog_14_method_5_code 4 = .ok (.lload_n 1, 1) := by decide +kernel
theorem d7_5 : decode prog_14_method_5_code 5 = .ok (.aload_n 0, 1) := by decide +kernel
theorem d7_6 : decode prog_14_method_5_code 6 = .ok (.getfield 29, 3) := by decide +kernel
theorem d7_9 : decode prog_14_method_5_code 9 = .ok (.lushr, 1) := by decide +kernel
theorem d7_10 : decode prog_14_method_5_code 10 = .ok (.l2i, 1) := by decide +kernel
theorem d7_11 : decode prog_14_method_5_code 11 = .ok (.aaload, 1) := by decide +kernel
theorem d7_12 : decode prog_14_method_5_code 12 = .ok (.lload_n 1, 1) := by decide +kernel
theorem d7_13 : decode prog_14_method_5_code 13 = .ok (.aload_n 0, 1) := by decide +kernel
theorem d7_14 : decode prog_14_method_5_code 14 = .ok (.getfield 33, 3) := by decide +kernel
theorem d7_17 : decode prog_14_method_5_code 17 = .ok (.land, 1) := by decide +kernel
theorem d7_18 : decode prog_14_method_5_code 18 = .ok (.l2i, 1) := by decide +kernel
theorem d7_19 : decode prog_14_method_5_code 19 = .ok (.laload, 1) := by decide +kernel
theorem d7_20 : decode prog_14_method_5_code 20 = .ok (.lreturn, 1) := by decide +kernel
theorem pn_7 : plainName "com/example/cowbird/cowbird/table/Words" = true := by first | (simp [plainName, overriddenIn]; done) | decide +kernel
theorem ef_7 (m : MethodId) (x0 : Addr) (x1 : Int64) : entryFrame m #[(.ref x0), (.long x1)] 3 = mkF m 0 #[.val (.ref x0), .val (.long x1), .second] [] := by first | (simp [entryFrame, mkF, argsToLocals, Value.category]; done) | rfl
def Q7_x (Z : State) (a1 : Addr) (q2 : Int64) (w3 : Addr) (w5 : Int32) (w7 : Addr) (cl_w3 : Cell) (w8 : Int64) (w10 : Int64) (cl_w7 : Cell) (h0 : Heap) (n0 : Nat) (v : Option Value) (h : Heap) (L : List Loc) : Prop := v = some (.long w10) ∧ Fr n0 L ∧ h = h0
set_option maxRecDepth 65536 in
set_option maxHeartbeats 40000000 in
theorem rm7_x (l : Launch) (Z : State) (a0 : Array Value) (hw : ∀ d ∈ tables_1, d.before a0 Z = true) (ws : List Jvm.Cond) (a1 : Addr) (q2 : Int64) (w3 : Addr) (w5 : Int32) (w7 : Addr) (cl_w3 : Cell) (w8 : Int64) (w10 : Int64) (cl_w7 : Cell) (h0 : Heap) (n0 : Nat) (Z0 : n0 ≤ h0.size) (F_pages_a1 : Fld Z h0 a1 "com/example/cowbird/cowbird/table/Words" "pages" "[[J" (.ref w3)) (F_pageShift_a1 : Fld Z h0 a1 "com/example/cowbird/cowbird/table/Words" "pageShift" "I" (.int w5)) (Ar_w3 : Arr Z h0 w3 cl_w3 (.array .long)) (hin11 : ¬ ((((q2.toUInt64 >>> (w5 &&& 0x3f).toInt64.toUInt64).toInt64).toInt32) < 0 ∨ cl_w3.slots.size ≤ ((((q2.toUInt64 >>> (w5 &&& 0x3f).toInt64.toUInt64).toInt64).toInt32)).toNatClampNeg)) (hat11 : cl_w3.slots[((((q2.toUInt64 >>> (w5 &&& 0x3f).toInt64.toUInt64).toInt64).toInt32)).toNatClampNeg]? = some (.ref w7)) (F_pageMask_a1 : Fld Z h0 a1 "com/example/cowbird/cowbird/table/Words" "pageMask" "J" (.long w8)) (Ar_w7 : Arr Z h0 w7 cl_w7 .long) (hin19 : ¬ (((q2 &&& w8).toInt32) < 0 ∨ cl_w7.slots.size ≤ (((q2 &&& w8).toInt32)).toNatClampNeg)) (hat19 : cl_w7.slots[(((q2 &&& w8).toInt32)).toNatClampNeg]? = some (.long w10)) :
    MetFree l (⟨"com/example/cowbird/cowbird/table/Words", "get", "(J)J"⟩ : MethodName) (head1 (Jvm.Cond.code (⟨"com/example/cowbird/cowbird/table/Words", "get", "(J)J"⟩ : MethodName) prog_14_method_5_code 3 (some .long) :: ws) ({ frames := 0, cells := 0, slots := 0, locals := 0 } : Room)) (fun a U => a = #[(.ref a1), (.long q2)] ∧ Z.Warmed39 U.vm ∧ U.heap = h0) (fun _ _ _ _ _ => True) (fun _ U o U' => ∃ v L, o = .returned v ∧ Q7_x Z a1 q2 w3 w5 w7 cl_w3 w8 w10 cl_w7 h0 n0 v U'.heap L ∧ FrameEnd U o U' L ({ frames := 0, cells := 0, slots := 0, locals := 0 } : Room).cells ({ frames := 0, cells := 0, slots := 0, locals := 0 } : Room).slots) := by
  refine MetFree.of_bodySF (plainFor_of_name pn_7) hisR ?_
  intro p e s m args below meth c s₁ Bd hml0 hP hK
  obtain ⟨rfl, hZ, hh⟩ := hP
  have hx := Bd.exec
  have hby := Bd.bytes
  have hml : c.maxLocals = 3 := hml0
  have hown : s.vm.findClass "com/example/cowbird/cowbird/table/Words" = some m.cls := findClass_of_methodNamed Bd.named
  have hnm := (name_of_methodNamed Bd.named Bd.method).1
  have X0 : Stand p l e ({ frames := 0, cells := 0, slots := 0, locals := 0 } : Room) s m #[(.ref a1), (.long q2)] below meth c s₁ [] 0 0 := Stand.of_body Bd
  have e0 : s₁.heap = h0 := by rw [← hh, Bd.state]; rfl
  have N0 := Fr.nil n0
  have pre0 : ∀ t, Steps p.tables e below (s₁.setTop (mkF m 0 #[.val (.ref a1), .val (.long q2), .second] [])) t → Steps p.tables e below (s₁.setTop (entryFrame m #[(.ref a1), (.long q2)] 3)) t := fun t k => castTop (ef_7 m a1 q2) k

  obtain ⟨T4, X4, e4, st4⟩ := getF X0 hx hZ hown (host := "") (Or.inl (hw _ (List.mem_of_getElem? (i := 18) rfl))) Via.refl e0 F_pages_a1 (g := (mkF m 1 #[.val (.ref a1), .val (.long q2), .second] [(.ref a1)])) rfl rfl (hb hby d7_1)
  obtain ⟨T6, X6, e6, st6⟩ := getF X4 hx hZ hown (host := "") (Or.inl (hw _ (List.mem_of_getElem? (i := 20) rfl))) Via.refl e4 F_pageShift_a1 (g := (mkF m 6 #[.val (.ref a1), .val (.long q2), .second] [(.ref a1), (.long q2), (.ref w3)])) rfl rfl (hb hby d7_6)
  obtain ⟨T9, X9, e9, st9⟩ := getF X6 hx hZ hown (host := "") (Or.inl (hw _ (List.mem_of_getElem? (i := 22) rfl))) Via.refl e6 F_pageMask_a1 (g := (mkF m 14 #[.val (.ref a1), .val (.long q2), .second] [(.ref a1), (.long q2), (.ref w7)])) rfl rfl (hb hby d7_14)
  obtain ⟨fs, hr, hrun, hended, hW, hsame⟩ := X9.leave (v := some (.long w10)) (fun h => by rw [Bd.returns] at h; cases h)
  refine ⟨_, _, pre0 _ ?_, hrun, hended, _, _, rfl, ?_, ⟨_, rfl⟩, hW, hsame.mono (by decide) (by decide)⟩

  · show Steps p.tables e below (s₁.setTop (mkF m 0 #[.val (.ref a1), .val (.long q2), .second] [])) _
    refine XS.aloadN X0.here hx rfl (hb hby d7_0) rfl rfl ?_
    show Steps p.tables e below (s₁.setTop (mkF m 1 #[.val (.ref a1), .val (.long q2), .second] [(.ref a1)])) _
    refine st4 _ ?_
    show Steps p.tables e below (T4.setTop (mkF m 4 #[.val (.ref a1), .val (.long q2), .second] [(.ref w3)])) _
    refine XS.lloadN X4.here hx rfl (hb hby d7_4) rfl ?_
    show Steps p.tables e below (T4.setTop (mkF m 5 #[.val (.ref a1), .val (.long q2), .second] [(.long q2), (.ref w3)])) _
    refine XS.aloadN X4.here hx rfl (hb hby d7_5) rfl rfl ?_
    show Steps p.tables e below (T4.setTop (mkF m 6 #[.val (.ref a1), .val (.long q2), .second] [(.ref a1), (.long q2), (.ref w3)])) _
    refine st6 _ ?_
    show Steps p.tables e below (T6.setTop (mkF m 9 #[.val (.ref a1), .val (.long q2), .second] [(.int w5), (.long q2), (.ref w3)])) _
    refine XS.lushr X6.here hx rfl (hb hby d7_9) rfl ?_
    show Steps p.tables e below (T6.setTop (mkF m 10 #[.val (.ref a1), .val (.long q2), .second] [(.long ((q2.toUInt64 >>> (w5 &&& 0x3f).toInt64.toUInt64).toInt64)), (.ref w3)])) _
    refine XS.l2i X6.here hx rfl (hb hby d7_10) rfl ?_
    show Steps p.tables e below (T6.setTop (mkF m 11 #[.val (.ref a1), .val (.long q2), .second] [(.int (((q2.toUInt64 >>> (w5 &&& 0x3f).toInt64.toUInt64).toInt64).toInt32)), (.ref w3)])) _
    refine X6.aaload hx (j := (((q2.toUInt64 >>> (w5 &&& 0x3f).toInt64.toUInt64).toInt64).toInt32)) (v := (.ref w7)) (by rw [e6]; exact Ar_w3.1) (State.isArrayOf_alike hZ.alike Ar_w3.2.1) rfl Ar_w3.2.2 hin11 hat11 (g := (mkF m 11 #[.val (.ref a1), .val (.long q2), .second] [(.int (((q2.toUInt64 >>> (w5 &&& 0x3f).toInt64.toUInt64).toInt64).toInt32)), (.ref w3)])) rfl rfl (hb hby d7_11) _ ?_
    show Steps p.tables e below (T6.setTop (mkF m 12 #[.val (.ref a1), .val (.long q2), .second] [(.ref w7)])) _
    refine XS.lloadN X6.here hx rfl (hb hby d7_12) rfl ?_
    show Steps p.tables e below (T6.setTop (mkF m 13 #[.val (.ref a1), .val (.long q2), .second] [(.long q2), (.ref w7)])) _
    refine XS.aloadN X6.here hx rfl (hb hby d7_13) rfl rfl ?_
    show Steps p.tables e below (T6.setTop (mkF m 14 #[.val (.ref a1), .val (.long q2), .second] [(.ref a1), (.long q2), (.ref w7)])) _
    refine st9 _ ?_
    show Steps p.tables e below (T9.setTop (mkF m 17 #[.val (.ref a1), .val (.long q2), .second] [(.long w8), (.long q2), (.ref w7)])) _
    refine XS.land X9.here hx rfl (hb hby d7_17) rfl ?_
    show Steps p.tables e below (T9.setTop (mkF m 18 #[.val (.ref a1), .val (.long q2), .second] [(.long (q2 &&& w8)), (.ref w7)])) _
    refine XS.l2i X9.here hx rfl (hb hby d7_18) rfl ?_
    show Steps p.tables e below (T9.setTop (mkF m 19 #[.val (.ref a1), .val (.long q2), .second] [(.int ((q2 &&& w8).toInt32)), (.ref w7)])) _
    refine X9.laload hx (j := ((q2 &&& w8).toInt32)) (v := (.long w10)) (by rw [e9]; exact Ar_w7.1) (State.isArrayOf_alike hZ.alike Ar_w7.2.1) Ar_w7.2.2 hin19 hat19 (g := (mkF m 19 #[.val (.ref a1), .val (.long q2), .second] [(.int ((q2 &&& w8).toInt32)), (.ref w7)])) rfl rfl (hb hby d7_19) _ ?_
    show Steps p.tables e below (T9.setTop (mkF m 20 #[.val (.ref a1), .val (.long q2), .second] [(.long w10)])) _
    jvm_step X9.here [X9.here.top, hx, (hb hby d7_20), X9.method', Bd.returns, narrow]
    first | (intro acts; rw [hr _ acts rfl rfl rfl]) | rw [hr _ _ rfl rfl rfl]
    exact Steps.refl _
  · show Q7_x Z a1 q2 w3 w5 w7 cl_w3 w8 w10 cl_w7 h0 n0 _ T9.heap _
    rw [e9]
    exact ⟨rfl, N0, rfl⟩
theorem d9_0 : decode prog_14_method_4_code 0 = .ok (.aload_n 0, 1) := by decide +kernel
theorem d9_1 : decode prog_14_method_4_code 1 = .ok (.getfield 37, 3) := by decide +kernel
theorem d9_4 : decode prog_14_method_4_code 4 = .ok (.lreturn, 1) := by decide +kernel
theorem pn_9 : plainName "com/example/cowbird/cowbird/table/Words" = true := by first | (simp [plainName, overriddenIn]; done) | decide +kernel
theorem ef_9 (m : MethodId) (x0 : Addr) : entryFrame m #[(.ref x0)] 1 = mkF m 0 #[.val (.ref x0)] [] := by first | (simp [entryFrame, mkF, argsToLocals, Value.category]; done) | rfl
def Q9_x (Z : State) (a1 : Addr) (w2 : Int64) (h0 : Heap) (n0 : Nat) (v : Option Value) (h : Heap) (L : List Loc) : Prop := v = some (.long w2) ∧ Fr n0 L ∧ h = h0
set_option maxRecDepth 65536 in
set_option maxHeartbeats 40000000 in
theorem rm9_x (l : Launch) (Z : State) (a0 : Array Value) (hw : ∀ d ∈ tables_1, d.before a0 Z = true) (ws : List Jvm.Cond) (a1 : Addr) (w2 : Int64) (h0 : Heap) (n0 : Nat) (Z0 : n0 ≤ h0.size) (F_length_a1 : Fld Z h0 a1 "com/example/cowbird/cowbird/table/Words" "length" "J" (.long w2)) :
    MetFree l (⟨"com/example/cowbird/cowbird/table/Words", "length", "()J"⟩ : MethodName) (head1 (Jvm.Cond.code (⟨"com/example/cowbird/cowbird/table/Words", "length", "()J"⟩ : MethodName) prog_14_method_4_code 1 (some .long) :: ws) ({ frames := 0, cells := 0, slots := 0, locals := 0 } : Room)) (fun a U => a = #[(.ref a1)] ∧ Z.Warmed39 U.vm ∧ U.heap = h0) (fun _ _ _ _ _ => True) (fun _ U o U' => ∃ v L, o = .returned v ∧ Q9_x Z a1 w2 h0 n0 v U'.heap L ∧ FrameEnd U o U' L ({ frames := 0, cells := 0, slots := 0, locals := 0 } : Room).cells ({ frames := 0, cells := 0, slots := 0, locals := 0 } : Room).slots) := by
  refine MetFree.of_bodySF (plainFor_of_name pn_9) hisR ?_
  intro p e s m args below meth c s₁ Bd hml0 hP hK
  obtain ⟨rfl, hZ, hh⟩ := hP
  have hx := Bd.exec
  have hby := Bd.bytes
  have hml : c.maxLocals = 1 := hml0
  have hown : s.vm.findClass "com/example/cowbird/cowbird/table/Words" = some m.cls := findClass_of_methodNamed Bd.named
  have hnm := (name_of_methodNamed Bd.named Bd.method).1
  have X0 : Stand p l e ({ frames := 0, cells := 0, slots := 0, locals := 0 } : Room) s m #[(.ref a1)] below meth c s₁ [] 0 0 := Stand.of_body Bd
  have e0 : s₁.heap = h0 := by rw [← hh, Bd.state]; rfl
  have N0 := Fr.nil n0
  have pre0 : ∀ t, Steps p.tables e below (s₁.setTop (mkF m 0 #[.val (.ref a1)] [])) t → Steps p.tables e below (s₁.setTop (entryFrame m #[(.ref a1)] 1)) t := fun t k => castTop (ef_9 m a1) k

  obtain ⟨T3, X3, e3, st3⟩ := getF X0 hx hZ hown (host := "") (Or.inl (hw _ (List.mem_of_getElem? (i := 24) rfl))) Via.refl e0 F_length_a1 (g := (mkF m 1 #[.val (.ref a1)] [(.ref a1)])) rfl rfl (hb hby d9_1)
  obtain ⟨fs, hr, hrun, hended, hW, hsame⟩ := X3.leave (v := some (.long w2)) (fun h => by rw [Bd.returns] at h; cases h)
  refine ⟨_, _, pre0 _ ?_, hrun, hended, _, _, rfl, ?_, ⟨_, rfl⟩, hW, hsame.mono (by decide) (by decide)⟩

  · show Steps p.tables e below (s₁.setTop (mkF m 0 #[.val (.ref a1)] [])) _
    refine XS.aloadN X0.here hx rfl (hb hby d9_0) rfl rfl ?_
    show Steps p.tables e below (s₁.setTop (mkF m 1 #[.val (.ref a1)] [(.ref a1)])) _
    refine st3 _ ?_
    show Steps p.tables e below (T3.setTop (mkF m 4 #[.val (.ref a1)] [(.long w2)])) _
    jvm_step X3.here [X3.here.top, hx, (hb hby d9_4), X3.method', Bd.returns, narrow]
    first | (intro acts; rw [hr _ acts rfl rfl rfl]) | rw [hr _ _ rfl rfl rfl]
    exact Steps.refl _
  · show Q9_x Z a1 w2 h0 n0 _ T3.heap _
    rw [e3]
    exact ⟨rfl, N0, rfl⟩
theorem d8_0 : decode prog_14_method_6_code 0 = .ok (.aload_n 0, 1) := by decide +kernel
theorem d8_1 : decode prog_14_method_6_code 1 = .ok (.getfield 16, 3) := by decide +kernel
theorem d8_4 : decode prog_14_method_6_code 4 = .ok (.lload_n 1, 1) := by decide +kernel
theorem d8_5 : decode prog_14_method_6_code 5 = .ok (.aload_n 0, 1) := by decide +kernel
theorem d8_6 : decode prog_14_method_6_code 6 = .ok (.getfield 29, 3) := by decide +kernel
theorem d8_9 : decode prog_14_method_6_code 9 = .ok (.lushr, 1) := by decide +kernel
theorem d8_10 : decode prog_14_method_6_code 10 = .ok (.l2i, 1) := by decide +kernel
theorem d8_11 : decode prog_14_method_6_code 11 = .ok (.aaload, 1) := by decide +kernel
theorem d8_12 : decode prog_14_method_6_code 12 = .ok (.lload_n 1, 1) := by decide +kernel
theorem d8_13 : decode prog_14_method_6_code 13 = .ok (.aload_n 0, 1) := by decide +kernel
theorem d8_14 : decode prog_14_method_6_code 14 = .ok (.getfield 33, 3) := by decide +kernel
theorem d8_17 : decode prog_14_method_6_code 17 = .ok (.land, 1) := by decide +kernel
theorem d8_18 : decode prog_14_method_6_code 18 = .ok (.l2i, 1) := by decide +kernel
theorem d8_19 : decode prog_14_method_6_code 19 = .ok (.lload_n 3, 1) := by decide +kernel
theorem d8_20 : decode prog_14_method_6_code 20 = .ok (.lastore, 1) := by decide +kernel
theorem d8_21 : decode prog_14_method_6_code 21 = .ok (.return_, 1) := by decide +kernel
theorem pn_8 : plainName "com/example/cowbird/cowbird/table/Words" = true := by first | (simp [plainName, overriddenIn]; done) | decide +kernel
theorem ef_8 (m : MethodId) (x0 : Addr) (x1 : Int64) (x2 : Int64) : entryFrame m #[(.ref x0), (.long x1), (.long x2)] 5 = mkF m 0 #[.val (.ref x0), .val (.long x1), .second, .val (.long x2), .second] [] := by first | (simp [entryFrame, mkF, argsToLocals, Value.category]; done) | rfl
def Q8_x (Z : State) (a1 : Addr) (q2 : Int64) (q3 : Int64) (w4 : Addr) (w6 : Int32) (w8 : Addr) (cl_w4 : Cell) (w9 : Int64) (cl_w8 : Cell) (h0 : Heap) (n0 : Nat) (v : Option Value) (h : Heap) (L : List Loc) : Prop := v = none ∧ Fr n0 L ∧ Wr h0 h w8 (((q2 &&& w9).toInt32)).toNatClampNeg (.long q3)
set_option maxRecDepth 65536 in
set_option maxHeartbeats 40000000 in
theorem rm8_x (l : Launch) (Z : State) (a0 : Array Value) (hw : ∀ d ∈ tables_1, d.before a0 Z = true) (ws : List Jvm.Cond) (a1 : Addr) (q2 : Int64) (q3 : Int64) (w4 : Addr) (w6 : Int32) (w8 : Addr) (cl_w4 : Cell) (w9 : Int64) (cl_w8 : Cell) (h0 : Heap) (n0 : Nat) (Z0 : n0 ≤ h0.size) (F_pages_a1 : Fld Z h0 a1 "com/example/cowbird/cowbird/table/Words" "pages" "[[J" (.ref w4)) (F_pageShift_a1 : Fld Z h0 a1 "com/example/cowbird/cowbird/table/Words" "pageShift" "I" (.int w6)) (Ar_w4 : Arr Z h0 w4 cl_w4 (.array .long)) (hin11 : ¬ ((((q2.toUInt64 >>> (w6 &&& 0x3f).toInt64.toUInt64).toInt64).toInt32) < 0 ∨ cl_w4.slots.size ≤ ((((q2.toUInt64 >>> (w6 &&& 0x3f).toInt64.toUInt64).toInt64).toInt32)).toNatClampNeg)) (hat11 : cl_w4.slots[((((q2.toUInt64 >>> (w6 &&& 0x3f).toInt64.toUInt64).toInt64).toInt32)).toNatClampNeg]? = some (.ref w8)) (F_pageMask_a1 : Fld Z h0 a1 "com/example/cowbird/cowbird/table/Words" "pageMask" "J" (.long w9)) (Ar_w8 : Arr Z h0 w8 cl_w8 .long) (hin20 : ¬ (((q2 &&& w9).toInt32) < 0 ∨ cl_w8.slots.size ≤ (((q2 &&& w9).toInt32)).toNatClampNeg)) (g_w8 : n0 ≤ w8) :
    MetFree l (⟨"com/example/cowbird/cowbird/table/Words", "set", "(JJ)V"⟩ : MethodName) (head1 (Jvm.Cond.code (⟨"com/example/cowbird/cowbird/table/Words", "set", "(JJ)V"⟩ : MethodName) prog_14_method_6_code 5 none :: ws) ({ frames := 0, cells := 0, slots := 0, locals := 0 } : Room)) (fun a U => a = #[(.ref a1), (.long q2), (.long q3)] ∧ Z.Warmed39 U.vm ∧ U.heap = h0) (fun _ _ _ _ _ => True) (fun _ U o U' => ∃ v L, o = .returned v ∧ Q8_x Z a1 q2 q3 w4 w6 w8 cl_w4 w9 cl_w8 h0 n0 v U'.heap L ∧ FrameEnd U o U' L ({ frames := 0, cells := 0, slots := 0, locals := 0 } : Room).cells ({ frames := 0, cells := 0, slots := 0, locals := 0 } : Room).slots) := by
  refine MetFree.of_bodySF (plainFor_of_name pn_8) hisR ?_
  intro p e s m args below meth c s₁ Bd hml0 hP hK
  obtain ⟨rfl, hZ, hh⟩ := hP
  have hx := Bd.exec
  have hby := Bd.bytes
  have hml : c.maxLocals = 5 := hml0
  have hown : s.vm.findClass "com/example/cowbird/cowbird/table/Words" = some m.cls := findClass_of_methodNamed Bd.named
  have hnm := (name_of_methodNamed Bd.named Bd.method).1
  have X0 : Stand p l e ({ frames := 0, cells := 0, slots := 0, locals := 0 } : Room) s m #[(.ref a1), (.long q2), (.long q3)] below meth c s₁ [] 0 0 := Stand.of_body Bd
  have e0 : s₁.heap = h0 := by rw [← hh, Bd.state]; rfl
  have N0 := Fr.nil n0
  have pre0 : ∀ t, Steps p.tables e below (s₁.setTop (mkF m 0 #[.val (.ref a1), .val (.long q2), .second, .val (.long q3), .second] [])) t → Steps p.tables e below (s₁.setTop (entryFrame m #[(.ref a1), (.long q2), (.long q3)] 5)) t := fun t k => castTop (ef_8 m a1 q2 q3) k

  obtain ⟨T5, X5, e5, st5⟩ := getF X0 hx hZ hown (host := "") (Or.inl (hw _ (List.mem_of_getElem? (i := 18) rfl))) Via.refl e0 F_pages_a1 (g := (mkF m 1 #[.val (.ref a1), .val (.long q2), .second, .val (.long q3), .second] [(.ref a1)])) rfl rfl (hb hby d8_1)
  obtain ⟨T7, X7, e7, st7⟩ := getF X5 hx hZ hown (host := "") (Or.inl (hw _ (List.mem_of_getElem? (i := 20) rfl))) Via.refl e5 F_pageShift_a1 (g := (mkF m 6 #[.val (.ref a1), .val (.long q2), .second, .val (.long q3), .second] [(.ref a1), (.long q2), (.ref w4)])) rfl rfl (hb hby d8_6)
  obtain ⟨T10, X10, e10, st10⟩ := getF X7 hx hZ hown (host := "") (Or.inl (hw _ (List.mem_of_getElem? (i := 22) rfl))) Via.refl e7 F_pageMask_a1 (g := (mkF m 14 #[.val (.ref a1), .val (.long q2), .second, .val (.long q3), .second] [(.ref a1), (.long q2), (.ref w8)])) rfl rfl (hb hby d8_14)
  obtain ⟨T11, h11, X11, e11, W11, st11⟩ := stJ X10 hx hZ e10 Ar_w8 (j := ((q2 &&& w9).toInt32)) hin20 (g := (mkF m 20 #[.val (.ref a1), .val (.long q2), .second, .val (.long q3), .second] [(.long q3), (.int ((q2 &&& w9).toInt32)), (.ref w8)])) rfl rfl (hb hby d8_20)
  have N11 := Fr.snoc X11 N0 g_w8

  have K11 : Keep h0 h11 [w8] := (Keep.refl h0 [w8]).wr W11 (Or.inl (List.mem_of_getElem? (i := 0) rfl))
  obtain ⟨fs, hr, hrun, hended, hW, hsame⟩ := X11.leave (v := none) (fun _ => rfl)
  refine ⟨_, _, pre0 _ ?_, hrun, hended, _, _, rfl, ?_, ⟨_, rfl⟩, hW, hsame.mono (by decide) (by decide)⟩

  · show Steps p.tables e below (s₁.setTop (mkF m 0 #[.val (.ref a1), .val (.long q2), .second, .val (.long q3), .second] [])) _
    refine XS.aloadN X0.here hx rfl (hb hby d8_0) rfl rfl ?_
    show Steps p.tables e below (s₁.setTop (mkF m 1 #[.val (.ref a1), .val (.long q2), .second, .val (.long q3), .second] [(.ref a1)])) _
    refine st5 _ ?_
    show Steps p.tables e below (T5.setTop (mkF m 4 #[.val (.ref a1), .val (.long q2), .second, .val (.long q3), .second] [(.ref w4)])) _
    refine XS.lloadN X5.here hx rfl (hb hby d8_4) rfl ?_
    show Steps p.tables e below (T5.setTop (mkF m 5 #[.val (.ref a1), .val (.long q2), .second, .val (.long q3), .second] [(.long q2), (.ref w4)])) _
    refine XS.aloadN X5.here hx rfl (hb hby d8_5) rfl rfl ?_
    show Steps p.tables e below (T5.setTop (mkF m 6 #[.val (.ref a1), .val (.long q2), .second, .val (.long q3), .second] [(.ref a1), (.long q2), (.ref w4)])) _
    refine st7 _ ?_
    show Steps p.tables e below (T7.setTop (mkF m 9 #[.val (.ref a1), .val (.long q2), .second, .val (.long q3), .second] [(.int w6), (.long q2), (.ref w4)])) _
    refine XS.lushr X7.here hx rfl (hb hby d8_9) rfl ?_
    show Steps p.tables e below (T7.setTop (mkF m 10 #[.val (.ref a1), .val (.long q2), .second, .val (.long q3), .second] [(.long ((q2.toUInt64 >>> (w6 &&& 0x3f).toInt64.toUInt64).toInt64)), (.ref w4)])) _
    refine XS.l2i X7.here hx rfl (hb hby d8_10) rfl ?_
    show Steps p.tables e below (T7.setTop (mkF m 11 #[.val (.ref a1), .val (.long q2), .second, .val (.long q3), .second] [(.int (((q2.toUInt64 >>> (w6 &&& 0x3f).toInt64.toUInt64).toInt64).toInt32)), (.ref w4)])) _
    refine X7.aaload hx (j := (((q2.toUInt64 >>> (w6 &&& 0x3f).toInt64.toUInt64).toInt64).toInt32)) (v := (.ref w8)) (by rw [e7]; exact Ar_w4.1) (State.isArrayOf_alike hZ.alike Ar_w4.2.1) rfl Ar_w4.2.2 hin11 hat11 (g := (mkF m 11 #[.val (.ref a1), .val (.long q2), .second, .val (.long q3), .second] [(.int (((q2.toUInt64 >>> (w6 &&& 0x3f).toInt64.toUInt64).toInt64).toInt32)), (.ref w4)])) rfl rfl (hb hby d8_11) _ ?_
    show Steps p.tables e below (T7.setTop (mkF m 12 #[.val (.ref a1), .val (.long q2), .second, .val (.long q3), .second] [(.ref w8)])) _
    refine XS.lloadN X7.here hx rfl (hb hby d8_12) rfl ?_
    show Steps p.tables e below (T7.setTop (mkF m 13 #[.val (.ref a1), .val (.long q2), .second, .val (.long q3), .second] [(.long q2), (.ref w8)])) _
    refine XS.aloadN X7.here hx rfl (hb hby d8_13) rfl rfl ?_
    show Steps p.tables e below (T7.setTop (mkF m 14 #[.val (.ref a1), .val (.long q2), .second, .val (.long q3), .second] [(.ref a1), (.long q2), (.ref w8)])) _
    refine st10 _ ?_
    show Steps p.tables e below (T10.setTop (mkF m 17 #[.val (.ref a1), .val (.long q2), .second, .val (.long q3), .second] [(.long w9), (.long q2), (.ref w8)])) _
    refine XS.land X10.here hx rfl (hb hby d8_17) rfl ?_
    show Steps p.tables e below (T10.setTop (mkF m 18 #[.val (.ref a1), .val (.long q2), .second, .val (.long q3), .second] [(.long (q2 &&& w9)), (.ref w8)])) _
    refine XS.l2i X10.here hx rfl (hb hby d8_18) rfl ?_
    show Steps p.tables e below (T10.setTop (mkF m 19 #[.val (.ref a1), .val (.long q2), .second, .val (.long q3), .second] [(.int ((q2 &&& w9).toInt32)), (.ref w8)])) _
    refine XS.lloadN X10.here hx rfl (hb hby d8_19) rfl ?_
    show Steps p.tables e below (T10.setTop (mkF m 20 #[.val (.ref a1), .val (.long q2), .second, .val (.long q3), .second] [(.long q3), (.int ((q2 &&& w9).toInt32)), (.ref w8)])) _
    refine st11 _ ?_
    show Steps p.tables e below (T11.setTop (mkF m 21 #[.val (.ref a1), .val (.long q2), .second, .val (.long q3), .second] [])) _
    exact X11.returnOut hx Bd.returns (hb hby d8_21) hr
  · show Q8_x Z a1 q2 q3 w4 w6 w8 cl_w4 w9 cl_w8 h0 n0 _ T11.heap _
    rw [e11]
    exact ⟨rfl, N11, W11⟩
theorem own_min (l : Launch) (Z : State) (a0 : Array Value) (hw : ∀ d ∈ tables_1, d.before a0 Z = true) (a b : Int64) (h0 : Heap) (n0 : Nat) (Z0 : n0 ≤ h0.size) : Ret l Z h0 n0 (⟨"java/lang/Math", "min", "(JJ)J"⟩ : MethodName) jdk_29_method_70_code 4 (some .long) ({ frames := 0, cells := 0, slots := 0, locals := 0 } : Room) #[(.long a), (.long b)] (.long (if (0 : Int32) < lcmpW a b then b else a)) := by
  by_cases h : (0 : Int32) < lcmpW a b
  · rw [if_pos h]; exact rm6_t l Z a0 hw [] a b h0 n0 Z0 h
  · rw [if_neg h]; exact rm6_f l Z a0 hw [] a b h0 n0 Z0 h
def np (N K : Nat) : Nat := (N + 2 ^ K - 1) / 2 ^ K
def pl (N K j : Nat) : Nat := min (2 ^ K) (N - j * 2 ^ K)
def mk (K : Nat) : Int64 := (((1 : Int64) <<< (Int32.ofNat K &&& 0x3f).toInt64) - (1 : Int64))
set_option maxRecDepth 65536 in
theorem tabPC : ∀ N : Fin 17, ∀ K : Fin 5, 1 ≤ N.val → (((((Int64.ofNat N.val + ((1 : Int64) <<< (Int32.ofNat K.val &&& 0x3f).toInt64)) - (1 : Int64)).toUInt64 >>> (Int32.ofNat K.val &&& 0x3f).toInt64.toUInt64).toInt64).toInt32) = Int32.ofNat (np N.val K.val) := by decide +kernel
set_option maxRecDepth 65536 in
theorem tabNP : ∀ N : Fin 17, ∀ K : Fin 5, np N.val K.val ≤ 16 := by decide +kernel
set_option maxRecDepth 65536 in
theorem tabPL : ∀ N : Fin 17, ∀ K : Fin 5, ∀ j : Fin 16, j.val < np N.val K.val → (if (0 : Int32) < lcmpW ((1 : Int64) <<< (Int32.ofNat K.val &&& 0x3f).toInt64) (Int64.ofNat N.val - (((Int32.ofNat j.val).toInt64) <<< (Int32.ofNat K.val &&& 0x3f).toInt64)) then (Int64.ofNat N.val - (((Int32.ofNat j.val).toInt64) <<< (Int32.ofNat K.val &&& 0x3f).toInt64)) else ((1 : Int64) <<< (Int32.ofNat K.val &&& 0x3f).toInt64)).toInt32 = Int32.ofNat (pl N.val K.val j.val) := by decide +kernel
set_option maxRecDepth 65536 in
theorem tabI : ∀ K : Fin 5, ∀ i : Fin 16, (((Int64.ofNat i.val).toUInt64 >>> (Int32.ofNat K.val &&& 0x3f).toInt64.toUInt64).toInt64).toInt32 = Int32.ofNat (i.val / 2 ^ K.val) ∧ ((Int64.ofNat i.val) &&& mk K.val).toInt32 = Int32.ofNat (i.val % 2 ^ K.val) := by decide +kernel
set_option maxRecDepth 65536 in
theorem tabQ : ∀ N : Fin 17, ∀ K : Fin 5, ∀ i : Fin 16, i.val < N.val → i.val / 2 ^ K.val < np N.val K.val ∧ i.val % 2 ^ K.val < pl N.val K.val (i.val / 2 ^ K.val) := by decide +kernel
theorem own_tn {n : Nat} (h : n < 1000) : (Int32.ofNat n).toNatClampNeg = n := by
  have e : (Int32.ofNat n).toInt = n := len_toInt (by omega)
  show (Int32.ofNat n).toInt.toNat = n
  omega
theorem own_nn {n : Nat} (h : n < 1000) : ¬ Int32.ofNat n < 0 := by
  have e : (Int32.ofNat n).toInt = n := len_toInt (by omega)
  have z : (0 : Int32).toInt = 0 := by decide
  rw [Int32.lt_iff_toInt_lt]; omega
theorem own_ltn {i n : Nat} (h : i < n) (hn : n < 1000) : Int32.ofNat i < Int32.ofNat n := by
  have e : (Int32.ofNat n).toInt = n := len_toInt (by omega)
  have e' : (Int32.ofNat i).toInt = i := len_toInt (by omega)
  rw [Int32.lt_iff_toInt_lt]; omega
theorem own_one (i : Nat) : Int32.ofNat i + (1 : Int32) = Int32.ofNat (i + 1) := (Int32.ofNat_add i 1).symm
theorem own_in {n s : Nat} (h : n < s) (hn : n < 1000) : ¬ (Int32.ofNat n < 0 ∨ s ≤ (Int32.ofNat n).toNatClampNeg) := by
  rintro (q | q)
  · exact own_nn hn q
  · rw [own_tn hn] at q; omega
theorem np16 {N K : Nat} (hN : N ≤ 16) (hK : K ≤ 4) : np N K ≤ 16 := tabNP ⟨N, by omega⟩ ⟨K, by omega⟩
theorem pl16 (N K j : Nat) (hK : K ≤ 4) : pl N K j ≤ 16 := Nat.le_trans (Nat.min_le_left _ _) (by
  have : 2 ^ K ≤ 2 ^ 4 := Nat.pow_le_pow_right (by decide) hK
  omega)
theorem plsum (N K J : Nat) : min (J * 2 ^ K) N + pl N K J = min ((J + 1) * 2 ^ K) N := by
  unfold pl
  rw [Nat.succ_mul]
  generalize J * 2 ^ K = t
  generalize 2 ^ K = w
  simp only [Nat.min_def]
  split <;> split <;> split <;> omega
theorem own_pc (l : Launch) (Z : State) (a0 : Array Value) (hw : ∀ d ∈ tables_1, d.before a0 Z = true) {N K : Nat} (hN1 : 1 ≤ N) (hN : N ≤ 16) (hK : K ≤ 4) (h0 : Heap) (n0 : Nat) (Z0 : n0 ≤ h0.size) : Ret l Z h0 n0 (⟨"com/example/cowbird/cowbird/table/Words", "pageCount", "(JI)I"⟩ : MethodName) prog_14_method_7_code 3 (some .int) ({ frames := 0, cells := 0, slots := 0, locals := 0 } : Room) #[(.long (Int64.ofNat N)), (.int (Int32.ofNat K))] (.int (Int32.ofNat (np N K))) := by
  have e := tabPC ⟨N, by omega⟩ ⟨K, by omega⟩ hN1
  dsimp only at e
  rw [← e]
  exact rm2_x l Z a0 hw [] (Int64.ofNat N) (Int32.ofNat K) h0 n0 Z0
abbrev R5 : Room := ({ frames := 1, cells := 0, slots := 0, locals := 15 } : Room)
theorem own_pl (l : Launch) (Z : State) (a0 : Array Value) (hw : ∀ d ∈ tables_1, d.before a0 Z = true) {N K j : Nat} (hN : N ≤ 16) (hK : K ≤ 4) (hj : j < np N K) (h0 : Heap) (n0 : Nat) (Z0 : n0 ≤ h0.size) : Ret l Z h0 n0 (⟨"com/example/cowbird/cowbird/table/Words", "pageLength", "(JII)I"⟩ : MethodName) prog_14_method_8_code 4 (some .int) R5 #[(.long (Int64.ofNat N)), (.int (Int32.ofNat K)), (.int (Int32.ofNat j))] (.int (Int32.ofNat (pl N K j))) := by
  have n16 := np16 hN hK
  have e := tabPL ⟨N, by omega⟩ ⟨K, by omega⟩ ⟨j, by omega⟩ hj
  dsimp only at e
  rw [← e]
  exact rm5_x l Z a0 hw [] (Int64.ofNat N) (Int32.ofNat K) (Int32.ofNat j) _ h0 n0 Z0 (own_min l Z a0 hw _ _ h0 n0 Z0)
def WC : String := "com/example/cowbird/cowbird/table/Words"
def upd (f : Nat → Int64) (i : Nat) (v : Int64) : Nat → Int64 := fun x => if x = i then v else f x
def Wd (Z : State) (h : Heap) (b P : Addr) (pa : Nat → Addr) (N K J : Nat) (f : Nat → Int64) : Prop :=
  Exa Z h b "com/example/cowbird/cowbird/table/Words" ∧ Fld Z h b "com/example/cowbird/cowbird/table/Words" "pages" "[[J" (.ref P) ∧ Fld Z h b "com/example/cowbird/cowbird/table/Words" "pageShift" "I" (.int (Int32.ofNat K)) ∧ Fld Z h b "com/example/cowbird/cowbird/table/Words" "pageMask" "J" (.long (mk K)) ∧ Fld Z h b "com/example/cowbird/cowbird/table/Words" "length" "J" (.long (Int64.ofNat N)) ∧ b < P ∧
  (∃ (cl : Cell) (cA : ClassId), Arr Z h P cl (.array .long) ∧ cl.cls = cA ∧ OvrA Z cA .long "[J" ∧ cl.slots.size = np N K ∧ ∀ j, j < J → cl.slots[j]? = some (.ref (pa j))) ∧
  (∀ j, j < J → P < pa j) ∧ (∀ i j, i < j → j < J → pa i < pa j) ∧
  ∀ j, j < J → ∃ cl : Cell, Arr Z h (pa j) cl .long ∧ cl.slots.size = pl N K j ∧ ∀ o, o < pl N K j → cl.slots[o]? = some (.long (f (j * 2 ^ K + o)))
theorem Wd.get (l : Launch) (Z : State) (a0 : Array Value) (hw : ∀ d ∈ tables_1, d.before a0 Z = true) {b P : Addr} {pa : Nat → Addr} {N K : Nat} {f : Nat → Int64} (hN : N ≤ 16) (hK : K ≤ 4) {h0 : Heap} {n0 : Nat} (Z0 : n0 ≤ h0.size) (W : Wd Z h0 b P pa N K (np N K) f) {i : Nat} (hi : i < N) {x : Int64} (hx : x = Int64.ofNat i) :
    Ret l Z h0 n0 (⟨"com/example/cowbird/cowbird/table/Words", "get", "(J)J"⟩ : MethodName) prog_14_method_5_code 3 (some .long) ({ frames := 0, cells := 0, slots := 0, locals := 0 } : Room) #[(.ref b), (.long x)] (.long (f i)) := by
  subst hx
  obtain ⟨E, Fp, Fs, Fm, Fl, hbP, ⟨clP, cA, ArP, qP, OP, sP, gP⟩, pg1, pg2, pg⟩ := W
  have hq := tabQ ⟨N, by omega⟩ ⟨K, by omega⟩ ⟨i, by omega⟩ hi
  have he := tabI ⟨K, by omega⟩ ⟨i, by omega⟩
  dsimp only at hq he
  obtain ⟨cl, Ar, sc, gc⟩ := pg _ hq.1
  have n16 := np16 hN hK
  have p16 := pl16 N K (i / 2 ^ K) hK
  refine rm7_x l Z a0 hw [] b (Int64.ofNat i) P (Int32.ofNat K) (pa (i / 2 ^ K)) clP (mk K) (f i) cl h0 n0 Z0 Fp Fs ArP ?_ ?_ Fm Ar ?_ ?_
  · rw [he.1, sP]; exact own_in hq.1 (by omega)
  · rw [he.1, own_tn (by omega)]; exact gP _ hq.1
  · rw [he.2, sc]; exact own_in hq.2 (by omega)
  · rw [he.2, own_tn (by omega)]
    have q := gc _ hq.2
    rw [Nat.div_add_mod'] at q
    exact q
def QS (h0 : Heap) (pa : Nat → Addr) (K i : Nat) (y : Int64) (n0 : Nat) (v : Option Value) (h : Heap) (L : List Loc) : Prop := v = none ∧ Fr n0 L ∧ Wr h0 h (pa (i / 2 ^ K)) (i % 2 ^ K) (.long y)
theorem Wd.put (l : Launch) (Z : State) (a0 : Array Value) (hw : ∀ d ∈ tables_1, d.before a0 Z = true) {b P : Addr} {pa : Nat → Addr} {N K : Nat} {f : Nat → Int64} (hN : N ≤ 16) (hK : K ≤ 4) {h0 : Heap} {n0 : Nat} (Z0 : n0 ≤ h0.size) (gP0 : n0 ≤ P) (W : Wd Z h0 b P pa N K (np N K) f) {i : Nat} (hi : i < N) {x : Int64} (hx : x = Int64.ofNat i) (y : Int64) :
    MetFree l (⟨"com/example/cowbird/cowbird/table/Words", "set", "(JJ)V"⟩ : MethodName) (head1 (Jvm.Cond.code (⟨"com/example/cowbird/cowbird/table/Words", "set", "(JJ)V"⟩ : MethodName) prog_14_method_6_code 5 none :: []) ({ frames := 0, cells := 0, slots := 0, locals := 0 } : Room)) (fun a U => a = #[(.ref b), (.long x), (.long y)] ∧ Z.Warmed39 U.vm ∧ U.heap = h0) (fun _ _ _ _ _ => True) (fun _ U o U' => ∃ v L, o = .returned v ∧ QS h0 pa K i y n0 v U'.heap L ∧ FrameEnd U o U' L ({ frames := 0, cells := 0, slots := 0, locals := 0 } : Room).cells ({ frames := 0, cells := 0, slots := 0, locals := 0 } : Room).slots) := by
  subst hx
  obtain ⟨E, Fp, Fs, Fm, Fl, hbP, ⟨clP, cA, ArP, qP, OP, sP, gP⟩, pg1, pg2, pg⟩ := W
  have hq := tabQ ⟨N, by omega⟩ ⟨K, by omega⟩ ⟨i, by omega⟩ hi
  have he := tabI ⟨K, by omega⟩ ⟨i, by omega⟩
  dsimp only at hq he
  obtain ⟨cl, Ar, sc, gc⟩ := pg _ hq.1
  have n16 := np16 hN hK
  have p16 := pl16 N K (i / 2 ^ K) hK
  have hM := rm8_x l Z a0 hw [] b (Int64.ofNat i) y P (Int32.ofNat K) (pa (i / 2 ^ K)) clP (mk K) cl h0 n0 Z0 Fp Fs ArP (by rw [he.1, sP]; exact own_in hq.1 (by omega)) (by rw [he.1, own_tn (by omega)]; exact gP _ hq.1) Fm Ar (by rw [he.2, sc]; exact own_in hq.2 (by omega)) (Nat.le_trans gP0 (Nat.le_of_lt (pg1 _ hq.1)))
  simp only [Q8_x, he.2, own_tn (show i % 2 ^ K < 1000 by omega)] at hM
  exact hM
theorem Wd.len (l : Launch) (Z : State) (a0 : Array Value) (hw : ∀ d ∈ tables_1, d.before a0 Z = true) {b P : Addr} {pa : Nat → Addr} {N K : Nat} {f : Nat → Int64} {h0 : Heap} {n0 : Nat} (Z0 : n0 ≤ h0.size) (W : Wd Z h0 b P pa N K (np N K) f) :
    Ret l Z h0 n0 (⟨"com/example/cowbird/cowbird/table/Words", "length", "()J"⟩ : MethodName) prog_14_method_4_code 1 (some .long) ({ frames := 0, cells := 0, slots := 0, locals := 0 } : Room) #[(.ref b)] (.long (Int64.ofNat N)) := rm9_x l Z a0 hw [] b (Int64.ofNat N) h0 n0 Z0 W.2.2.2.2.1
theorem Wd.lt {Z : State} {h : Heap} {b P : Addr} {pa : Nat → Addr} {N K J : Nat} {f : Nat → Int64} (W : Wd Z h b P pa N K J f) : P < h.size := by
  obtain ⟨-, -, -, -, -, -, ⟨cl, cA, A, -⟩, -⟩ := W
  exact A.lt
theorem Wd.set {Z : State} {h h' : Heap} {b P : Addr} {pa : Nat → Addr} {N K : Nat} {f : Nat → Int64} (hN : N ≤ 16) (hK : K ≤ 4) (W : Wd Z h b P pa N K (np N K) f) {i : Nat} (hi : i < N) {y : Int64} (w : Wr h h' (pa (i / 2 ^ K)) (i % 2 ^ K) (.long y)) : Wd Z h' b P pa N K (np N K) (upd f i y) := by
  obtain ⟨E, Fp, Fs, Fm, Fl, hbP, ⟨clP, cA, ArP, qP, OP, sP, gP⟩, pg1, pg2, pg⟩ := W
  have hq := tabQ ⟨N, by omega⟩ ⟨K, by omega⟩ ⟨i, by omega⟩ hi
  dsimp only at hq
  have hPq := pg1 _ hq.1
  have wpos : 0 < 2 ^ K := Nat.pow_pos (by decide)
  have nb : b ≠ pa (i / 2 ^ K) := Nat.ne_of_lt (Nat.lt_trans hbP hPq)
  have nP : P ≠ pa (i / 2 ^ K) := Nat.ne_of_lt hPq
  refine ⟨E.wr w, Fp.other w (Or.inl nb), Fs.other w (Or.inl nb), Fm.other w (Or.inl nb), Fl.other w (Or.inl nb), hbP, ⟨clP, cA, ArP.other w nP, qP, OP, sP, gP⟩, pg1, pg2, fun j hj => ?_⟩
  obtain ⟨cl, Ar, sc, gc⟩ := pg j hj
  by_cases hji : j = i / 2 ^ K
  · subst hji
    refine ⟨cl.setSlot (i % 2 ^ K) (.long y), Ar.same w, by rw [sz_set]; exact sc, fun o ho => ?_⟩
    by_cases hoi : o = i % 2 ^ K
    · subst hoi
      have e : i / 2 ^ K * 2 ^ K + i % 2 ^ K = i := Nat.div_add_mod' i (2 ^ K)
      rw [e]
      simp [Cell.setSlot, upd, sc, hq.2]
    · have e : ¬ (i / 2 ^ K * 2 ^ K + o = i) := fun q => hoi (by
        have e2 : i / 2 ^ K * 2 ^ K + i % 2 ^ K = i := Nat.div_add_mod' i (2 ^ K)
        omega)
      show (cl.slots.setIfInBounds (i % 2 ^ K) (.long y))[o]? = _
      rw [Array.getElem?_setIfInBounds_ne (Ne.symm hoi), gc o ho]
      simp [upd, e]
  · have nj : pa j ≠ pa (i / 2 ^ K) := by
      rcases Nat.lt_or_gt_of_ne hji with q | q
      · exact Nat.ne_of_lt (pg2 _ _ q hq.1)
      · exact Nat.ne_of_gt (pg2 _ _ q hj)
    refine ⟨cl, Ar.other w nj, sc, fun o ho => ?_⟩
    have ow : o < 2 ^ K := Nat.lt_of_lt_of_le ho (Nat.min_le_left _ _)
    have e : ¬ (j * 2 ^ K + o = i) := fun q => hji (by
      rw [← q, Nat.mul_comm, Nat.mul_add_div wpos, Nat.div_eq_of_lt ow]; rfl)
    rw [gc o ho]
    simp [upd, e]
/-- one page more -/
theorem Wd.next {Z : State} {h h1 h2 : Heap} {b P : Addr} {pa : Nat → Addr} {N K J : Nat} (hK : K ≤ 4) {cA : ClassId} (W : Wd Z h b P pa N K J (fun _ => 0)) (E : Ext h h1) (A : Arr Z h1 h.size (newA cA .long (Int32.ofNat (pl N K J))) .long) (hJ : J < np N K) (w : Wr h1 h2 P J (.ref h.size)) :
    Wd Z h2 b P (fun j => if j = J then h.size else pa j) N K (J + 1) (fun _ => 0) := by
  obtain ⟨Ex, Fp, Fs, Fm, Fl, hbP, ⟨clP, cP, ArP, qP, OP, sP, gP⟩, pg1, pg2, pg⟩ := W
  have nb : b ≠ P := Nat.ne_of_lt hbP
  have hP : P < h.size := ArP.lt
  have hlt : ∀ j, j < J → pa j < h.size := fun j hj => by obtain ⟨cl, Ar, -⟩ := pg j hj; exact Ar.lt
  refine ⟨(Ex.ext E).wr w, (Fp.ext E).other w (Or.inl nb), (Fs.ext E).other w (Or.inl nb), (Fm.ext E).other w (Or.inl nb), (Fl.ext E).other w (Or.inl nb), hbP, ⟨clP.setSlot J (.ref h.size), cP, (ArP.ext E).same w, qP, OP, by rw [sz_set]; exact sP, fun j hj => ?_⟩, fun j hj => ?_, fun i j hij hj => ?_, fun j hj => ?_⟩
  · by_cases q : j = J
    · subst q; simp [Cell.setSlot, sP, hJ]
    · show (clP.slots.setIfInBounds J (.ref h.size))[j]? = _
      rw [Array.getElem?_setIfInBounds_ne (Ne.symm q), gP j (by omega)]
      simp [q]
  · dsimp only
    split
    · exact hP
    · exact pg1 j (by omega)
  · dsimp only
    rw [if_neg (show ¬ i = J by omega)]
    split
    · exact hlt i (by omega)
    · exact pg2 i j hij (by omega)
  · dsimp only
    by_cases q : j = J
    · subst q
      rw [if_pos rfl]
      have p16 := pl16 N K j hK
      refine ⟨newA cA .long (Int32.ofNat (pl N K j)), A.other w (Nat.ne_of_gt hP), by rw [sz_new, own_tn (by omega)], fun o ho => ?_⟩
      have q := get_new (cA := cA) (ty := .long) (n := Int32.ofNat (pl N K j)) (k := Int32.ofNat o) (by rw [own_tn (show pl N K j < 1000 by omega)]; exact own_in ho (by omega))
      rw [own_tn (by omega)] at q
      exact q
    · rw [if_neg q]
      obtain ⟨cl, Ar, sc, gc⟩ := pg j (by omega)
      exact ⟨cl, (Ar.ext E).other w (Nat.ne_of_gt (pg1 j (by omega))), sc, gc⟩
theorem d1_17 : decode prog_14_method_2_code 17 = .ok (.iload 4, 2) := by decide +kernel
theorem d1_19 : decode prog_14_method_2_code 19 = .ok (.aload_n 0, 1) := by decide +kernel
theorem d1_20 : decode prog_14_method_2_code 20 = .ok (.getfield 16, 3) := by decide +kernel
theorem d1_23 : decode prog_14_method_2_code 23 = .ok (.arraylength, 1) := by decide +kernel
theorem d1_24 : decode prog_14_method_2_code 24 = .ok (.if_icmp .ge 25, 3) := by decide +kernel
theorem d1_27 : decode prog_14_method_2_code 27 = .ok (.aload_n 0, 1) := by decide +kernel
theorem d1_28 : decode prog_14_method_2_code 28 = .ok (.getfield 16, 3) := by decide +kernel
theorem d1_31 : decode prog_14_method_2_code 31 = .ok (.iload 4, 2) := by decide +kernel
theorem d1_33 : decode prog_14_method_2_code 33 = .ok (.lload_n 1, 1) := by decide +kernel
theorem d1_34 : decode prog_14_method_2_code 34 = .ok (.iload_n 3, 1) := by decide +kernel
theorem d1_35 : decode prog_14_method_2_code 35 = .ok (.iload 4, 2) := by decide +kernel
theorem d1_37 : decode prog_14_method_2_code 37 = .ok (.invokestatic 20, 3) := by decide +kernel
theorem d1_40 : decode prog_14_method_2_code 40 = .ok (.newarray .long, 2) := by decide +kernel
theorem d1_42 : decode prog_14_method_2_code 42 = .ok (.aastore, 1) := by decide +kernel
theorem d1_43 : decode prog_14_method_2_code 43 = .ok (.iinc 4 1, 3) := by decide +kernel
theorem d1_46 : decode prog_14_method_2_code 46 = .ok (.goto (-29), 3) := by decide +kernel
theorem pd_1_4 : parseMethodDescriptor "(JII)I" = some ⟨[.long, .int, .int], some .int⟩ := by decide +kernel
set_option maxRecDepth 65536 in
set_option maxHeartbeats 40000000 in
theorem tn1_17_49 {p : Program} {l : Launch} {e : Env} {R : Room} {s : State} {m : MethodId} {args : Array Value} {below : List Frame} {meth : Method} {c : Code} {T0 : State} {locs : List Loc} {cells slots : Nat} {Z : State} {a0 : Array Value} {h0 : Heap} (o0 : Addr) (s1 : Slot) (s2 : Slot) (s3 : Slot) (i4 : Int32) (w4 : Addr) (cl_w4 : Cell) (z_w4 : Int32)
    (X0 : Stand p l e R s m args below meth c T0 locs cells slots) (hx : p.tables.exec = Jvm.exec) (hZ : Z.Warmed39 s.vm) (hw : ∀ d ∈ tables_1, d.before a0 Z = true) (hby : c.code = prog_14_method_2_code) (hml : c.maxLocals = 5) (hown : s.vm.findClass "com/example/cowbird/cowbird/table/Words" = some m.cls) (e0 : T0.heap = h0) (F_pages_o0 : Fld Z h0 o0 "com/example/cowbird/cowbird/table/Words" "pages" "[[J" (.ref w4)) (Ar_w4 : Arr Z h0 w4 cl_w4 (.array .long)) (S_w4 : cl_w4.slots.size = z_w4.toNatClampNeg) (N_w4 : ¬ z_w4 < 0) (hc24 : ¬ (i4 < z_w4)) :
    ∃ (T' : State), Stand p l e R s m args below meth c T' locs cells slots ∧ T'.heap = h0 ∧
      ∀ target, Steps p.tables e below (T'.setTop (mkF m 49 #[.val (.ref o0), s1, s2, s3, .val (.int i4)] [])) target → Steps p.tables e below (T0.setTop (mkF m 17 #[.val (.ref o0), s1, s2, s3, .val (.int i4)] [])) target := by
  -- 3. LAWS
  obtain ⟨T5, X5, e5, st5⟩ := getF X0 hx hZ hown (host := "") (Or.inl (hw _ (List.mem_of_getElem? (i := 18) rfl))) Via.refl e0 F_pages_o0 (g := (mkF m 20 #[.val (.ref o0), s1, s2, s3, .val (.int i4)] [(.ref o0), (.int i4)])) rfl rfl (hb hby d1_20)
  refine ⟨T5, X5, e5, fun target kt => ?_⟩
  -- 4. STEPS
  show Steps p.tables e below (T0.setTop (mkF m 17 #[.val (.ref o0), s1, s2, s3, .val (.int i4)] [])) _
  refine XS.iload X0.here hx rfl (hb hby d1_17) rfl ?_
  show Steps p.tables e below (T0.setTop (mkF m 19 #[.val (.ref o0), s1, s2, s3, .val (.int i4)] [(.int i4)])) _
  refine XS.aloadN X0.here hx rfl (hb hby d1_19) rfl rfl ?_
  show Steps p.tables e below (T0.setTop (mkF m 20 #[.val (.ref o0), s1, s2, s3, .val (.int i4)] [(.ref o0), (.int i4)])) _
  refine st5 _ ?_
  show Steps p.tables e below (T5.setTop (mkF m 23 #[.val (.ref o0), s1, s2, s3, .val (.int i4)] [(.ref w4), (.int i4)])) _
  refine X5.arraylength hx (by rw [e5]; exact Ar_w4.1) (State.isArrayOf_alike hZ.alike Ar_w4.2.1) (g := (mkF m 23 #[.val (.ref o0), s1, s2, s3, .val (.int i4)] [(.ref w4), (.int i4)])) rfl rfl (hb hby d1_23) _ ?_
  rw [len_of S_w4 N_w4]
  show Steps p.tables e below (T5.setTop (mkF m 24 #[.val (.ref o0), s1, s2, s3, .val (.int i4)] [(.int z_w4), (.int i4)])) _
  refine XS.icmpYes X5.here hx rfl (pc0 := 24) (pc' := 49) rfl (hb hby d1_24) rfl (flt hc24).2.1 (by decide) (by decide) ?_
  exact kt
abbrev RI : Room := ({ frames := 2, cells := 17, slots := 32, locals := 32 } : Room)
set_option maxRecDepth 65536 in
set_option maxHeartbeats 40000000 in
theorem own_turn {p : Program} {l : Launch} {e : Env} {s : State} {m : MethodId} {args : Array Value} {below : List Frame} {meth : Method} {c : Code} {T0 : State} {locs : List Loc} {cells slots : Nat} {Z : State} {a0 : Array Value} {h0 : Heap} (b P : Addr) (pa : Nat → Addr) (N K J n0 : Nat) (hN : N ≤ 16) (hK : K ≤ 4) (hJ : J < np N K) (gP0 : n0 ≤ P)
    (X0 : Stand p l e RI s m args below meth c T0 locs cells slots) (hx : p.tables.exec = Jvm.exec) (hZ : Z.Warmed39 s.vm) (hw : ∀ d ∈ tables_1, d.before a0 Z = true) (hby : c.code = prog_14_method_2_code) (hml : c.maxLocals = 5) (hown : s.vm.findClass "com/example/cowbird/cowbird/table/Words" = some m.cls) (e0 : T0.heap = h0) (W0 : Wd Z h0 b P pa N K J (fun _ => 0)) (N0 : Fr n0 locs) (hc : cells + 1 ≤ RI.cells) (hs : slots + pl N K J ≤ RI.slots) :
    ∃ (T' : State) (h' : Heap) (locs' : List Loc) (pa' : Nat → Addr), Stand p l e RI s m args below meth c T' locs' (cells + 1) (slots + pl N K J) ∧ T'.heap = h' ∧ Fr n0 locs' ∧ Wd Z h' b P pa' N K (J + 1) (fun _ => 0) ∧
      ∀ target, Steps p.tables e below (T'.setTop (mkF m 17 #[.val (.ref b), .val (.long (Int64.ofNat N)), .second, .val (.int (Int32.ofNat K)), .val (.int (Int32.ofNat (J + 1)))] [])) target → Steps p.tables e below (T0.setTop (mkF m 17 #[.val (.ref b), .val (.long (Int64.ofNat N)), .second, .val (.int (Int32.ofNat K)), .val (.int (Int32.ofNat J))] [])) target := by
  have Z0 : n0 ≤ h0.size := Nat.le_trans gP0 (Nat.le_of_lt W0.lt)
  have n16 := np16 hN hK
  have p16 := pl16 N K J hK
  obtain ⟨Ex, Fp, Fs, Fm, Fl, hbP, ⟨clP, cP, ArP, qP, OP, sP, gP⟩, pg1, pg2, pg⟩ := id W0
  have S_w4 : clP.slots.size = (Int32.ofNat (np N K)).toNatClampNeg := by rw [sP, own_tn (by omega)]
  have N_w4 : ¬ Int32.ofNat (np N K) < 0 := own_nn (by omega)
  have hc24 : Int32.ofNat J < Int32.ofNat (np N K) := own_ltn hJ (by omega)
  obtain ⟨T5, X5, e5, st5⟩ := getF X0 hx hZ hown (host := "") (Or.inl (hw _ (List.mem_of_getElem? (i := 18) rfl))) Via.refl e0 Fp (g := (mkF m 20 #[.val (.ref b), .val (.long (Int64.ofNat N)), .second, .val (.int (Int32.ofNat K)), .val (.int (Int32.ofNat J))] [(.ref b), (.int (Int32.ofNat J))])) rfl rfl (hb hby d1_20)
  obtain ⟨T6, X6, e6, st6⟩ := getF X5 hx hZ hown (host := "") (Or.inl (hw _ (List.mem_of_getElem? (i := 18) rfl))) Via.refl e5 Fp (g := (mkF m 28 #[.val (.ref b), .val (.long (Int64.ofNat N)), .second, .val (.int (Int32.ofNat K)), .val (.int (Int32.ofNat J))] [(.ref b)])) rfl rfl (hb hby d1_28)
  obtain ⟨_, _, ⟨T7, L7, k7, n7⟩, -, X7, ⟨Lc7, hQ7, l7, y7, z7⟩, st7⟩ := Jvm.LawKit.callS X6 hx (y := (⟨"com/example/cowbird/cowbird/table/Words", "pageLength", "(JII)I"⟩ : MethodName)) hown (mvT hZ (hw _ (List.mem_of_getElem? (i := 26) rfl))) (mvT hZ (hw _ (List.mem_of_getElem? (i := 27) rfl))) (mvT hZ (hw _ (List.mem_of_getElem? (i := 3) rfl))) (mvT hZ (hw _ (List.mem_of_getElem? (i := 28) rfl))) (by decide) (backOf (W := 2) (own_pl l Z a0 hw hN hK hJ h0 n0 Z0) hZ (hw _ (List.mem_of_getElem? (i := 28) rfl)) (hw _ (List.mem_of_getElem? (i := 3) rfl)) (by decide) (by decide)) (g := (mkF m 37 #[.val (.ref b), .val (.long (Int64.ofNat N)), .second, .val (.int (Int32.ofNat K)), .val (.int (Int32.ofNat J))] [(.int (Int32.ofNat J)), (.int (Int32.ofNat K)), (.long (Int64.ofNat N)), (.int (Int32.ofNat J)), (.ref P)])) rfl (by rw [hml]; rfl) (argsL := [(.long (Int64.ofNat N)), (.int (Int32.ofNat K)), (.int (Int32.ofNat J))]) (rest := [(.int (Int32.ofNat J)), (.ref P)]) (lenOf pd_1_4 rfl) rfl (by show 2 * 0 + _ ≤ _; exact Nat.le_of_eq rfl) (hb hby d1_37) (fun _ _ => ⟨rfl, e6, Nat.le_of_succ_le hc, Nat.le_trans (Nat.le_add_right _ _) hs⟩)
  dsimp only [Pt.U, Pt.locs, Pt.cells, Pt.slots] at X7 l7 y7 z7 st7 hQ7
  subst l7 y7 z7
  obtain ⟨rfl, N7q, eQ7⟩ := hQ7
  have N7 := Fr.app N0 N7q
  obtain ⟨T8, h8, k8, X8, e8, E8, A8, EX8, st8⟩ := newPE X7 hx hZ (hw _ (List.mem_of_getElem? (i := 33) rfl)) eQ7 (g := (mkF m 40 #[.val (.ref b), .val (.long (Int64.ofNat N)), .second, .val (.int (Int32.ofNat K)), .val (.int (Int32.ofNat J))] [(.int (Int32.ofNat (pl N K J))), (.int (Int32.ofNat J)), (.ref P)])) rfl (hb hby d1_40) rfl (own_nn (by omega)) (cap := pl N K J) (by rw [own_tn (by omega)]; exact Nat.le_refl _) (by omega) hc hs (ad := "[J") (by decide +kernel)
  have hin42 : ¬ ((Int32.ofNat J) < 0 ∨ clP.slots.size ≤ ((Int32.ofNat J)).toNatClampNeg) := by rw [sP]; exact own_in hJ (by omega)
  have Sto42 : Sto Z h8 P (.ref h0.size) := Sto.ofVA (ArP.ext E8) qP OP (Ins.self EX8)
  obtain ⟨T9, h9, X9, e9, W9, st9⟩ := stR X8 hx hZ e8 (ArP.ext E8) (j := (Int32.ofNat J)) hin42 rfl Sto42 (g := (mkF m 42 #[.val (.ref b), .val (.long (Int64.ofNat N)), .second, .val (.int (Int32.ofNat K)), .val (.int (Int32.ofNat J))] [(.ref h0.size), (.int (Int32.ofNat J)), (.ref P)])) rfl rfl (hb hby d1_42)
  have N9 := Fr.snoc X9 N7 gP0
  rw [own_tn (show J < 1000 by omega)] at W9
  refine ⟨T9, h9, _, _, X9, e9, N9, Wd.next hK W0 E8 A8 hJ W9, fun target kt => ?_⟩
  show Steps p.tables e below (T0.setTop (mkF m 17 #[.val (.ref b), .val (.long (Int64.ofNat N)), .second, .val (.int (Int32.ofNat K)), .val (.int (Int32.ofNat J))] [])) _
  refine XS.iload X0.here hx rfl (hb hby d1_17) rfl ?_
  show Steps p.tables e below (T0.setTop (mkF m 19 #[.val (.ref b), .val (.long (Int64.ofNat N)), .second, .val (.int (Int32.ofNat K)), .val (.int (Int32.ofNat J))] [(.int (Int32.ofNat J))])) _
  refine XS.aloadN X0.here hx rfl (hb hby d1_19) rfl rfl ?_
  show Steps p.tables e below (T0.setTop (mkF m 20 #[.val (.ref b), .val (.long (Int64.ofNat N)), .second, .val (.int (Int32.ofNat K)), .val (.int (Int32.ofNat J))] [(.ref b), (.int (Int32.ofNat J))])) _
  refine st5 _ ?_
  show Steps p.tables e below (T5.setTop (mkF m 23 #[.val (.ref b), .val (.long (Int64.ofNat N)), .second, .val (.int (Int32.ofNat K)), .val (.int (Int32.ofNat J))] [(.ref P), (.int (Int32.ofNat J))])) _
  refine X5.arraylength hx (by rw [e5]; exact ArP.1) (State.isArrayOf_alike hZ.alike ArP.2.1) (g := (mkF m 23 #[.val (.ref b), .val (.long (Int64.ofNat N)), .second, .val (.int (Int32.ofNat K)), .val (.int (Int32.ofNat J))] [(.ref P), (.int (Int32.ofNat J))])) rfl rfl (hb hby d1_23) _ ?_
  rw [len_of S_w4 N_w4]
  show Steps p.tables e below (T5.setTop (mkF m 24 #[.val (.ref b), .val (.long (Int64.ofNat N)), .second, .val (.int (Int32.ofNat K)), .val (.int (Int32.ofNat J))] [(.int (Int32.ofNat (np N K))), (.int (Int32.ofNat J))])) _
  refine XS.icmpNo X5.here hx rfl (hb hby d1_24) rfl (tlt hc24).2.1 ?_
  show Steps p.tables e below (T5.setTop (mkF m 27 #[.val (.ref b), .val (.long (Int64.ofNat N)), .second, .val (.int (Int32.ofNat K)), .val (.int (Int32.ofNat J))] [])) _
  refine XS.aloadN X5.here hx rfl (hb hby d1_27) rfl rfl ?_
  show Steps p.tables e below (T5.setTop (mkF m 28 #[.val (.ref b), .val (.long (Int64.ofNat N)), .second, .val (.int (Int32.ofNat K)), .val (.int (Int32.ofNat J))] [(.ref b)])) _
  refine st6 _ ?_
  show Steps p.tables e below (T6.setTop (mkF m 31 #[.val (.ref b), .val (.long (Int64.ofNat N)), .second, .val (.int (Int32.ofNat K)), .val (.int (Int32.ofNat J))] [(.ref P)])) _
  refine XS.iload X6.here hx rfl (hb hby d1_31) rfl ?_
  show Steps p.tables e below (T6.setTop (mkF m 33 #[.val (.ref b), .val (.long (Int64.ofNat N)), .second, .val (.int (Int32.ofNat K)), .val (.int (Int32.ofNat J))] [(.int (Int32.ofNat J)), (.ref P)])) _
  refine XS.lloadN X6.here hx rfl (hb hby d1_33) rfl ?_
  show Steps p.tables e below (T6.setTop (mkF m 34 #[.val (.ref b), .val (.long (Int64.ofNat N)), .second, .val (.int (Int32.ofNat K)), .val (.int (Int32.ofNat J))] [(.long (Int64.ofNat N)), (.int (Int32.ofNat J)), (.ref P)])) _
  refine XS.iloadN X6.here hx rfl (hb hby d1_34) rfl ?_
  show Steps p.tables e below (T6.setTop (mkF m 35 #[.val (.ref b), .val (.long (Int64.ofNat N)), .second, .val (.int (Int32.ofNat K)), .val (.int (Int32.ofNat J))] [(.int (Int32.ofNat K)), (.long (Int64.ofNat N)), (.int (Int32.ofNat J)), (.ref P)])) _
  refine XS.iload X6.here hx rfl (hb hby d1_35) rfl ?_
  show Steps p.tables e below (T6.setTop (mkF m 37 #[.val (.ref b), .val (.long (Int64.ofNat N)), .second, .val (.int (Int32.ofNat K)), .val (.int (Int32.ofNat J))] [(.int (Int32.ofNat J)), (.int (Int32.ofNat K)), (.long (Int64.ofNat N)), (.int (Int32.ofNat J)), (.ref P)])) _
  refine st7 _ ?_
  show Steps p.tables e below (T7.setTop (mkF m 40 #[.val (.ref b), .val (.long (Int64.ofNat N)), .second, .val (.int (Int32.ofNat K)), .val (.int (Int32.ofNat J))] [(.int (Int32.ofNat (pl N K J))), (.int (Int32.ofNat J)), (.ref P)])) _
  refine st8 _ ?_
  show Steps p.tables e below (T8.setTop (mkF m 42 #[.val (.ref b), .val (.long (Int64.ofNat N)), .second, .val (.int (Int32.ofNat K)), .val (.int (Int32.ofNat J))] [(.ref h0.size), (.int (Int32.ofNat J)), (.ref P)])) _
  refine st9 _ ?_
  show Steps p.tables e below (T9.setTop (mkF m 43 #[.val (.ref b), .val (.long (Int64.ofNat N)), .second, .val (.int (Int32.ofNat K)), .val (.int (Int32.ofNat J))] [])) _
  refine XS.iinc X9.here hx rfl (hb hby d1_43) rfl (l' := #[.val (.ref b), .val (.long (Int64.ofNat N)), .second, .val (.int (Int32.ofNat K)), .val (.int ((Int32.ofNat J) + (1 : Int32)))]) rfl ?_
  show Steps p.tables e below (T9.setTop (mkF m 46 #[.val (.ref b), .val (.long (Int64.ofNat N)), .second, .val (.int (Int32.ofNat K)), .val (.int ((Int32.ofNat J) + (1 : Int32)))] [])) _
  refine XS.goto X9.here hx rfl (pc0 := 46) (pc' := 17) rfl (hb hby d1_46) (by decide) (by decide) ?_
  rw [own_one]
  exact kt
theorem own_loop {p : Program} {l : Launch} {e : Env} {s : State} {m : MethodId} {args : Array Value} {below : List Frame} {meth : Method} {c : Code} {Z : State} {a0 : Array Value} (b P : Addr) (N K n0 : Nat) (hN : N ≤ 16) (hK : K ≤ 4) (gP0 : n0 ≤ P)
    (hx : p.tables.exec = Jvm.exec) (hZ : Z.Warmed39 s.vm) (hw : ∀ d ∈ tables_1, d.before a0 Z = true) (hby : c.code = prog_14_method_2_code) (hml : c.maxLocals = 5) (hown : s.vm.findClass "com/example/cowbird/cowbird/table/Words" = some m.cls) :
    ∀ (k J : Nat) (pa : Nat → Addr) (T0 : State) (h0 : Heap) (locs : List Loc), J + k = np N K → Stand p l e RI s m args below meth c T0 locs (1 + J) (np N K + min (J * 2 ^ K) N) → T0.heap = h0 → Fr n0 locs → Wd Z h0 b P pa N K J (fun _ => 0) →
      ∃ (T' : State) (h' : Heap) (locs' : List Loc) (pa' : Nat → Addr), Stand p l e RI s m args below meth c T' locs' (1 + np N K) (np N K + min (np N K * 2 ^ K) N) ∧ T'.heap = h' ∧ Fr n0 locs' ∧ Wd Z h' b P pa' N K (np N K) (fun _ => 0) ∧
        ∀ target, Steps p.tables e below (T'.setTop (mkF m 49 #[.val (.ref b), .val (.long (Int64.ofNat N)), .second, .val (.int (Int32.ofNat K)), .val (.int (Int32.ofNat (np N K)))] [])) target → Steps p.tables e below (T0.setTop (mkF m 17 #[.val (.ref b), .val (.long (Int64.ofNat N)), .second, .val (.int (Int32.ofNat K)), .val (.int (Int32.ofNat J))] [])) target := by
  have n16 := np16 hN hK
  intro k
  induction k with
  | zero =>
    intro J pa T0 h0 locs hJ X0 e0 N0 W0
    obtain rfl : J = np N K := by omega
    obtain ⟨Ex, Fp, Fs, Fm, Fl, hbP, ⟨clP, cP, ArP, qP, OP, sP, gP⟩, pg1, pg2, pg⟩ := id W0
    obtain ⟨T1, X1, e1, st1⟩ := tn1_17_49 b (.val (.long (Int64.ofNat N))) .second (.val (.int (Int32.ofNat K))) (Int32.ofNat (np N K)) P clP (Int32.ofNat (np N K)) X0 hx hZ hw hby hml hown e0 Fp ArP (by rw [sP, own_tn (by omega)]) (own_nn (by omega)) Int32.lt_irrefl
    exact ⟨T1, h0, locs, pa, X1, e1, N0, W0, st1⟩
  | succ k ih =>
    intro J pa T0 h0 locs hJ X0 e0 N0 W0
    have hs1 : min (J * 2 ^ K) N + pl N K J ≤ 16 := by rw [plsum]; exact Nat.le_trans (Nat.min_le_right _ _) hN
    obtain ⟨T1, h1, L1, pa1, X1, e1, N1, W1, st1⟩ := own_turn b P pa N K J n0 hN hK (by omega) gP0 X0 hx hZ hw hby hml hown e0 W0 N0 (by show 1 + J + 1 ≤ 17; omega) (by show np N K + min (J * 2 ^ K) N + pl N K J ≤ 32; omega)
    rw [Nat.add_assoc (np N K), plsum, Nat.add_assoc 1 J 1] at X1
    obtain ⟨T', h', L', pa', X', e', N', W', st⟩ := ih (J + 1) pa1 T1 h1 L1 (by omega) X1 e1 N1 W1
    exact ⟨T', h', L', pa', X', e', N', W', fun target kt => st1 target (st target kt)⟩
theorem d1_0 : decode prog_14_method_2_code 0 = .ok (.aload_n 0, 1) := by decide +kernel
theorem d1_1 : decode prog_14_method_2_code 1 = .ok (.lload_n 1, 1) := by decide +kernel
theorem d1_2 : decode prog_14_method_2_code 2 = .ok (.iload_n 3, 1) := by decide +kernel
theorem d1_3 : decode prog_14_method_2_code 3 = .ok (.invokestatic 7, 3) := by decide +kernel
theorem d1_6 : decode prog_14_method_2_code 6 = .ok (.anewarray 11, 3) := by decide +kernel
theorem d1_9 : decode prog_14_method_2_code 9 = .ok (.iload_n 3, 1) := by decide +kernel
theorem d1_10 : decode prog_14_method_2_code 10 = .ok (.lload_n 1, 1) := by decide +kernel
theorem d1_11 : decode prog_14_method_2_code 11 = .ok (.invokespecial 13, 3) := by decide +kernel
theorem d1_14 : decode prog_14_method_2_code 14 = .ok (.iconst 0, 1) := by decide +kernel
theorem d1_15 : decode prog_14_method_2_code 15 = .ok (.istore 4, 2) := by decide +kernel
theorem d1_49 : decode prog_14_method_2_code 49 = .ok (.return_, 1) := by decide +kernel
theorem pn_1 : plainName "com/example/cowbird/cowbird/table/Words" = true := by first | (simp [plainName, overriddenIn]; done) | decide +kernel
theorem pd_1_1 : parseMethodDescriptor "(JI)I" = some ⟨[.long, .int], some .int⟩ := by decide +kernel
theorem pd_1_3 : parseMethodDescriptor "([[JIJ)V" = some ⟨[(.array (.array .long)), .int, .long], none⟩ := by decide +kernel
theorem ef_1 (m : MethodId) (x0 : Addr) (x1 : Int64) (x2 : Int32) : entryFrame m #[(.ref x0), (.long x1), (.int x2)] 5 = mkF m 0 #[.val (.ref x0), .val (.long x1), .second, .val (.int x2), .unset] [] := by first | (simp [entryFrame, mkF, argsToLocals, Value.category]; done) | rfl
def Q1 (Z : State) (b : Addr) (N K : Nat) (n0 : Nat) (v : Option Value) (h : Heap) (L : List Loc) : Prop := v = none ∧ Fr n0 L ∧ ∃ (P : Addr) (pa : Nat → Addr), n0 ≤ P ∧ Wd Z h b P pa N K (np N K) (fun _ => 0)
set_option maxRecDepth 65536 in
set_option maxHeartbeats 40000000 in
theorem rm1 (l : Launch) (Z : State) (a0 : Array Value) (hw : ∀ d ∈ tables_1, d.before a0 Z = true) (ws : List Jvm.Cond) (b : Addr) (q2 : Int64) (p3 : Int32) (N K : Nat) (hN1 : 1 ≤ N) (hN : N ≤ 16) (hK : K ≤ 4) (hq : q2 = Int64.ofNat N) (hp : p3 = Int32.ofNat K) (h0 : Heap) (n0 : Nat) (Z0 : n0 ≤ h0.size) (E_b : Exa Z h0 b "com/example/cowbird/cowbird/table/Words") (F1 : Fld Z h0 b "com/example/cowbird/cowbird/table/Words" "pages" "[[J" .null) (F2 : Fld Z h0 b "com/example/cowbird/cowbird/table/Words" "pageShift" "I" (.int (0 : Int32))) (F3 : Fld Z h0 b "com/example/cowbird/cowbird/table/Words" "pageMask" "J" (.long (0 : Int64))) (F4 : Fld Z h0 b "com/example/cowbird/cowbird/table/Words" "length" "J" (.long (0 : Int64))) (g_b : n0 ≤ b) :
    MetFree l (⟨"com/example/cowbird/cowbird/table/Words", "<init>", "(JI)V"⟩ : MethodName) (head1 (Jvm.Cond.code (⟨"com/example/cowbird/cowbird/table/Words", "<init>", "(JI)V"⟩ : MethodName) prog_14_method_2_code 5 none :: ws) RI) (fun a U => a = #[(.ref b), (.long q2), (.int p3)] ∧ Z.Warmed39 U.vm ∧ U.heap = h0) (fun _ _ _ _ _ => True) (fun _ U o U' => ∃ v L, o = .returned v ∧ Q1 Z b N K n0 v U'.heap L ∧ FrameEnd U o U' L RI.cells RI.slots) := by
  subst hq hp
  refine MetFree.of_bodySF (plainFor_of_name pn_1) hisR ?_
  intro p e s m args below meth c s₁ Bd hml0 hP hK0
  obtain ⟨rfl, hZ, hh⟩ := hP
  have hx := Bd.exec
  have hby := Bd.bytes
  have hml : c.maxLocals = 5 := hml0
  have hown : s.vm.findClass "com/example/cowbird/cowbird/table/Words" = some m.cls := findClass_of_methodNamed Bd.named
  have X0 : Stand p l e RI s m #[(.ref b), (.long (Int64.ofNat N)), (.int (Int32.ofNat K))] below meth c s₁ [] 0 0 := Stand.of_body Bd
  have e0 : s₁.heap = h0 := by rw [← hh, Bd.state]; rfl
  have N0 := Fr.nil n0
  have pre0 : ∀ t, Steps p.tables e below (s₁.setTop (mkF m 0 #[.val (.ref b), .val (.long (Int64.ofNat N)), .second, .val (.int (Int32.ofNat K)), .unset] [])) t → Steps p.tables e below (s₁.setTop (entryFrame m #[(.ref b), (.long (Int64.ofNat N)), (.int (Int32.ofNat K))] 5)) t := fun t k => castTop (ef_1 m b (Int64.ofNat N) (Int32.ofNat K)) k
  have n16 := np16 hN hK
  obtain ⟨_, _, ⟨T4, L4, k4, n4⟩, -, X4, ⟨Lc4, hQ4, l4, y4, z4⟩, st4⟩ := Jvm.LawKit.callS X0 hx (y := (⟨"com/example/cowbird/cowbird/table/Words", "pageCount", "(JI)I"⟩ : MethodName)) hown (mvT hZ (hw _ (List.mem_of_getElem? (i := 7) rfl))) (mvT hZ (hw _ (List.mem_of_getElem? (i := 8) rfl))) (mvT hZ (hw _ (List.mem_of_getElem? (i := 3) rfl))) (mvT hZ (hw _ (List.mem_of_getElem? (i := 9) rfl))) (by decide) (backOf (W := 1) (own_pc l Z a0 hw hN1 hN hK h0 n0 Z0) hZ (hw _ (List.mem_of_getElem? (i := 9) rfl)) (hw _ (List.mem_of_getElem? (i := 3) rfl)) (by decide) (by decide)) (g := (mkF m 3 #[.val (.ref b), .val (.long (Int64.ofNat N)), .second, .val (.int (Int32.ofNat K)), .unset] [(.int (Int32.ofNat K)), (.long (Int64.ofNat N)), (.ref b)])) rfl (by rw [hml]; rfl) (argsL := [(.long (Int64.ofNat N)), (.int (Int32.ofNat K))]) (rest := [(.ref b)]) (lenOf pd_1_1 rfl) rfl (by show 2 * 0 + _ ≤ _; exact Nat.le_of_eq rfl) (hb hby d1_3) (fun _ _ => ⟨rfl, e0, (by decide : 0 + 0 ≤ _), (by decide : 0 + 0 ≤ _)⟩)
  dsimp only [Pt.U, Pt.locs, Pt.cells, Pt.slots] at X4 l4 y4 z4 st4 hQ4
  subst l4 y4 z4
  obtain ⟨rfl, N4q, eQ4⟩ := hQ4
  have N4 := Fr.app N0 N4q
  obtain ⟨T5, h5, k5, X5, e5, E5, A5, AE5, O5, st5⟩ := newRA X4 hx hZ (C := "[J") (ty := .long) hown (by decide +kernel) (hw _ (List.mem_of_getElem? (i := 10) rfl)) (hw _ (List.mem_of_getElem? (i := 11) rfl)) eQ4 (g := (mkF m 6 #[.val (.ref b), .val (.long (Int64.ofNat N)), .second, .val (.int (Int32.ofNat K)), .unset] [(.int (Int32.ofNat (np N K))), (.ref b)])) rfl (hb hby d1_6) rfl (own_nn (by omega)) (cap := np N K) (by rw [own_tn (by omega)]; exact Nat.le_refl _) (by omega) (by decide) (by show 0 + 0 + np N K ≤ 32; omega) (ad := "[[J") (by decide +kernel)
  obtain ⟨P, gP⟩ : ∃ z, z = h0.size := ⟨_, rfl⟩
  rw [← gP] at A5 AE5 st5
  have bP : b < P := by rw [gP]; exact E_b.lt
  have gP0 : n0 ≤ P := by rw [gP]; exact Z0
  obtain ⟨_, _, ⟨T6, L6, k6, n6⟩, -, X6, ⟨Lc6, hQ6, l6, y6, z6⟩, st6⟩ := X5.specialBack hx (y := (⟨"com/example/cowbird/cowbird/table/Words", "<init>", "([[JIJ)V"⟩ : MethodName)) rfl hown (mvT hZ (hw _ (List.mem_of_getElem? (i := 12) rfl))) (mvT hZ (hw _ (List.mem_of_getElem? (i := 13) rfl))) (mvT hZ (hw _ (List.mem_of_getElem? (i := 14) rfl))) (by decide) (backOf (W := 0) (rm3_x l Z a0 hw [] b P (Int32.ofNat K) (Int64.ofNat N) _ _ _ _ h5 n0 (Nat.le_trans Z0 E5.1) (E_b.ext E5) (F1.ext E5) g_b (F2.ext E5) (F3.ext E5) (F4.ext E5)) hZ (hw _ (List.mem_of_getElem? (i := 14) rfl)) (hw _ (List.mem_of_getElem? (i := 3) rfl)) (by decide) (by decide)) (g := (mkF m 11 #[.val (.ref b), .val (.long (Int64.ofNat N)), .second, .val (.int (Int32.ofNat K)), .unset] [(.long (Int64.ofNat N)), (.int (Int32.ofNat K)), (.ref P), (.ref b)])) rfl (by rw [hml]; rfl) (Steps.refl _) (a := b) (argsL := [(.ref P), (.int (Int32.ofNat K)), (.long (Int64.ofNat N))]) (rest := []) (lenOf pd_1_3 rfl) rfl (by show 2 * 0 + _ ≤ _; exact Nat.le_of_eq rfl) (hb hby d1_11) (fun _ _ => ⟨rfl, e5, (by decide : 0 + 0 + 1 + 0 ≤ _), (by show 0 + 0 + np N K + 0 ≤ 32; omega)⟩)
  dsimp only [Pt.U, Pt.locs, Pt.cells, Pt.slots] at X6 l6 y6 z6 st6 hQ6
  subst l6 y6 z6
  obtain ⟨rfl, N6q, K6, E6, G1, G2, G3, G4⟩ := hQ6
  have N6 := Fr.app N4 N6q
  have W6 : Wd Z T6.heap b P (fun _ => 0) N K 0 (fun _ => 0) := ⟨E6, G1, G2, G3, G4, bP, ⟨_, k5, ⟨K6.2.1 P _ A5.1 (fun q => absurd (List.mem_singleton.mp q) (Nat.ne_of_gt bP)), A5.2⟩, rfl, O5, by rw [sz_new, own_tn (by omega)], fun j hj => absurd hj (Nat.not_lt_zero j)⟩, fun j hj => absurd hj (Nat.not_lt_zero j), fun i j _ hj => absurd hj (Nat.not_lt_zero j), fun j hj => absurd hj (Nat.not_lt_zero j)⟩
  have X6' : Stand p l e RI s m #[(.ref b), (.long (Int64.ofNat N)), (.int (Int32.ofNat K))] below meth c T6 _ (1 + 0) (np N K + min (0 * 2 ^ K) N) := X6.more (by decide) (by simp)
  obtain ⟨T7, h7, L7, pa7, X7, e7, N7, W7, st7⟩ := own_loop b P N K n0 hN hK gP0 hx hZ hw hby hml hown (np N K) 0 (fun _ => 0) T6 T6.heap _ (by omega) X6' rfl N6 W6
  obtain ⟨fs, hr, hrun, hended, hW, hsame⟩ := X7.leave (v := none) (fun _ => rfl)
  have hb1 : 1 + np N K ≤ 17 := by omega
  have hb2 : np N K + min (np N K * 2 ^ K) N ≤ 32 := by
    have := Nat.min_le_right (np N K * 2 ^ K) N
    omega
  refine ⟨_, _, pre0 _ ?_, hrun, hended, _, _, rfl, ?_, ⟨_, rfl⟩, hW, hsame.mono hb1 hb2⟩
  · show Steps p.tables e below (s₁.setTop (mkF m 0 #[.val (.ref b), .val (.long (Int64.ofNat N)), .second, .val (.int (Int32.ofNat K)), .unset] [])) _
    refine XS.aloadN X0.here hx rfl (hb hby d1_0) rfl rfl ?_
    show Steps p.tables e below (s₁.setTop (mkF m 1 #[.val (.ref b), .val (.long (Int64.ofNat N)), .second, .val (.int (Int32.ofNat K)), .unset] [(.ref b)])) _
    refine XS.lloadN X0.here hx rfl (hb hby d1_1) rfl ?_
    show Steps p.tables e below (s₁.setTop (mkF m 2 #[.val (.ref b), .val (.long (Int64.ofNat N)), .second, .val (.int (Int32.ofNat K)), .unset] [(.long (Int64.ofNat N)), (.ref b)])) _
    refine XS.iloadN X0.here hx rfl (hb hby d1_2) rfl ?_
    show Steps p.tables e below (s₁.setTop (mkF m 3 #[.val (.ref b), .val (.long (Int64.ofNat N)), .second, .val (.int (Int32.ofNat K)), .unset] [(.int (Int32.ofNat K)), (.long (Int64.ofNat N)), (.ref b)])) _
    refine st4 _ ?_
    show Steps p.tables e below (T4.setTop (mkF m 6 #[.val (.ref b), .val (.long (Int64.ofNat N)), .second, .val (.int (Int32.ofNat K)), .unset] [(.int (Int32.ofNat (np N K))), (.ref b)])) _
    refine st5 _ ?_
    show Steps p.tables e below (T5.setTop (mkF m 9 #[.val (.ref b), .val (.long (Int64.ofNat N)), .second, .val (.int (Int32.ofNat K)), .unset] [(.ref P), (.ref b)])) _
    refine XS.iloadN X5.here hx rfl (hb hby d1_9) rfl ?_
    show Steps p.tables e below (T5.setTop (mkF m 10 #[.val (.ref b), .val (.long (Int64.ofNat N)), .second, .val (.int (Int32.ofNat K)), .unset] [(.int (Int32.ofNat K)), (.ref P), (.ref b)])) _
    refine XS.lloadN X5.here hx rfl (hb hby d1_10) rfl ?_
    show Steps p.tables e below (T5.setTop (mkF m 11 #[.val (.ref b), .val (.long (Int64.ofNat N)), .second, .val (.int (Int32.ofNat K)), .unset] [(.long (Int64.ofNat N)), (.int (Int32.ofNat K)), (.ref P), (.ref b)])) _
    refine st6.trans ?_
    show Steps p.tables e below (T6.setTop (mkF m 14 #[.val (.ref b), .val (.long (Int64.ofNat N)), .second, .val (.int (Int32.ofNat K)), .unset] [])) _
    refine XS.iconst X6.here hx rfl (hb hby d1_14) ?_
    show Steps p.tables e below (T6.setTop (mkF m 15 #[.val (.ref b), .val (.long (Int64.ofNat N)), .second, .val (.int (Int32.ofNat K)), .unset] [(.int (0 : Int32))])) _
    refine XS.istore X6.here hx rfl (hb hby d1_15) rfl (l' := #[.val (.ref b), .val (.long (Int64.ofNat N)), .second, .val (.int (Int32.ofNat K)), .val (.int (0 : Int32))]) rfl ?_
    show Steps p.tables e below (T6.setTop (mkF m 17 #[.val (.ref b), .val (.long (Int64.ofNat N)), .second, .val (.int (Int32.ofNat K)), .val (.int (0 : Int32))] [])) _
    refine st7 _ ?_
    exact X7.returnOut hx Bd.returns (hb hby d1_49) hr
  · show Q1 Z b N K n0 _ T7.heap _
    rw [e7]
    exact ⟨rfl, N7, P, pa7, gP0, W7⟩
set_option maxRecDepth 65536 in
theorem tabL : ∀ i : Fin 17, (Int32.ofNat i.val).toInt64 = Int64.ofNat i.val := by decide +kernel
theorem own_l {n : Nat} (h : n ≤ 16) {z : Int32} (e : z = Int32.ofNat n) : z.toInt64 = Int64.ofNat n := by rw [e]; exact tabL ⟨n, by omega⟩
theorem own_lc {x y : Int64} (h : x = y) : lcmpW x y = 0 := by rw [lcW]; exact (lc_eq x y).mpr h
theorem pn_0 : plainName "com/example/cowbird/cowbird/table/WordsGetPinLaw" = true := by first | (simp [plainName, overriddenIn]; done) | decide +kernel
theorem pd_0_0 : parseMethodDescriptor "(JI)V" = some ⟨[.long, .int], none⟩ := by decide +kernel
theorem pd_0_6 : parseMethodDescriptor "(J)J" = some ⟨[.long], some .long⟩ := by decide +kernel
theorem pd_0_7 : parseMethodDescriptor "(JJ)V" = some ⟨[.long, .long], none⟩ := by decide +kernel
theorem pd_0_8 : parseMethodDescriptor "()J" = some ⟨[], some .long⟩ := by decide +kernel
theorem ef_0 (m : MethodId) (x0 : Int32) (x1 : Int32) (x2 : Int32) (x3 : Int64) (x4 : Int64) : entryFrame m #[(.int x0), (.int x1), (.int x2), (.long x3), (.long x4)] maxLocals = mkF m 0 #[.val (.int x0), .val (.int x1), .val (.int x2), .val (.long x3), .second, .val (.long x4), .second, .unset, .unset, .unset, .unset, .unset, .unset, .unset, .unset, .unset, .unset, .unset] [] := by first | (simp [entryFrame, mkF, argsToLocals, Value.category, maxLocals]; done) | rfl
def Q0_a (Z : State) (p1 : Int32) (p2 : Int32) (p3 : Int32) (q4 : Int64) (q5 : Int64) (N : Nat) (K : Nat) (I : Nat) (J : Nat) (Q : Nat) (h0 : Heap) (n0 : Nat) (v : Option Value) (h : Heap) (L : List Loc) : Prop := v = some (.int (1 : Int32)) ∧ Fr n0 L
set_option maxRecDepth 65536 in
set_option maxHeartbeats 40000000 in
theorem rm0_a (l : Launch) (Z : State) (a0 : Array Value) (hw : ∀ d ∈ tables_1, d.before a0 Z = true) (ws : List Jvm.Cond) (p1 : Int32) (p2 : Int32) (p3 : Int32) (q4 : Int64) (q5 : Int64) (N : Nat) (K : Nat) (I : Nat) (J : Nat) (Q : Nat) (h0 : Heap) (n0 : Nat) (Z0 : n0 ≤ h0.size) (hvN : ((1 : Int32) + (p1 &&& (15 : Int32))) = (Int32.ofNat N)) (hvK : ((p2 &&& (2147483647 : Int32)) % (5 : Int32)) = (Int32.ofNat K)) (hnz23 : ¬ ((Int32.ofNat N) = (0 : Int32))) (hvI : ((p3 &&& (255 : Int32)) % (Int32.ofNat N)) = (Int32.ofNat I)) (hnz36 : ¬ ((Int32.ofNat N) = (0 : Int32))) (hvJ : ((((p3.toUInt32 >>> ((8 : Int32) &&& 31).toUInt32).toInt32) &&& (255 : Int32)) % (Int32.ofNat N)) = (Int32.ofNat J)) (hnz49 : ¬ ((Int32.ofNat N) = (0 : Int32))) (hvQ : ((((p3.toUInt32 >>> ((16 : Int32) &&& 31).toUInt32).toInt32) &&& (255 : Int32)) % (Int32.ofNat N)) = (Int32.ofNat Q)) (hc109 : (Int32.ofNat I) = (Int32.ofNat J)) (hc124 : (Int32.ofNat Q) = (Int32.ofNat J)) (hc148 : ¬ ((1 : Int32) = (0 : Int32))) (hN1 : 1 ≤ N) (hN : N ≤ 16) (hKK : K ≤ 4) (hI : I < N) (hJ : J < N) (hQ : Q < N) (hIJ : I = J) (hQJ : Q = J) :
    MetFree l x (head1 (Jvm.Cond.code x code maxLocals ret :: ws) room_1) (fun a U => a = #[(.int p1), (.int p2), (.int p3), (.long q4), (.long q5)] ∧ Z.Warmed39 U.vm ∧ U.heap = h0) (fun _ _ _ _ _ => True) (fun _ U o U' => ∃ v L, o = .returned v ∧ Q0_a Z p1 p2 p3 q4 q5 N K I J Q h0 n0 v U'.heap L ∧ FrameEnd U o U' L room_1.cells room_1.slots) := by
  refine MetFree.of_bodySF (plainFor_of_name pn_0) hisR ?_
  intro p e s m args below meth c s₁ Bd hml0 hP hK
  obtain ⟨rfl, hZ, hh⟩ := hP
  have hx := Bd.exec
  have hby := Bd.bytes
  have hml : c.maxLocals = 18 := hml0
  have hown : s.vm.findClass "com/example/cowbird/cowbird/table/WordsGetPinLaw" = some m.cls := findClass_of_methodNamed Bd.named
  have hnm := (name_of_methodNamed Bd.named Bd.method).1
  have X0 : Stand p l e room_1 s m #[(.int p1), (.int p2), (.int p3), (.long q4), (.long q5)] below meth c s₁ [] 0 0 := Stand.of_body Bd
  have e0 : s₁.heap = h0 := by rw [← hh, Bd.state]; rfl
  have N0 := Fr.nil n0
  have pre0 : ∀ t, Steps p.tables e below (s₁.setTop (mkF m 0 #[.val (.int p1), .val (.int p2), .val (.int p3), .val (.long q4), .second, .val (.long q5), .second, .unset, .unset, .unset, .unset, .unset, .unset, .unset, .unset, .unset, .unset, .unset] [])) t → Steps p.tables e below (s₁.setTop (entryFrame m #[(.int p1), (.int p2), (.int p3), (.long q4), (.long q5)] maxLocals)) t := fun t k => castTop (ef_0 m p1 p2 p3 q4 q5) k

  obtain ⟨T6, h6, X6, e6, E6, A6, D6, -, st6⟩ := newO X0 hx hZ hown (hw _ (List.mem_of_getElem? (i := 1) rfl)) (hw _ (List.mem_of_getElem? (i := 2) rfl)) (hw _ (List.mem_of_getElem? (i := 3) rfl)) e0 (g := (mkF m 52 #[.val (.int p1), .val (.int p2), .val (.int p3), .val (.long q4), .second, .val (.long q5), .second, .val (.int (Int32.ofNat N)), .val (.int (Int32.ofNat K)), .val (.int (Int32.ofNat I)), .val (.int (Int32.ofNat J)), .val (.int (Int32.ofNat Q)), .unset, .unset, .unset, .unset, .unset, .unset] [])) rfl (hb hby at_52) (by decide) (by decide)
  obtain ⟨b6, g6⟩ : ∃ z, z = h0.size := ⟨_, rfl⟩
  rw [← g6] at A6 D6 st6
  have F_pages_b6 : Fld Z h6 b6 "com/example/cowbird/cowbird/table/Words" "pages" "[[J" .null := D6 (Or.inr (hw _ (List.mem_of_getElem? (i := 19) rfl))) (ty := (.array (.array .long))) (by decide)
  have F_pageShift_b6 : Fld Z h6 b6 "com/example/cowbird/cowbird/table/Words" "pageShift" "I" (.int (0 : Int32)) := D6 (Or.inr (hw _ (List.mem_of_getElem? (i := 21) rfl))) (ty := .int) (by decide)
  have F_pageMask_b6 : Fld Z h6 b6 "com/example/cowbird/cowbird/table/Words" "pageMask" "J" (.long (0 : Int64)) := D6 (Or.inr (hw _ (List.mem_of_getElem? (i := 23) rfl))) (ty := .long) (by decide)
  have F_length_b6 : Fld Z h6 b6 "com/example/cowbird/cowbird/table/Words" "length" "J" (.long (0 : Int64)) := D6 (Or.inr (hw _ (List.mem_of_getElem? (i := 25) rfl))) (ty := .long) (by decide)
  have E_b6 := A6
  have g_b6 : n0 ≤ b6 := Nat.le_trans Z0 (Nat.le_of_eq g6.symm)
  have sz_b6 : h0.size ≤ b6 := (Nat.le_trans (Keep.refl h0 []).1 (Nat.le_of_eq g6.symm))
  have K6 : Keep h0 h6 [] := (Keep.refl h0 []).ext E6

  obtain ⟨_, _, ⟨T7, L7, k7, n7⟩, -, X7, ⟨Lc7, hQ7, l7, y7, z7⟩, st7⟩ := X6.specialBack hx (y := (⟨"com/example/cowbird/cowbird/table/Words", "<init>", "(JI)V"⟩ : MethodName)) rfl hown (mvT hZ (hw _ (List.mem_of_getElem? (i := 4) rfl))) (mvT hZ (hw _ (List.mem_of_getElem? (i := 5) rfl))) (mvT hZ (hw _ (List.mem_of_getElem? (i := 6) rfl))) (by decide) (backOf (W := 1) (rm1 l Z a0 hw [] b6 ((Int32.ofNat N).toInt64) (Int32.ofNat K) N K hN1 hN hKK (own_l hN rfl) rfl h6 n0 (Nat.le_trans Z0 E6.1) E_b6 F_pages_b6 F_pageShift_b6 F_pageMask_b6 F_length_b6 g_b6) hZ (hw _ (List.mem_of_getElem? (i := 6) rfl)) (hw _ (List.mem_of_getElem? (i := 3) rfl)) (by decide) (by decide)) (g := (mkF m 61 #[.val (.int p1), .val (.int p2), .val (.int p3), .val (.long q4), .second, .val (.long q5), .second, .val (.int (Int32.ofNat N)), .val (.int (Int32.ofNat K)), .val (.int (Int32.ofNat I)), .val (.int (Int32.ofNat J)), .val (.int (Int32.ofNat Q)), .unset, .unset, .unset, .unset, .unset, .unset] [(.int (Int32.ofNat K)), (.long ((Int32.ofNat N).toInt64)), (.ref b6), (.ref b6)])) rfl (by rw [hml]; rfl) (Steps.refl _) (a := b6) (argsL := [(.long ((Int32.ofNat N).toInt64)), (.int (Int32.ofNat K))]) (rest := [(.ref b6)]) (lenOf pd_0_0 rfl) rfl (by show 2 * 0 + _ ≤ _; exact Nat.le_of_eq rfl) (hb hby at_61) (fun _ _ => ⟨rfl, e6, (by decide : 1 + 17 ≤ _), (by decide : 4 + 32 ≤ _)⟩)
  dsimp only [Pt.U, Pt.locs, Pt.cells, Pt.slots] at X7 l7 y7 z7 st7 hQ7
  subst l7 y7 z7
  obtain ⟨rfl, N7q, P, pa, gP, W7⟩ := hQ7
  have zz7 : n0 ≤ T7.heap.size := Nat.le_trans gP (Nat.le_of_lt W7.lt)
  have N7 := Fr.app N0 N7q

  obtain ⟨cq8, kq8, q8a, q8b, q8c⟩ := isOf hZ rfl W7.1
  obtain ⟨_, _, ⟨T8, L8, k8, n8⟩, -, X8, ⟨Lc8, hQ8, l8, y8, z8⟩, st8⟩ := X7.virtualBack hx (y := (⟨"com/example/cowbird/cowbird/table/Words", "get", "(J)J"⟩ : MethodName)) (z := (⟨"com/example/cowbird/cowbird/table/Words", "get", "(J)J"⟩ : MethodName)) hown (mvT hZ (hw _ (List.mem_of_getElem? (i := 35) rfl))) (mvT hZ (hw _ (List.mem_of_getElem? (i := 36) rfl))) (notFace_of_selects (args := #[]) (mvT hZ (hw _ (List.mem_of_getElem? (i := 38) rfl)))) (mvT hZ (hw _ (List.mem_of_getElem? (i := 38) rfl))) (mvT hZ (hw _ (List.mem_of_getElem? (i := 37) rfl))) (by decide) (backOf (W := 0) (Wd.get l Z a0 hw hN hKK (zz7) W7 hQ (own_l (by omega) rfl)) hZ (hw _ (List.mem_of_getElem? (i := 39) rfl)) (hw _ (List.mem_of_getElem? (i := 3) rfl)) (by decide) (by decide)) q8a q8c (g := (mkF m 71 #[.val (.int p1), .val (.int p2), .val (.int p3), .val (.long q4), .second, .val (.long q5), .second, .val (.int (Int32.ofNat N)), .val (.int (Int32.ofNat K)), .val (.int (Int32.ofNat I)), .val (.int (Int32.ofNat J)), .val (.int (Int32.ofNat Q)), .val (.ref b6), .unset, .unset, .unset, .unset, .unset] [(.long ((Int32.ofNat Q).toInt64)), (.ref b6)])) rfl (by rw [hml]; rfl) (Steps.refl _) (argsL := [(.long ((Int32.ofNat Q).toInt64))]) (rest := []) (lenOf pd_0_6 rfl) rfl (by show 2 * 0 + _ ≤ _; exact Nat.le_of_eq rfl) (hb hby at_71) (fun _ _ => ⟨rfl, rfl, (by decide : 1 + 17 + 0 ≤ _), (by decide : 4 + 32 + 0 ≤ _)⟩)
  dsimp only [Pt.U, Pt.locs, Pt.cells, Pt.slots] at X8 l8 y8 z8 st8 hQ8
  subst l8 y8 z8
  obtain ⟨rfl, N8q, eQ8⟩ := hQ8
  have W8 : Wd Z T8.heap b6 P pa N K (np N K) (fun _ => (0 : Int64)) := by rw [eQ8]; exact W7
  have zz8 : n0 ≤ T8.heap.size := Nat.le_trans gP (Nat.le_of_lt W8.lt)
  have N8 := Fr.app N7 N8q

  obtain ⟨cq9, kq9, q9a, q9b, q9c⟩ := isOf hZ rfl W8.1
  obtain ⟨_, _, ⟨T9, L9, k9, n9⟩, -, X9, ⟨Lc9, hQ9, l9, y9, z9⟩, st9⟩ := X8.virtualBack hx (y := (⟨"com/example/cowbird/cowbird/table/Words", "set", "(JJ)V"⟩ : MethodName)) (z := (⟨"com/example/cowbird/cowbird/table/Words", "set", "(JJ)V"⟩ : MethodName)) hown (mvT hZ (hw _ (List.mem_of_getElem? (i := 40) rfl))) (mvT hZ (hw _ (List.mem_of_getElem? (i := 41) rfl))) (notFace_of_selects (args := #[]) (mvT hZ (hw _ (List.mem_of_getElem? (i := 43) rfl)))) (mvT hZ (hw _ (List.mem_of_getElem? (i := 43) rfl))) (mvT hZ (hw _ (List.mem_of_getElem? (i := 42) rfl))) (by decide) (backOf (W := 0) (Wd.put l Z a0 hw hN hKK (zz8) gP W8 hI (own_l (by omega) rfl) q4) hZ (hw _ (List.mem_of_getElem? (i := 44) rfl)) (hw _ (List.mem_of_getElem? (i := 3) rfl)) (by decide) (by decide)) q9a q9c (g := (mkF m 92 #[.val (.int p1), .val (.int p2), .val (.int p3), .val (.long q4), .second, .val (.long q5), .second, .val (.int (Int32.ofNat N)), .val (.int (Int32.ofNat K)), .val (.int (Int32.ofNat I)), .val (.int (Int32.ofNat J)), .val (.int (Int32.ofNat Q)), .val (.ref b6), .val (.int (1 : Int32)), .unset, .unset, .unset, .unset] [(.long q4), (.long ((Int32.ofNat I).toInt64)), (.ref b6)])) rfl (by rw [hml]; rfl) (Steps.refl _) (argsL := [(.long ((Int32.ofNat I).toInt64)), (.long q4)]) (rest := []) (lenOf pd_0_7 rfl) rfl (by show 2 * 0 + _ ≤ _; exact Nat.le_of_eq rfl) (hb hby at_92) (fun _ _ => ⟨rfl, rfl, (by decide : 1 + 17 + 0 ≤ _), (by decide : 4 + 32 + 0 ≤ _)⟩)
  dsimp only [Pt.U, Pt.locs, Pt.cells, Pt.slots] at X9 l9 y9 z9 st9 hQ9
  subst l9 y9 z9
  obtain ⟨rfl, N9q, w9⟩ := hQ9
  have W9 : Wd Z T9.heap b6 P pa N K (np N K) (upd (fun _ => (0 : Int64)) I q4) := Wd.set hN hKK W8 hI w9
  have zz9 : n0 ≤ T9.heap.size := Nat.le_trans gP (Nat.le_of_lt W9.lt)
  have N9 := Fr.app N8 N9q

  obtain ⟨cq10, kq10, q10a, q10b, q10c⟩ := isOf hZ rfl W9.1
  obtain ⟨_, _, ⟨T10, L10, k10, n10⟩, -, X10, ⟨Lc10, hQ10, l10, y10, z10⟩, st10⟩ := X9.virtualBack hx (y := (⟨"com/example/cowbird/cowbird/table/Words", "set", "(JJ)V"⟩ : MethodName)) (z := (⟨"com/example/cowbird/cowbird/table/Words", "set", "(JJ)V"⟩ : MethodName)) hown (mvT hZ (hw _ (List.mem_of_getElem? (i := 40) rfl))) (mvT hZ (hw _ (List.mem_of_getElem? (i := 41) rfl))) (notFace_of_selects (args := #[]) (mvT hZ (hw _ (List.mem_of_getElem? (i := 43) rfl)))) (mvT hZ (hw _ (List.mem_of_getElem? (i := 43) rfl))) (mvT hZ (hw _ (List.mem_of_getElem? (i := 42) rfl))) (by decide) (backOf (W := 0) (Wd.put l Z a0 hw hN hKK (zz9) gP W9 hJ (own_l (by omega) rfl) q5) hZ (hw _ (List.mem_of_getElem? (i := 44) rfl)) (hw _ (List.mem_of_getElem? (i := 3) rfl)) (by decide) (by decide)) q10a q10c (g := (mkF m 102 #[.val (.int p1), .val (.int p2), .val (.int p3), .val (.long q4), .second, .val (.long q5), .second, .val (.int (Int32.ofNat N)), .val (.int (Int32.ofNat K)), .val (.int (Int32.ofNat I)), .val (.int (Int32.ofNat J)), .val (.int (Int32.ofNat Q)), .val (.ref b6), .val (.int (1 : Int32)), .unset, .unset, .unset, .unset] [(.long q5), (.long ((Int32.ofNat J).toInt64)), (.ref b6)])) rfl (by rw [hml]; rfl) (Steps.refl _) (argsL := [(.long ((Int32.ofNat J).toInt64)), (.long q5)]) (rest := []) (lenOf pd_0_7 rfl) rfl (by show 2 * 0 + _ ≤ _; exact Nat.le_of_eq rfl) (hb hby at_102) (fun _ _ => ⟨rfl, rfl, (by decide : 1 + 17 + 0 ≤ _), (by decide : 4 + 32 + 0 ≤ _)⟩)
  dsimp only [Pt.U, Pt.locs, Pt.cells, Pt.slots] at X10 l10 y10 z10 st10 hQ10
  subst l10 y10 z10
  obtain ⟨rfl, N10q, w10⟩ := hQ10
  have W10 : Wd Z T10.heap b6 P pa N K (np N K) (upd (upd (fun _ => (0 : Int64)) I q4) J q5) := Wd.set hN hKK W9 hJ w10
  have zz10 : n0 ≤ T10.heap.size := Nat.le_trans gP (Nat.le_of_lt W10.lt)
  have N10 := Fr.app N9 N10q

  obtain ⟨cq11, kq11, q11a, q11b, q11c⟩ := isOf hZ rfl W10.1
  obtain ⟨_, _, ⟨T11, L11, k11, n11⟩, -, X11, ⟨Lc11, hQ11, l11, y11, z11⟩, st11⟩ := X10.virtualBack hx (y := (⟨"com/example/cowbird/cowbird/table/Words", "get", "(J)J"⟩ : MethodName)) (z := (⟨"com/example/cowbird/cowbird/table/Words", "get", "(J)J"⟩ : MethodName)) hown (mvT hZ (hw _ (List.mem_of_getElem? (i := 35) rfl))) (mvT hZ (hw _ (List.mem_of_getElem? (i := 36) rfl))) (notFace_of_selects (args := #[]) (mvT hZ (hw _ (List.mem_of_getElem? (i := 38) rfl)))) (mvT hZ (hw _ (List.mem_of_getElem? (i := 38) rfl))) (mvT hZ (hw _ (List.mem_of_getElem? (i := 37) rfl))) (by decide) (backOf (W := 0) (Wd.get l Z a0 hw hN hKK (zz10) W10 hI (own_l (by omega) rfl)) hZ (hw _ (List.mem_of_getElem? (i := 39) rfl)) (hw _ (List.mem_of_getElem? (i := 3) rfl)) (by decide) (by decide)) q11a q11c (g := (mkF m 156 #[.val (.int p1), .val (.int p2), .val (.int p3), .val (.long q4), .second, .val (.long q5), .second, .val (.int (Int32.ofNat N)), .val (.int (Int32.ofNat K)), .val (.int (Int32.ofNat I)), .val (.int (Int32.ofNat J)), .val (.int (Int32.ofNat Q)), .val (.ref b6), .val (.int (1 : Int32)), .val (.long q5), .second, .val (.long q5), .second] [(.long ((Int32.ofNat I).toInt64)), (.ref b6)])) rfl (by rw [hml]; rfl) (Steps.refl _) (argsL := [(.long ((Int32.ofNat I).toInt64))]) (rest := []) (lenOf pd_0_6 rfl) rfl (by show 2 * 0 + _ ≤ _; exact Nat.le_of_eq rfl) (hb hby at_156) (fun _ _ => ⟨rfl, rfl, (by decide : 1 + 17 + 0 ≤ _), (by decide : 4 + 32 + 0 ≤ _)⟩)
  dsimp only [Pt.U, Pt.locs, Pt.cells, Pt.slots] at X11 l11 y11 z11 st11 hQ11
  subst l11 y11 z11
  obtain ⟨rfl, N11q, eQ11⟩ := hQ11
  have W11 : Wd Z T11.heap b6 P pa N K (np N K) (upd (upd (fun _ => (0 : Int64)) I q4) J q5) := by rw [eQ11]; exact W10
  have zz11 : n0 ≤ T11.heap.size := Nat.le_trans gP (Nat.le_of_lt W11.lt)
  have N11 := Fr.app N10 N11q

  obtain ⟨cq12, kq12, q12a, q12b, q12c⟩ := isOf hZ rfl W11.1
  obtain ⟨_, _, ⟨T12, L12, k12, n12⟩, -, X12, ⟨Lc12, hQ12, l12, y12, z12⟩, st12⟩ := X11.virtualBack hx (y := (⟨"com/example/cowbird/cowbird/table/Words", "get", "(J)J"⟩ : MethodName)) (z := (⟨"com/example/cowbird/cowbird/table/Words", "get", "(J)J"⟩ : MethodName)) hown (mvT hZ (hw _ (List.mem_of_getElem? (i := 35) rfl))) (mvT hZ (hw _ (List.mem_of_getElem? (i := 36) rfl))) (notFace_of_selects (args := #[]) (mvT hZ (hw _ (List.mem_of_getElem? (i := 38) rfl)))) (mvT hZ (hw _ (List.mem_of_getElem? (i := 38) rfl))) (mvT hZ (hw _ (List.mem_of_getElem? (i := 37) rfl))) (by decide) (backOf (W := 0) (Wd.get l Z a0 hw hN hKK (zz11) W11 hJ (own_l (by omega) rfl)) hZ (hw _ (List.mem_of_getElem? (i := 39) rfl)) (hw _ (List.mem_of_getElem? (i := 3) rfl)) (by decide) (by decide)) q12a q12c (g := (mkF m 170 #[.val (.int p1), .val (.int p2), .val (.int p3), .val (.long q4), .second, .val (.long q5), .second, .val (.int (Int32.ofNat N)), .val (.int (Int32.ofNat K)), .val (.int (Int32.ofNat I)), .val (.int (Int32.ofNat J)), .val (.int (Int32.ofNat Q)), .val (.ref b6), .val (.int (1 : Int32)), .val (.long q5), .second, .val (.long q5), .second] [(.long ((Int32.ofNat J).toInt64)), (.ref b6)])) rfl (by rw [hml]; rfl) (Steps.refl _) (argsL := [(.long ((Int32.ofNat J).toInt64))]) (rest := []) (lenOf pd_0_6 rfl) rfl (by show 2 * 0 + _ ≤ _; exact Nat.le_of_eq rfl) (hb hby at_170) (fun _ _ => ⟨rfl, rfl, (by decide : 1 + 17 + 0 ≤ _), (by decide : 4 + 32 + 0 ≤ _)⟩)
  dsimp only [Pt.U, Pt.locs, Pt.cells, Pt.slots] at X12 l12 y12 z12 st12 hQ12
  subst l12 y12 z12
  obtain ⟨rfl, N12q, eQ12⟩ := hQ12
  have W12 : Wd Z T12.heap b6 P pa N K (np N K) (upd (upd (fun _ => (0 : Int64)) I q4) J q5) := by rw [eQ12]; exact W11
  have zz12 : n0 ≤ T12.heap.size := Nat.le_trans gP (Nat.le_of_lt W12.lt)
  have N12 := Fr.app N11 N12q

  obtain ⟨cq13, kq13, q13a, q13b, q13c⟩ := isOf hZ rfl W12.1
  obtain ⟨_, _, ⟨T13, L13, k13, n13⟩, -, X13, ⟨Lc13, hQ13, l13, y13, z13⟩, st13⟩ := X12.virtualBack hx (y := (⟨"com/example/cowbird/cowbird/table/Words", "get", "(J)J"⟩ : MethodName)) (z := (⟨"com/example/cowbird/cowbird/table/Words", "get", "(J)J"⟩ : MethodName)) hown (mvT hZ (hw _ (List.mem_of_getElem? (i := 35) rfl))) (mvT hZ (hw _ (List.mem_of_getElem? (i := 36) rfl))) (notFace_of_selects (args := #[]) (mvT hZ (hw _ (List.mem_of_getElem? (i := 38) rfl)))) (mvT hZ (hw _ (List.mem_of_getElem? (i := 38) rfl))) (mvT hZ (hw _ (List.mem_of_getElem? (i := 37) rfl))) (by decide) (backOf (W := 0) (Wd.get l Z a0 hw hN hKK (zz12) W12 hQ (own_l (by omega) rfl)) hZ (hw _ (List.mem_of_getElem? (i := 39) rfl)) (hw _ (List.mem_of_getElem? (i := 3) rfl)) (by decide) (by decide)) q13a q13c (g := (mkF m 184 #[.val (.int p1), .val (.int p2), .val (.int p3), .val (.long q4), .second, .val (.long q5), .second, .val (.int (Int32.ofNat N)), .val (.int (Int32.ofNat K)), .val (.int (Int32.ofNat I)), .val (.int (Int32.ofNat J)), .val (.int (Int32.ofNat Q)), .val (.ref b6), .val (.int (1 : Int32)), .val (.long q5), .second, .val (.long q5), .second] [(.long ((Int32.ofNat Q).toInt64)), (.ref b6)])) rfl (by rw [hml]; rfl) (Steps.refl _) (argsL := [(.long ((Int32.ofNat Q).toInt64))]) (rest := []) (lenOf pd_0_6 rfl) rfl (by show 2 * 0 + _ ≤ _; exact Nat.le_of_eq rfl) (hb hby at_184) (fun _ _ => ⟨rfl, rfl, (by decide : 1 + 17 + 0 ≤ _), (by decide : 4 + 32 + 0 ≤ _)⟩)
  dsimp only [Pt.U, Pt.locs, Pt.cells, Pt.slots] at X13 l13 y13 z13 st13 hQ13
  subst l13 y13 z13
  obtain ⟨rfl, N13q, eQ13⟩ := hQ13
  have W13 : Wd Z T13.heap b6 P pa N K (np N K) (upd (upd (fun _ => (0 : Int64)) I q4) J q5) := by rw [eQ13]; exact W12
  have zz13 : n0 ≤ T13.heap.size := Nat.le_trans gP (Nat.le_of_lt W13.lt)
  have N13 := Fr.app N12 N13q

  obtain ⟨cq14, kq14, q14a, q14b, q14c⟩ := isOf hZ rfl W13.1
  obtain ⟨_, _, ⟨T14, L14, k14, n14⟩, -, X14, ⟨Lc14, hQ14, l14, y14, z14⟩, st14⟩ := X13.virtualBack hx (y := (⟨"com/example/cowbird/cowbird/table/Words", "length", "()J"⟩ : MethodName)) (z := (⟨"com/example/cowbird/cowbird/table/Words", "length", "()J"⟩ : MethodName)) hown (mvT hZ (hw _ (List.mem_of_getElem? (i := 45) rfl))) (mvT hZ (hw _ (List.mem_of_getElem? (i := 46) rfl))) (notFace_of_selects (args := #[]) (mvT hZ (hw _ (List.mem_of_getElem? (i := 48) rfl)))) (mvT hZ (hw _ (List.mem_of_getElem? (i := 48) rfl))) (mvT hZ (hw _ (List.mem_of_getElem? (i := 47) rfl))) (by decide) (backOf (W := 0) (Wd.len l Z a0 hw (zz13) W13) hZ (hw _ (List.mem_of_getElem? (i := 49) rfl)) (hw _ (List.mem_of_getElem? (i := 3) rfl)) (by decide) (by decide)) q14a q14c (g := (mkF m 195 #[.val (.int p1), .val (.int p2), .val (.int p3), .val (.long q4), .second, .val (.long q5), .second, .val (.int (Int32.ofNat N)), .val (.int (Int32.ofNat K)), .val (.int (Int32.ofNat I)), .val (.int (Int32.ofNat J)), .val (.int (Int32.ofNat Q)), .val (.ref b6), .val (.int (1 : Int32)), .val (.long q5), .second, .val (.long q5), .second] [(.ref b6)])) rfl (by rw [hml]; rfl) (Steps.refl _) (argsL := []) (rest := []) (lenOf pd_0_8 rfl) rfl (by show 2 * 0 + _ ≤ _; exact Nat.le_of_eq rfl) (hb hby at_195) (fun _ _ => ⟨rfl, rfl, (by decide : 1 + 17 + 0 ≤ _), (by decide : 4 + 32 + 0 ≤ _)⟩)
  dsimp only [Pt.U, Pt.locs, Pt.cells, Pt.slots] at X14 l14 y14 z14 st14 hQ14
  subst l14 y14 z14
  obtain ⟨rfl, N14q, eQ14⟩ := hQ14
  have W14 : Wd Z T14.heap b6 P pa N K (np N K) (upd (upd (fun _ => (0 : Int64)) I q4) J q5) := by rw [eQ14]; exact W13
  have zz14 : n0 ≤ T14.heap.size := Nat.le_trans gP (Nat.le_of_lt W14.lt)
  have N14 := Fr.app N13 N14q
  obtain ⟨fs, hr, hrun, hended, hW, hsame⟩ := X14.leave (v := some (.int (1 : Int32))) (fun h => by rw [Bd.returns] at h; cases h)
  refine ⟨_, _, pre0 _ ?_, hrun, hended, _, _, rfl, ?_, ⟨_, rfl⟩, hW, hsame.mono (by decide) (by decide)⟩

  · show Steps p.tables e below (s₁.setTop (mkF m 0 #[.val (.int p1), .val (.int p2), .val (.int p3), .val (.long q4), .second, .val (.long q5), .second, .unset, .unset, .unset, .unset, .unset, .unset, .unset, .unset, .unset, .unset, .unset] [])) _
    refine XS.iconst X0.here hx rfl (hb hby at_0) ?_
    show Steps p.tables e below (s₁.setTop (mkF m 1 #[.val (.int p1), .val (.int p2), .val (.int p3), .val (.long q4), .second, .val (.long q5), .second, .unset, .unset, .unset, .unset, .unset, .unset, .unset, .unset, .unset, .unset, .unset] [(.int (1 : Int32))])) _
    refine XS.iloadN X0.here hx rfl (hb hby at_1) rfl ?_
    show Steps p.tables e below (s₁.setTop (mkF m 2 #[.val (.int p1), .val (.int p2), .val (.int p3), .val (.long q4), .second, .val (.long q5), .second, .unset, .unset, .unset, .unset, .unset, .unset, .unset, .unset, .unset, .unset, .unset] [(.int p1), (.int (1 : Int32))])) _
    refine XS.bipush X0.here hx rfl (hb hby at_2) ?_
    show Steps p.tables e below (s₁.setTop (mkF m 4 #[.val (.int p1), .val (.int p2), .val (.int p3), .val (.long q4), .second, .val (.long q5), .second, .unset, .unset, .unset, .unset, .unset, .unset, .unset, .unset, .unset, .unset, .unset] [(.int (15 : Int32)), (.int p1), (.int (1 : Int32))])) _
    refine XS.iand X0.here hx rfl (hb hby at_4) rfl ?_
    show Steps p.tables e below (s₁.setTop (mkF m 5 #[.val (.int p1), .val (.int p2), .val (.int p3), .val (.long q4), .second, .val (.long q5), .second, .unset, .unset, .unset, .unset, .unset, .unset, .unset, .unset, .unset, .unset, .unset] [(.int (p1 &&& (15 : Int32))), (.int (1 : Int32))])) _
    refine XS.iadd X0.here hx rfl (hb hby at_5) rfl ?_
    show Steps p.tables e below (s₁.setTop (mkF m 6 #[.val (.int p1), .val (.int p2), .val (.int p3), .val (.long q4), .second, .val (.long q5), .second, .unset, .unset, .unset, .unset, .unset, .unset, .unset, .unset, .unset, .unset, .unset] [(.int ((1 : Int32) + (p1 &&& (15 : Int32))))])) _
    rw [hvN]
    show Steps p.tables e below (s₁.setTop (mkF m 6 #[.val (.int p1), .val (.int p2), .val (.int p3), .val (.long q4), .second, .val (.long q5), .second, .unset, .unset, .unset, .unset, .unset, .unset, .unset, .unset, .unset, .unset, .unset] [(.int (Int32.ofNat N))])) _
    refine XS.istore X0.here hx rfl (hb hby at_6) rfl (l' := #[.val (.int p1), .val (.int p2), .val (.int p3), .val (.long q4), .second, .val (.long q5), .second, .val (.int (Int32.ofNat N)), .unset, .unset, .unset, .unset, .unset, .unset, .unset, .unset, .unset, .unset]) rfl ?_
    show Steps p.tables e below (s₁.setTop (mkF m 8 #[.val (.int p1), .val (.int p2), .val (.int p3), .val (.long q4), .second, .val (.long q5), .second, .val (.int (Int32.ofNat N)), .unset, .unset, .unset, .unset, .unset, .unset, .unset, .unset, .unset, .unset] [])) _
    refine XS.iloadN X0.here hx rfl (hb hby at_8) rfl ?_
    show Steps p.tables e below (s₁.setTop (mkF m 9 #[.val (.int p1), .val (.int p2), .val (.int p3), .val (.long q4), .second, .val (.long q5), .second, .val (.int (Int32.ofNat N)), .unset, .unset, .unset, .unset, .unset, .unset, .unset, .unset, .unset, .unset] [(.int p2)])) _
    refine X0.ldcInt hx hown (mvT hZ (hw _ (List.mem_of_getElem? (i := 0) rfl))) (g := (mkF m 9 #[.val (.int p1), .val (.int p2), .val (.int p3), .val (.long q4), .second, .val (.long q5), .second, .val (.int (Int32.ofNat N)), .unset, .unset, .unset, .unset, .unset, .unset, .unset, .unset, .unset, .unset] [(.int p2)])) rfl (hb hby at_9) _ ?_
    show Steps p.tables e below (s₁.setTop (mkF m 11 #[.val (.int p1), .val (.int p2), .val (.int p3), .val (.long q4), .second, .val (.long q5), .second, .val (.int (Int32.ofNat N)), .unset, .unset, .unset, .unset, .unset, .unset, .unset, .unset, .unset, .unset] [(.int (2147483647 : Int32)), (.int p2)])) _
    refine XS.iand X0.here hx rfl (hb hby at_11) rfl ?_
    show Steps p.tables e below (s₁.setTop (mkF m 12 #[.val (.int p1), .val (.int p2), .val (.int p3), .val (.long q4), .second, .val (.long q5), .second, .val (.int (Int32.ofNat N)), .unset, .unset, .unset, .unset, .unset, .unset, .unset, .unset, .unset, .unset] [(.int (p2 &&& (2147483647 : Int32)))])) _
    refine XS.iconst X0.here hx rfl (hb hby at_12) ?_
    show Steps p.tables e below (s₁.setTop (mkF m 13 #[.val (.int p1), .val (.int p2), .val (.int p3), .val (.long q4), .second, .val (.long q5), .second, .val (.int (Int32.ofNat N)), .unset, .unset, .unset, .unset, .unset, .unset, .unset, .unset, .unset, .unset] [(.int (5 : Int32)), (.int (p2 &&& (2147483647 : Int32)))])) _
    refine Jvm.RoadKit.iremM X0 hx rfl (hb hby at_13) rfl (by decide) ?_
    show Steps p.tables e below (s₁.setTop (mkF m 14 #[.val (.int p1), .val (.int p2), .val (.int p3), .val (.long q4), .second, .val (.long q5), .second, .val (.int (Int32.ofNat N)), .unset, .unset, .unset, .unset, .unset, .unset, .unset, .unset, .unset, .unset] [(.int ((p2 &&& (2147483647 : Int32)) % (5 : Int32)))])) _
    rw [hvK]
    show Steps p.tables e below (s₁.setTop (mkF m 14 #[.val (.int p1), .val (.int p2), .val (.int p3), .val (.long q4), .second, .val (.long q5), .second, .val (.int (Int32.ofNat N)), .unset, .unset, .unset, .unset, .unset, .unset, .unset, .unset, .unset, .unset] [(.int (Int32.ofNat K))])) _
    refine XS.istore X0.here hx rfl (hb hby at_14) rfl (l' := #[.val (.int p1), .val (.int p2), .val (.int p3), .val (.long q4), .second, .val (.long q5), .second, .val (.int (Int32.ofNat N)), .val (.int (Int32.ofNat K)), .unset, .unset, .unset, .unset, .unset, .unset, .unset, .unset, .unset]) rfl ?_
    show Steps p.tables e below (s₁.setTop (mkF m 16 #[.val (.int p1), .val (.int p2), .val (.int p3), .val (.long q4), .second, .val (.long q5), .second, .val (.int (Int32.ofNat N)), .val (.int (Int32.ofNat K)), .unset, .unset, .unset, .unset, .unset, .unset, .unset, .unset, .unset] [])) _
    refine XS.iloadN X0.here hx rfl (hb hby at_16) rfl ?_
    show Steps p.tables e below (s₁.setTop (mkF m 17 #[.val (.int p1), .val (.int p2), .val (.int p3), .val (.long q4), .second, .val (.long q5), .second, .val (.int (Int32.ofNat N)), .val (.int (Int32.ofNat K)), .unset, .unset, .unset, .unset, .unset, .unset, .unset, .unset, .unset] [(.int p3)])) _
    refine XS.sipush X0.here hx rfl (hb hby at_17) ?_
    show Steps p.tables e below (s₁.setTop (mkF m 20 #[.val (.int p1), .val (.int p2), .val (.int p3), .val (.long q4), .second, .val (.long q5), .second, .val (.int (Int32.ofNat N)), .val (.int (Int32.ofNat K)), .unset, .unset, .unset, .unset, .unset, .unset, .unset, .unset, .unset] [(.int (255 : Int32)), (.int p3)])) _
    refine XS.iand X0.here hx rfl (hb hby at_20) rfl ?_
    show Steps p.tables e below (s₁.setTop (mkF m 21 #[.val (.int p1), .val (.int p2), .val (.int p3), .val (.long q4), .second, .val (.long q5), .second, .val (.int (Int32.ofNat N)), .val (.int (Int32.ofNat K)), .unset, .unset, .unset, .unset, .unset, .unset, .unset, .unset, .unset] [(.int (p3 &&& (255 : Int32)))])) _
    refine XS.iload X0.here hx rfl (hb hby at_21) rfl ?_
    show Steps p.tables e below (s₁.setTop (mkF m 23 #[.val (.int p1), .val (.int p2), .val (.int p3), .val (.long q4), .second, .val (.long q5), .second, .val (.int (Int32.ofNat N)), .val (.int (Int32.ofNat K)), .unset, .unset, .unset, .unset, .unset, .unset, .unset, .unset, .unset] [(.int (Int32.ofNat N)), (.int (p3 &&& (255 : Int32)))])) _
    refine Jvm.RoadKit.iremM X0 hx rfl (hb hby at_23) rfl hnz23 ?_
    show Steps p.tables e below (s₁.setTop (mkF m 24 #[.val (.int p1), .val (.int p2), .val (.int p3), .val (.long q4), .second, .val (.long q5), .second, .val (.int (Int32.ofNat N)), .val (.int (Int32.ofNat K)), .unset, .unset, .unset, .unset, .unset, .unset, .unset, .unset, .unset] [(.int ((p3 &&& (255 : Int32)) % (Int32.ofNat N)))])) _
    rw [hvI]
    show Steps p.tables e below (s₁.setTop (mkF m 24 #[.val (.int p1), .val (.int p2), .val (.int p3), .val (.long q4), .second, .val (.long q5), .second, .val (.int (Int32.ofNat N)), .val (.int (Int32.ofNat K)), .unset, .unset, .unset, .unset, .unset, .unset, .unset, .unset, .unset] [(.int (Int32.ofNat I))])) _
    refine XS.istore X0.here hx rfl (hb hby at_24) rfl (l' := #[.val (.int p1), .val (.int p2), .val (.int p3), .val (.long q4), .second, .val (.long q5), .second, .val (.int (Int32.ofNat N)), .val (.int (Int32.ofNat K)), .val (.int (Int32.ofNat I)), .unset, .unset, .unset, .unset, .unset, .unset, .unset, .unset]) rfl ?_
    show Steps p.tables e below (s₁.setTop (mkF m 26 #[.val (.int p1), .val (.int p2), .val (.int p3), .val (.long q4), .second, .val (.long q5), .second, .val (.int (Int32.ofNat N)), .val (.int (Int32.ofNat K)), .val (.int (Int32.ofNat I)), .unset, .unset, .unset, .unset, .unset, .unset, .unset, .unset] [])) _
    refine XS.iloadN X0.here hx rfl (hb hby at_26) rfl ?_
    show Steps p.tables e below (s₁.setTop (mkF m 27 #[.val (.int p1), .val (.int p2), .val (.int p3), .val (.long q4), .second, .val (.long q5), .second, .val (.int (Int32.ofNat N)), .val (.int (Int32.ofNat K)), .val (.int (Int32.ofNat I)), .unset, .unset, .unset, .unset, .unset, .unset, .unset, .unset] [(.int p3)])) _
    refine XS.bipush X0.here hx rfl (hb hby at_27) ?_
    show Steps p.tables e below (s₁.setTop (mkF m 29 #[.val (.int p1), .val (.int p2), .val (.int p3), .val (.long q4), .second, .val (.long q5), .second, .val (.int (Int32.ofNat N)), .val (.int (Int32.ofNat K)), .val (.int (Int32.ofNat I)), .unset, .unset, .unset, .unset, .unset, .unset, .unset, .unset] [(.int (8 : Int32)), (.int p3)])) _
    refine XS.iushr X0.here hx rfl (hb hby at_29) rfl ?_
    show Steps p.tables e below (s₁.setTop (mkF m 30 #[.val (.int p1), .val (.int p2), .val (.int p3), .val (.long q4), .second, .val (.long q5), .second, .val (.int (Int32.ofNat N)), .val (.int (Int32.ofNat K)), .val (.int (Int32.ofNat I)), .unset, .unset, .unset, .unset, .unset, .unset, .unset, .unset] [(.int ((p3.toUInt32 >>> ((8 : Int32) &&& 31).toUInt32).toInt32))])) _
    refine XS.sipush X0.here hx rfl (hb hby at_30) ?_
    show Steps p.tables e below (s₁.setTop (mkF m 33 #[.val (.int p1), .val (.int p2), .val (.int p3), .val (.long q4), .second, .val (.long q5), .second, .val (.int (Int32.ofNat N)), .val (.int (Int32.ofNat K)), .val (.int (Int32.ofNat I)), .unset, .unset, .unset, .unset, .unset, .unset, .unset, .unset] [(.int (255 : Int32)), (.int ((p3.toUInt32 >>> ((8 : Int32) &&& 31).toUInt32).toInt32))])) _
    refine XS.iand X0.here hx rfl (hb hby at_33) rfl ?_
    show Steps p.tables e below (s₁.setTop (mkF m 34 #[.val (.int p1), .val (.int p2), .val (.int p3), .val (.long q4), .second, .val (.long q5), .second, .val (.int (Int32.ofNat N)), .val (.int (Int32.ofNat K)), .val (.int (Int32.ofNat I)), .unset, .unset, .unset, .unset, .unset, .unset, .unset, .unset] [(.int (((p3.toUInt32 >>> ((8 : Int32) &&& 31).toUInt32).toInt32) &&& (255 : Int32)))])) _
    refine XS.iload X0.here hx rfl (hb hby at_34) rfl ?_
    show Steps p.tables e below (s₁.setTop (mkF m 36 #[.val (.int p1), .val (.int p2), .val (.int p3), .val (.long q4), .second, .val (.long q5), .second, .val (.int (Int32.ofNat N)), .val (.int (Int32.ofNat K)), .val (.int (Int32.ofNat I)), .unset, .unset, .unset, .unset, .unset, .unset, .unset, .unset] [(.int (Int32.ofNat N)), (.int (((p3.toUInt32 >>> ((8 : Int32) &&& 31).toUInt32).toInt32) &&& (255 : Int32)))])) _
    refine Jvm.RoadKit.iremM X0 hx rfl (hb hby at_36) rfl hnz36 ?_
    show Steps p.tables e below (s₁.setTop (mkF m 37 #[.val (.int p1), .val (.int p2), .val (.int p3), .val (.long q4), .second, .val (.long q5), .second, .val (.int (Int32.ofNat N)), .val (.int (Int32.ofNat K)), .val (.int (Int32.ofNat I)), .unset, .unset, .unset, .unset, .unset, .unset, .unset, .unset] [(.int ((((p3.toUInt32 >>> ((8 : Int32) &&& 31).toUInt32).toInt32) &&& (255 : Int32)) % (Int32.ofNat N)))])) _
    rw [hvJ]
    show Steps p.tables e below (s₁.setTop (mkF m 37 #[.val (.int p1), .val (.int p2), .val (.int p3), .val (.long q4), .second, .val (.long q5), .second, .val (.int (Int32.ofNat N)), .val (.int (Int32.ofNat K)), .val (.int (Int32.ofNat I)), .unset, .unset, .unset, .unset, .unset, .unset, .unset, .unset] [(.int (Int32.ofNat J))])) _
    refine XS.istore X0.here hx rfl (hb hby at_37) rfl (l' := #[.val (.int p1), .val (.int p2), .val (.int p3), .val (.long q4), .second, .val (.long q5), .second, .val (.int (Int32.ofNat N)), .val (.int (Int32.ofNat K)), .val (.int (Int32.ofNat I)), .val (.int (Int32.ofNat J)), .unset, .unset, .unset, .unset, .unset, .unset, .unset]) rfl ?_
    show Steps p.tables e below (s₁.setTop (mkF m 39 #[.val (.int p1), .val (.int p2), .val (.int p3), .val (.long q4), .second, .val (.long q5), .second, .val (.int (Int32.ofNat N)), .val (.int (Int32.ofNat K)), .val (.int (Int32.ofNat I)), .val (.int (Int32.ofNat J)), .unset, .unset, .unset, .unset, .unset, .unset, .unset] [])) _
    refine XS.iloadN X0.here hx rfl (hb hby at_39) rfl ?_
    show Steps p.tables e below (s₁.setTop (mkF m 40 #[.val (.int p1), .val (.int p2), .val (.int p3), .val (.long q4), .second, .val (.long q5), .second, .val (.int (Int32.ofNat N)), .val (.int (Int32.ofNat K)), .val (.int (Int32.ofNat I)), .val (.int (Int32.ofNat J)), .unset, .unset, .unset, .unset, .unset, .unset, .unset] [(.int p3)])) _
    refine XS.bipush X0.here hx rfl (hb hby at_40) ?_
    show Steps p.tables e below (s₁.setTop (mkF m 42 #[.val (.int p1), .val (.int p2), .val (.int p3), .val (.long q4), .second, .val (.long q5), .second, .val (.int (Int32.ofNat N)), .val (.int (Int32.ofNat K)), .val (.int (Int32.ofNat I)), .val (.int (Int32.ofNat J)), .unset, .unset, .unset, .unset, .unset, .unset, .unset] [(.int (16 : Int32)), (.int p3)])) _
    refine XS.iushr X0.here hx rfl (hb hby at_42) rfl ?_
    show Steps p.tables e below (s₁.setTop (mkF m 43 #[.val (.int p1), .val (.int p2), .val (.int p3), .val (.long q4), .second, .val (.long q5), .second, .val (.int (Int32.ofNat N)), .val (.int (Int32.ofNat K)), .val (.int (Int32.ofNat I)), .val (.int (Int32.ofNat J)), .unset, .unset, .unset, .unset, .unset, .unset, .unset] [(.int ((p3.toUInt32 >>> ((16 : Int32) &&& 31).toUInt32).toInt32))])) _
    refine XS.sipush X0.here hx rfl (hb hby at_43) ?_
    show Steps p.tables e below (s₁.setTop (mkF m 46 #[.val (.int p1), .val (.int p2), .val (.int p3), .val (.long q4), .second, .val (.long q5), .second, .val (.int (Int32.ofNat N)), .val (.int (Int32.ofNat K)), .val (.int (Int32.ofNat I)), .val (.int (Int32.ofNat J)), .unset, .unset, .unset, .unset, .unset, .unset, .unset] [(.int (255 : Int32)), (.int ((p3.toUInt32 >>> ((16 : Int32) &&& 31).toUInt32).toInt32))])) _
    refine XS.iand X0.here hx rfl (hb hby at_46) rfl ?_
    show Steps p.tables e below (s₁.setTop (mkF m 47 #[.val (.int p1), .val (.int p2), .val (.int p3), .val (.long q4), .second, .val (.long q5), .second, .val (.int (Int32.ofNat N)), .val (.int (Int32.ofNat K)), .val (.int (Int32.ofNat I)), .val (.int (Int32.ofNat J)), .unset, .unset, .unset, .unset, .unset, .unset, .unset] [(.int (((p3.toUInt32 >>> ((16 : Int32) &&& 31).toUInt32).toInt32) &&& (255 : Int32)))])) _
    refine XS.iload X0.here hx rfl (hb hby at_47) rfl ?_
    show Steps p.tables e below (s₁.setTop (mkF m 49 #[.val (.int p1), .val (.int p2), .val (.int p3), .val (.long q4), .second, .val (.long q5), .second, .val (.int (Int32.ofNat N)), .val (.int (Int32.ofNat K)), .val (.int (Int32.ofNat I)), .val (.int (Int32.ofNat J)), .unset, .unset, .unset, .unset, .unset, .unset, .unset] [(.int (Int32.ofNat N)), (.int (((p3.toUInt32 >>> ((16 : Int32) &&& 31).toUInt32).toInt32) &&& (255 : Int32)))])) _
    refine Jvm.RoadKit.iremM X0 hx rfl (hb hby at_49) rfl hnz49 ?_
    show Steps p.tables e below (s₁.setTop (mkF m 50 #[.val (.int p1), .val (.int p2), .val (.int p3), .val (.long q4), .second, .val (.long q5), .second, .val (.int (Int32.ofNat N)), .val (.int (Int32.ofNat K)), .val (.int (Int32.ofNat I)), .val (.int (Int32.ofNat J)), .unset, .unset, .unset, .unset, .unset, .unset, .unset] [(.int ((((p3.toUInt32 >>> ((16 : Int32) &&& 31).toUInt32).toInt32) &&& (255 : Int32)) % (Int32.ofNat N)))])) _
    rw [hvQ]
    show Steps p.tables e below (s₁.setTop (mkF m 50 #[.val (.int p1), .val (.int p2), .val (.int p3), .val (.long q4), .second, .val (.long q5), .second, .val (.int (Int32.ofNat N)), .val (.int (Int32.ofNat K)), .val (.int (Int32.ofNat I)), .val (.int (Int32.ofNat J)), .unset, .unset, .unset, .unset, .unset, .unset, .unset] [(.int (Int32.ofNat Q))])) _
    refine XS.istore X0.here hx rfl (hb hby at_50) rfl (l' := #[.val (.int p1), .val (.int p2), .val (.int p3), .val (.long q4), .second, .val (.long q5), .second, .val (.int (Int32.ofNat N)), .val (.int (Int32.ofNat K)), .val (.int (Int32.ofNat I)), .val (.int (Int32.ofNat J)), .val (.int (Int32.ofNat Q)), .unset, .unset, .unset, .unset, .unset, .unset]) rfl ?_
    show Steps p.tables e below (s₁.setTop (mkF m 52 #[.val (.int p1), .val (.int p2), .val (.int p3), .val (.long q4), .second, .val (.long q5), .second, .val (.int (Int32.ofNat N)), .val (.int (Int32.ofNat K)), .val (.int (Int32.ofNat I)), .val (.int (Int32.ofNat J)), .val (.int (Int32.ofNat Q)), .unset, .unset, .unset, .unset, .unset, .unset] [])) _
    refine st6 _ ?_
    show Steps p.tables e below (T6.setTop (mkF m 55 #[.val (.int p1), .val (.int p2), .val (.int p3), .val (.long q4), .second, .val (.long q5), .second, .val (.int (Int32.ofNat N)), .val (.int (Int32.ofNat K)), .val (.int (Int32.ofNat I)), .val (.int (Int32.ofNat J)), .val (.int (Int32.ofNat Q)), .unset, .unset, .unset, .unset, .unset, .unset] [(.ref b6)])) _
    refine XS.dup X6.here hx rfl (hb hby at_55) rfl rfl ?_
    show Steps p.tables e below (T6.setTop (mkF m 56 #[.val (.int p1), .val (.int p2), .val (.int p3), .val (.long q4), .second, .val (.long q5), .second, .val (.int (Int32.ofNat N)), .val (.int (Int32.ofNat K)), .val (.int (Int32.ofNat I)), .val (.int (Int32.ofNat J)), .val (.int (Int32.ofNat Q)), .unset, .unset, .unset, .unset, .unset, .unset] [(.ref b6), (.ref b6)])) _
    refine XS.iload X6.here hx rfl (hb hby at_56) rfl ?_
    show Steps p.tables e below (T6.setTop (mkF m 58 #[.val (.int p1), .val (.int p2), .val (.int p3), .val (.long q4), .second, .val (.long q5), .second, .val (.int (Int32.ofNat N)), .val (.int (Int32.ofNat K)), .val (.int (Int32.ofNat I)), .val (.int (Int32.ofNat J)), .val (.int (Int32.ofNat Q)), .unset, .unset, .unset, .unset, .unset, .unset] [(.int (Int32.ofNat N)), (.ref b6), (.ref b6)])) _
    refine XS.i2l X6.here hx rfl (hb hby at_58) rfl ?_
    show Steps p.tables e below (T6.setTop (mkF m 59 #[.val (.int p1), .val (.int p2), .val (.int p3), .val (.long q4), .second, .val (.long q5), .second, .val (.int (Int32.ofNat N)), .val (.int (Int32.ofNat K)), .val (.int (Int32.ofNat I)), .val (.int (Int32.ofNat J)), .val (.int (Int32.ofNat Q)), .unset, .unset, .unset, .unset, .unset, .unset] [(.long ((Int32.ofNat N).toInt64)), (.ref b6), (.ref b6)])) _
    refine XS.iload X6.here hx rfl (hb hby at_59) rfl ?_
    show Steps p.tables e below (T6.setTop (mkF m 61 #[.val (.int p1), .val (.int p2), .val (.int p3), .val (.long q4), .second, .val (.long q5), .second, .val (.int (Int32.ofNat N)), .val (.int (Int32.ofNat K)), .val (.int (Int32.ofNat I)), .val (.int (Int32.ofNat J)), .val (.int (Int32.ofNat Q)), .unset, .unset, .unset, .unset, .unset, .unset] [(.int (Int32.ofNat K)), (.long ((Int32.ofNat N).toInt64)), (.ref b6), (.ref b6)])) _
    refine st7.trans ?_
    show Steps p.tables e below (T7.setTop (mkF m 64 #[.val (.int p1), .val (.int p2), .val (.int p3), .val (.long q4), .second, .val (.long q5), .second, .val (.int (Int32.ofNat N)), .val (.int (Int32.ofNat K)), .val (.int (Int32.ofNat I)), .val (.int (Int32.ofNat J)), .val (.int (Int32.ofNat Q)), .unset, .unset, .unset, .unset, .unset, .unset] [(.ref b6)])) _
    refine XS.astore X7.here hx rfl (hb hby at_64) rfl rfl (l' := #[.val (.int p1), .val (.int p2), .val (.int p3), .val (.long q4), .second, .val (.long q5), .second, .val (.int (Int32.ofNat N)), .val (.int (Int32.ofNat K)), .val (.int (Int32.ofNat I)), .val (.int (Int32.ofNat J)), .val (.int (Int32.ofNat Q)), .val (.ref b6), .unset, .unset, .unset, .unset, .unset]) rfl ?_
    show Steps p.tables e below (T7.setTop (mkF m 66 #[.val (.int p1), .val (.int p2), .val (.int p3), .val (.long q4), .second, .val (.long q5), .second, .val (.int (Int32.ofNat N)), .val (.int (Int32.ofNat K)), .val (.int (Int32.ofNat I)), .val (.int (Int32.ofNat J)), .val (.int (Int32.ofNat Q)), .val (.ref b6), .unset, .unset, .unset, .unset, .unset] [])) _
    refine XS.aload X7.here hx rfl (hb hby at_66) rfl rfl ?_
    show Steps p.tables e below (T7.setTop (mkF m 68 #[.val (.int p1), .val (.int p2), .val (.int p3), .val (.long q4), .second, .val (.long q5), .second, .val (.int (Int32.ofNat N)), .val (.int (Int32.ofNat K)), .val (.int (Int32.ofNat I)), .val (.int (Int32.ofNat J)), .val (.int (Int32.ofNat Q)), .val (.ref b6), .unset, .unset, .unset, .unset, .unset] [(.ref b6)])) _
    refine XS.iload X7.here hx rfl (hb hby at_68) rfl ?_
    show Steps p.tables e below (T7.setTop (mkF m 70 #[.val (.int p1), .val (.int p2), .val (.int p3), .val (.long q4), .second, .val (.long q5), .second, .val (.int (Int32.ofNat N)), .val (.int (Int32.ofNat K)), .val (.int (Int32.ofNat I)), .val (.int (Int32.ofNat J)), .val (.int (Int32.ofNat Q)), .val (.ref b6), .unset, .unset, .unset, .unset, .unset] [(.int (Int32.ofNat Q)), (.ref b6)])) _
    refine XS.i2l X7.here hx rfl (hb hby at_70) rfl ?_
    show Steps p.tables e below (T7.setTop (mkF m 71 #[.val (.int p1), .val (.int p2), .val (.int p3), .val (.long q4), .second, .val (.long q5), .second, .val (.int (Int32.ofNat N)), .val (.int (Int32.ofNat K)), .val (.int (Int32.ofNat I)), .val (.int (Int32.ofNat J)), .val (.int (Int32.ofNat Q)), .val (.ref b6), .unset, .unset, .unset, .unset, .unset] [(.long ((Int32.ofNat Q).toInt64)), (.ref b6)])) _
    refine st8.trans ?_
    show Steps p.tables e below (T8.setTop (mkF m 74 #[.val (.int p1), .val (.int p2), .val (.int p3), .val (.long q4), .second, .val (.long q5), .second, .val (.int (Int32.ofNat N)), .val (.int (Int32.ofNat K)), .val (.int (Int32.ofNat I)), .val (.int (Int32.ofNat J)), .val (.int (Int32.ofNat Q)), .val (.ref b6), .unset, .unset, .unset, .unset, .unset] [(.long ((fun _ => (0 : Int64)) Q))])) _
    refine XS.lconst X8.here hx rfl (hb hby at_74) ?_
    show Steps p.tables e below (T8.setTop (mkF m 75 #[.val (.int p1), .val (.int p2), .val (.int p3), .val (.long q4), .second, .val (.long q5), .second, .val (.int (Int32.ofNat N)), .val (.int (Int32.ofNat K)), .val (.int (Int32.ofNat I)), .val (.int (Int32.ofNat J)), .val (.int (Int32.ofNat Q)), .val (.ref b6), .unset, .unset, .unset, .unset, .unset] [(.long (0 : Int64)), (.long ((fun _ => (0 : Int64)) Q))])) _
    refine XS.lcmp X8.here hx rfl (hb hby at_75) rfl ?_
    show Steps p.tables e below (T8.setTop (mkF m 76 #[.val (.int p1), .val (.int p2), .val (.int p3), .val (.long q4), .second, .val (.long q5), .second, .val (.int (Int32.ofNat N)), .val (.int (Int32.ofNat K)), .val (.int (Int32.ofNat I)), .val (.int (Int32.ofNat J)), .val (.int (Int32.ofNat Q)), .val (.ref b6), .unset, .unset, .unset, .unset, .unset] [(.int (lcmpW ((fun _ => (0 : Int64)) Q) (0 : Int64)))])) _
    refine XS.ifNo X8.here hx rfl (hb hby at_76) rfl ((if0 _ _).trans (teq (own_lc rfl : (lcmpW ((fun _ => (0 : Int64)) Q) (0 : Int64)) = (0 : Int32))).2) ?_
    show Steps p.tables e below (T8.setTop (mkF m 79 #[.val (.int p1), .val (.int p2), .val (.int p3), .val (.long q4), .second, .val (.long q5), .second, .val (.int (Int32.ofNat N)), .val (.int (Int32.ofNat K)), .val (.int (Int32.ofNat I)), .val (.int (Int32.ofNat J)), .val (.int (Int32.ofNat Q)), .val (.ref b6), .unset, .unset, .unset, .unset, .unset] [])) _
    refine XS.iconst X8.here hx rfl (hb hby at_79) ?_
    show Steps p.tables e below (T8.setTop (mkF m 80 #[.val (.int p1), .val (.int p2), .val (.int p3), .val (.long q4), .second, .val (.long q5), .second, .val (.int (Int32.ofNat N)), .val (.int (Int32.ofNat K)), .val (.int (Int32.ofNat I)), .val (.int (Int32.ofNat J)), .val (.int (Int32.ofNat Q)), .val (.ref b6), .unset, .unset, .unset, .unset, .unset] [(.int (1 : Int32))])) _
    refine XS.goto X8.here hx rfl (pc0 := 80) (pc' := 84) rfl (hb hby at_80) (by decide) (by decide) ?_
    show Steps p.tables e below (T8.setTop (mkF m 84 #[.val (.int p1), .val (.int p2), .val (.int p3), .val (.long q4), .second, .val (.long q5), .second, .val (.int (Int32.ofNat N)), .val (.int (Int32.ofNat K)), .val (.int (Int32.ofNat I)), .val (.int (Int32.ofNat J)), .val (.int (Int32.ofNat Q)), .val (.ref b6), .unset, .unset, .unset, .unset, .unset] [(.int (1 : Int32))])) _
    refine XS.istore X8.here hx rfl (hb hby at_84) rfl (l' := #[.val (.int p1), .val (.int p2), .val (.int p3), .val (.long q4), .second, .val (.long q5), .second, .val (.int (Int32.ofNat N)), .val (.int (Int32.ofNat K)), .val (.int (Int32.ofNat I)), .val (.int (Int32.ofNat J)), .val (.int (Int32.ofNat Q)), .val (.ref b6), .val (.int (1 : Int32)), .unset, .unset, .unset, .unset]) rfl ?_
    show Steps p.tables e below (T8.setTop (mkF m 86 #[.val (.int p1), .val (.int p2), .val (.int p3), .val (.long q4), .second, .val (.long q5), .second, .val (.int (Int32.ofNat N)), .val (.int (Int32.ofNat K)), .val (.int (Int32.ofNat I)), .val (.int (Int32.ofNat J)), .val (.int (Int32.ofNat Q)), .val (.ref b6), .val (.int (1 : Int32)), .unset, .unset, .unset, .unset] [])) _
    refine XS.aload X8.here hx rfl (hb hby at_86) rfl rfl ?_
    show Steps p.tables e below (T8.setTop (mkF m 88 #[.val (.int p1), .val (.int p2), .val (.int p3), .val (.long q4), .second, .val (.long q5), .second, .val (.int (Int32.ofNat N)), .val (.int (Int32.ofNat K)), .val (.int (Int32.ofNat I)), .val (.int (Int32.ofNat J)), .val (.int (Int32.ofNat Q)), .val (.ref b6), .val (.int (1 : Int32)), .unset, .unset, .unset, .unset] [(.ref b6)])) _
    refine XS.iload X8.here hx rfl (hb hby at_88) rfl ?_
    show Steps p.tables e below (T8.setTop (mkF m 90 #[.val (.int p1), .val (.int p2), .val (.int p3), .val (.long q4), .second, .val (.long q5), .second, .val (.int (Int32.ofNat N)), .val (.int (Int32.ofNat K)), .val (.int (Int32.ofNat I)), .val (.int (Int32.ofNat J)), .val (.int (Int32.ofNat Q)), .val (.ref b6), .val (.int (1 : Int32)), .unset, .unset, .unset, .unset] [(.int (Int32.ofNat I)), (.ref b6)])) _
    refine XS.i2l X8.here hx rfl (hb hby at_90) rfl ?_
    show Steps p.tables e below (T8.setTop (mkF m 91 #[.val (.int p1), .val (.int p2), .val (.int p3), .val (.long q4), .second, .val (.long q5), .second, .val (.int (Int32.ofNat N)), .val (.int (Int32.ofNat K)), .val (.int (Int32.ofNat I)), .val (.int (Int32.ofNat J)), .val (.int (Int32.ofNat Q)), .val (.ref b6), .val (.int (1 : Int32)), .unset, .unset, .unset, .unset] [(.long ((Int32.ofNat I).toInt64)), (.ref b6)])) _
    refine XS.lloadN X8.here hx rfl (hb hby at_91) rfl ?_
    show Steps p.tables e below (T8.setTop (mkF m 92 #[.val (.int p1), .val (.int p2), .val (.int p3), .val (.long q4), .second, .val (.long q5), .second, .val (.int (Int32.ofNat N)), .val (.int (Int32.ofNat K)), .val (.int (Int32.ofNat I)), .val (.int (Int32.ofNat J)), .val (.int (Int32.ofNat Q)), .val (.ref b6), .val (.int (1 : Int32)), .unset, .unset, .unset, .unset] [(.long q4), (.long ((Int32.ofNat I).toInt64)), (.ref b6)])) _
    refine st9.trans ?_
    show Steps p.tables e below (T9.setTop (mkF m 95 #[.val (.int p1), .val (.int p2), .val (.int p3), .val (.long q4), .second, .val (.long q5), .second, .val (.int (Int32.ofNat N)), .val (.int (Int32.ofNat K)), .val (.int (Int32.ofNat I)), .val (.int (Int32.ofNat J)), .val (.int (Int32.ofNat Q)), .val (.ref b6), .val (.int (1 : Int32)), .unset, .unset, .unset, .unset] [])) _
    refine XS.aload X9.here hx rfl (hb hby at_95) rfl rfl ?_
    show Steps p.tables e below (T9.setTop (mkF m 97 #[.val (.int p1), .val (.int p2), .val (.int p3), .val (.long q4), .second, .val (.long q5), .second, .val (.int (Int32.ofNat N)), .val (.int (Int32.ofNat K)), .val (.int (Int32.ofNat I)), .val (.int (Int32.ofNat J)), .val (.int (Int32.ofNat Q)), .val (.ref b6), .val (.int (1 : Int32)), .unset, .unset, .unset, .unset] [(.ref b6)])) _
    refine XS.iload X9.here hx rfl (hb hby at_97) rfl ?_
    show Steps p.tables e below (T9.setTop (mkF m 99 #[.val (.int p1), .val (.int p2), .val (.int p3), .val (.long q4), .second, .val (.long q5), .second, .val (.int (Int32.ofNat N)), .val (.int (Int32.ofNat K)), .val (.int (Int32.ofNat I)), .val (.int (Int32.ofNat J)), .val (.int (Int32.ofNat Q)), .val (.ref b6), .val (.int (1 : Int32)), .unset, .unset, .unset, .unset] [(.int (Int32.ofNat J)), (.ref b6)])) _
    refine XS.i2l X9.here hx rfl (hb hby at_99) rfl ?_
    show Steps p.tables e below (T9.setTop (mkF m 100 #[.val (.int p1), .val (.int p2), .val (.int p3), .val (.long q4), .second, .val (.long q5), .second, .val (.int (Int32.ofNat N)), .val (.int (Int32.ofNat K)), .val (.int (Int32.ofNat I)), .val (.int (Int32.ofNat J)), .val (.int (Int32.ofNat Q)), .val (.ref b6), .val (.int (1 : Int32)), .unset, .unset, .unset, .unset] [(.long ((Int32.ofNat J).toInt64)), (.ref b6)])) _
    refine XS.lload X9.here hx rfl (hb hby at_100) rfl ?_
    show Steps p.tables e below (T9.setTop (mkF m 102 #[.val (.int p1), .val (.int p2), .val (.int p3), .val (.long q4), .second, .val (.long q5), .second, .val (.int (Int32.ofNat N)), .val (.int (Int32.ofNat K)), .val (.int (Int32.ofNat I)), .val (.int (Int32.ofNat J)), .val (.int (Int32.ofNat Q)), .val (.ref b6), .val (.int (1 : Int32)), .unset, .unset, .unset, .unset] [(.long q5), (.long ((Int32.ofNat J).toInt64)), (.ref b6)])) _
    refine st10.trans ?_
    show Steps p.tables e below (T10.setTop (mkF m 105 #[.val (.int p1), .val (.int p2), .val (.int p3), .val (.long q4), .second, .val (.long q5), .second, .val (.int (Int32.ofNat N)), .val (.int (Int32.ofNat K)), .val (.int (Int32.ofNat I)), .val (.int (Int32.ofNat J)), .val (.int (Int32.ofNat Q)), .val (.ref b6), .val (.int (1 : Int32)), .unset, .unset, .unset, .unset] [])) _
    refine XS.iload X10.here hx rfl (hb hby at_105) rfl ?_
    show Steps p.tables e below (T10.setTop (mkF m 107 #[.val (.int p1), .val (.int p2), .val (.int p3), .val (.long q4), .second, .val (.long q5), .second, .val (.int (Int32.ofNat N)), .val (.int (Int32.ofNat K)), .val (.int (Int32.ofNat I)), .val (.int (Int32.ofNat J)), .val (.int (Int32.ofNat Q)), .val (.ref b6), .val (.int (1 : Int32)), .unset, .unset, .unset, .unset] [(.int (Int32.ofNat I))])) _
    refine XS.iload X10.here hx rfl (hb hby at_107) rfl ?_
    show Steps p.tables e below (T10.setTop (mkF m 109 #[.val (.int p1), .val (.int p2), .val (.int p3), .val (.long q4), .second, .val (.long q5), .second, .val (.int (Int32.ofNat N)), .val (.int (Int32.ofNat K)), .val (.int (Int32.ofNat I)), .val (.int (Int32.ofNat J)), .val (.int (Int32.ofNat Q)), .val (.ref b6), .val (.int (1 : Int32)), .unset, .unset, .unset, .unset] [(.int (Int32.ofNat J)), (.int (Int32.ofNat I))])) _
    refine XS.icmpNo X10.here hx rfl (hb hby at_109) rfl (teq hc109).2 ?_
    show Steps p.tables e below (T10.setTop (mkF m 112 #[.val (.int p1), .val (.int p2), .val (.int p3), .val (.long q4), .second, .val (.long q5), .second, .val (.int (Int32.ofNat N)), .val (.int (Int32.ofNat K)), .val (.int (Int32.ofNat I)), .val (.int (Int32.ofNat J)), .val (.int (Int32.ofNat Q)), .val (.ref b6), .val (.int (1 : Int32)), .unset, .unset, .unset, .unset] [])) _
    refine XS.lload X10.here hx rfl (hb hby at_112) rfl ?_
    show Steps p.tables e below (T10.setTop (mkF m 114 #[.val (.int p1), .val (.int p2), .val (.int p3), .val (.long q4), .second, .val (.long q5), .second, .val (.int (Int32.ofNat N)), .val (.int (Int32.ofNat K)), .val (.int (Int32.ofNat I)), .val (.int (Int32.ofNat J)), .val (.int (Int32.ofNat Q)), .val (.ref b6), .val (.int (1 : Int32)), .unset, .unset, .unset, .unset] [(.long q5)])) _
    refine XS.goto X10.here hx rfl (pc0 := 114) (pc' := 118) rfl (hb hby at_114) (by decide) (by decide) ?_
    show Steps p.tables e below (T10.setTop (mkF m 118 #[.val (.int p1), .val (.int p2), .val (.int p3), .val (.long q4), .second, .val (.long q5), .second, .val (.int (Int32.ofNat N)), .val (.int (Int32.ofNat K)), .val (.int (Int32.ofNat I)), .val (.int (Int32.ofNat J)), .val (.int (Int32.ofNat Q)), .val (.ref b6), .val (.int (1 : Int32)), .unset, .unset, .unset, .unset] [(.long q5)])) _
    refine XS.lstore X10.here hx rfl (hb hby at_118) rfl (l' := #[.val (.int p1), .val (.int p2), .val (.int p3), .val (.long q4), .second, .val (.long q5), .second, .val (.int (Int32.ofNat N)), .val (.int (Int32.ofNat K)), .val (.int (Int32.ofNat I)), .val (.int (Int32.ofNat J)), .val (.int (Int32.ofNat Q)), .val (.ref b6), .val (.int (1 : Int32)), .val (.long q5), .second, .unset, .unset]) rfl ?_
    show Steps p.tables e below (T10.setTop (mkF m 120 #[.val (.int p1), .val (.int p2), .val (.int p3), .val (.long q4), .second, .val (.long q5), .second, .val (.int (Int32.ofNat N)), .val (.int (Int32.ofNat K)), .val (.int (Int32.ofNat I)), .val (.int (Int32.ofNat J)), .val (.int (Int32.ofNat Q)), .val (.ref b6), .val (.int (1 : Int32)), .val (.long q5), .second, .unset, .unset] [])) _
    refine XS.iload X10.here hx rfl (hb hby at_120) rfl ?_
    show Steps p.tables e below (T10.setTop (mkF m 122 #[.val (.int p1), .val (.int p2), .val (.int p3), .val (.long q4), .second, .val (.long q5), .second, .val (.int (Int32.ofNat N)), .val (.int (Int32.ofNat K)), .val (.int (Int32.ofNat I)), .val (.int (Int32.ofNat J)), .val (.int (Int32.ofNat Q)), .val (.ref b6), .val (.int (1 : Int32)), .val (.long q5), .second, .unset, .unset] [(.int (Int32.ofNat Q))])) _
    refine XS.iload X10.here hx rfl (hb hby at_122) rfl ?_
    show Steps p.tables e below (T10.setTop (mkF m 124 #[.val (.int p1), .val (.int p2), .val (.int p3), .val (.long q4), .second, .val (.long q5), .second, .val (.int (Int32.ofNat N)), .val (.int (Int32.ofNat K)), .val (.int (Int32.ofNat I)), .val (.int (Int32.ofNat J)), .val (.int (Int32.ofNat Q)), .val (.ref b6), .val (.int (1 : Int32)), .val (.long q5), .second, .unset, .unset] [(.int (Int32.ofNat J)), (.int (Int32.ofNat Q))])) _
    refine XS.icmpNo X10.here hx rfl (hb hby at_124) rfl (teq hc124).2 ?_
    show Steps p.tables e below (T10.setTop (mkF m 127 #[.val (.int p1), .val (.int p2), .val (.int p3), .val (.long q4), .second, .val (.long q5), .second, .val (.int (Int32.ofNat N)), .val (.int (Int32.ofNat K)), .val (.int (Int32.ofNat I)), .val (.int (Int32.ofNat J)), .val (.int (Int32.ofNat Q)), .val (.ref b6), .val (.int (1 : Int32)), .val (.long q5), .second, .unset, .unset] [])) _
    refine XS.lload X10.here hx rfl (hb hby at_127) rfl ?_
    show Steps p.tables e below (T10.setTop (mkF m 129 #[.val (.int p1), .val (.int p2), .val (.int p3), .val (.long q4), .second, .val (.long q5), .second, .val (.int (Int32.ofNat N)), .val (.int (Int32.ofNat K)), .val (.int (Int32.ofNat I)), .val (.int (Int32.ofNat J)), .val (.int (Int32.ofNat Q)), .val (.ref b6), .val (.int (1 : Int32)), .val (.long q5), .second, .unset, .unset] [(.long q5)])) _
    refine XS.goto X10.here hx rfl (pc0 := 129) (pc' := 144) rfl (hb hby at_129) (by decide) (by decide) ?_
    show Steps p.tables e below (T10.setTop (mkF m 144 #[.val (.int p1), .val (.int p2), .val (.int p3), .val (.long q4), .second, .val (.long q5), .second, .val (.int (Int32.ofNat N)), .val (.int (Int32.ofNat K)), .val (.int (Int32.ofNat I)), .val (.int (Int32.ofNat J)), .val (.int (Int32.ofNat Q)), .val (.ref b6), .val (.int (1 : Int32)), .val (.long q5), .second, .unset, .unset] [(.long q5)])) _
    refine XS.lstore X10.here hx rfl (hb hby at_144) rfl (l' := #[.val (.int p1), .val (.int p2), .val (.int p3), .val (.long q4), .second, .val (.long q5), .second, .val (.int (Int32.ofNat N)), .val (.int (Int32.ofNat K)), .val (.int (Int32.ofNat I)), .val (.int (Int32.ofNat J)), .val (.int (Int32.ofNat Q)), .val (.ref b6), .val (.int (1 : Int32)), .val (.long q5), .second, .val (.long q5), .second]) rfl ?_
    show Steps p.tables e below (T10.setTop (mkF m 146 #[.val (.int p1), .val (.int p2), .val (.int p3), .val (.long q4), .second, .val (.long q5), .second, .val (.int (Int32.ofNat N)), .val (.int (Int32.ofNat K)), .val (.int (Int32.ofNat I)), .val (.int (Int32.ofNat J)), .val (.int (Int32.ofNat Q)), .val (.ref b6), .val (.int (1 : Int32)), .val (.long q5), .second, .val (.long q5), .second] [])) _
    refine XS.iload X10.here hx rfl (hb hby at_146) rfl ?_
    show Steps p.tables e below (T10.setTop (mkF m 148 #[.val (.int p1), .val (.int p2), .val (.int p3), .val (.long q4), .second, .val (.long q5), .second, .val (.int (Int32.ofNat N)), .val (.int (Int32.ofNat K)), .val (.int (Int32.ofNat I)), .val (.int (Int32.ofNat J)), .val (.int (Int32.ofNat Q)), .val (.ref b6), .val (.int (1 : Int32)), .val (.long q5), .second, .val (.long q5), .second] [(.int (1 : Int32))])) _
    refine XS.ifNo X10.here hx rfl (hb hby at_148) rfl ((if0 _ _).trans (feq hc148).1) ?_
    show Steps p.tables e below (T10.setTop (mkF m 151 #[.val (.int p1), .val (.int p2), .val (.int p3), .val (.long q4), .second, .val (.long q5), .second, .val (.int (Int32.ofNat N)), .val (.int (Int32.ofNat K)), .val (.int (Int32.ofNat I)), .val (.int (Int32.ofNat J)), .val (.int (Int32.ofNat Q)), .val (.ref b6), .val (.int (1 : Int32)), .val (.long q5), .second, .val (.long q5), .second] [])) _
    refine XS.aload X10.here hx rfl (hb hby at_151) rfl rfl ?_
    show Steps p.tables e below (T10.setTop (mkF m 153 #[.val (.int p1), .val (.int p2), .val (.int p3), .val (.long q4), .second, .val (.long q5), .second, .val (.int (Int32.ofNat N)), .val (.int (Int32.ofNat K)), .val (.int (Int32.ofNat I)), .val (.int (Int32.ofNat J)), .val (.int (Int32.ofNat Q)), .val (.ref b6), .val (.int (1 : Int32)), .val (.long q5), .second, .val (.long q5), .second] [(.ref b6)])) _
    refine XS.iload X10.here hx rfl (hb hby at_153) rfl ?_
    show Steps p.tables e below (T10.setTop (mkF m 155 #[.val (.int p1), .val (.int p2), .val (.int p3), .val (.long q4), .second, .val (.long q5), .second, .val (.int (Int32.ofNat N)), .val (.int (Int32.ofNat K)), .val (.int (Int32.ofNat I)), .val (.int (Int32.ofNat J)), .val (.int (Int32.ofNat Q)), .val (.ref b6), .val (.int (1 : Int32)), .val (.long q5), .second, .val (.long q5), .second] [(.int (Int32.ofNat I)), (.ref b6)])) _
    refine XS.i2l X10.here hx rfl (hb hby at_155) rfl ?_
    show Steps p.tables e below (T10.setTop (mkF m 156 #[.val (.int p1), .val (.int p2), .val (.int p3), .val (.long q4), .second, .val (.long q5), .second, .val (.int (Int32.ofNat N)), .val (.int (Int32.ofNat K)), .val (.int (Int32.ofNat I)), .val (.int (Int32.ofNat J)), .val (.int (Int32.ofNat Q)), .val (.ref b6), .val (.int (1 : Int32)), .val (.long q5), .second, .val (.long q5), .second] [(.long ((Int32.ofNat I).toInt64)), (.ref b6)])) _
    refine st11.trans ?_
    show Steps p.tables e below (T11.setTop (mkF m 159 #[.val (.int p1), .val (.int p2), .val (.int p3), .val (.long q4), .second, .val (.long q5), .second, .val (.int (Int32.ofNat N)), .val (.int (Int32.ofNat K)), .val (.int (Int32.ofNat I)), .val (.int (Int32.ofNat J)), .val (.int (Int32.ofNat Q)), .val (.ref b6), .val (.int (1 : Int32)), .val (.long q5), .second, .val (.long q5), .second] [(.long ((upd (upd (fun _ => (0 : Int64)) I q4) J q5) I))])) _
    refine XS.lload X11.here hx rfl (hb hby at_159) rfl ?_
    show Steps p.tables e below (T11.setTop (mkF m 161 #[.val (.int p1), .val (.int p2), .val (.int p3), .val (.long q4), .second, .val (.long q5), .second, .val (.int (Int32.ofNat N)), .val (.int (Int32.ofNat K)), .val (.int (Int32.ofNat I)), .val (.int (Int32.ofNat J)), .val (.int (Int32.ofNat Q)), .val (.ref b6), .val (.int (1 : Int32)), .val (.long q5), .second, .val (.long q5), .second] [(.long q5), (.long ((upd (upd (fun _ => (0 : Int64)) I q4) J q5) I))])) _
    refine XS.lcmp X11.here hx rfl (hb hby at_161) rfl ?_
    show Steps p.tables e below (T11.setTop (mkF m 162 #[.val (.int p1), .val (.int p2), .val (.int p3), .val (.long q4), .second, .val (.long q5), .second, .val (.int (Int32.ofNat N)), .val (.int (Int32.ofNat K)), .val (.int (Int32.ofNat I)), .val (.int (Int32.ofNat J)), .val (.int (Int32.ofNat Q)), .val (.ref b6), .val (.int (1 : Int32)), .val (.long q5), .second, .val (.long q5), .second] [(.int (lcmpW ((upd (upd (fun _ => (0 : Int64)) I q4) J q5) I) q5))])) _
    refine XS.ifNo X11.here hx rfl (hb hby at_162) rfl ((if0 _ _).trans (teq (own_lc (by simp [upd, hIJ]) : (lcmpW ((upd (upd (fun _ => (0 : Int64)) I q4) J q5) I) q5) = (0 : Int32))).2) ?_
    show Steps p.tables e below (T11.setTop (mkF m 165 #[.val (.int p1), .val (.int p2), .val (.int p3), .val (.long q4), .second, .val (.long q5), .second, .val (.int (Int32.ofNat N)), .val (.int (Int32.ofNat K)), .val (.int (Int32.ofNat I)), .val (.int (Int32.ofNat J)), .val (.int (Int32.ofNat Q)), .val (.ref b6), .val (.int (1 : Int32)), .val (.long q5), .second, .val (.long q5), .second] [])) _
    refine XS.aload X11.here hx rfl (hb hby at_165) rfl rfl ?_
    show Steps p.tables e below (T11.setTop (mkF m 167 #[.val (.int p1), .val (.int p2), .val (.int p3), .val (.long q4), .second, .val (.long q5), .second, .val (.int (Int32.ofNat N)), .val (.int (Int32.ofNat K)), .val (.int (Int32.ofNat I)), .val (.int (Int32.ofNat J)), .val (.int (Int32.ofNat Q)), .val (.ref b6), .val (.int (1 : Int32)), .val (.long q5), .second, .val (.long q5), .second] [(.ref b6)])) _
    refine XS.iload X11.here hx rfl (hb hby at_167) rfl ?_
    show Steps p.tables e below (T11.setTop (mkF m 169 #[.val (.int p1), .val (.int p2), .val (.int p3), .val (.long q4), .second, .val (.long q5), .second, .val (.int (Int32.ofNat N)), .val (.int (Int32.ofNat K)), .val (.int (Int32.ofNat I)), .val (.int (Int32.ofNat J)), .val (.int (Int32.ofNat Q)), .val (.ref b6), .val (.int (1 : Int32)), .val (.long q5), .second, .val (.long q5), .second] [(.int (Int32.ofNat J)), (.ref b6)])) _
    refine XS.i2l X11.here hx rfl (hb hby at_169) rfl ?_
    show Steps p.tables e below (T11.setTop (mkF m 170 #[.val (.int p1), .val (.int p2), .val (.int p3), .val (.long q4), .second, .val (.long q5), .second, .val (.int (Int32.ofNat N)), .val (.int (Int32.ofNat K)), .val (.int (Int32.ofNat I)), .val (.int (Int32.ofNat J)), .val (.int (Int32.ofNat Q)), .val (.ref b6), .val (.int (1 : Int32)), .val (.long q5), .second, .val (.long q5), .second] [(.long ((Int32.ofNat J).toInt64)), (.ref b6)])) _
    refine st12.trans ?_
    show Steps p.tables e below (T12.setTop (mkF m 173 #[.val (.int p1), .val (.int p2), .val (.int p3), .val (.long q4), .second, .val (.long q5), .second, .val (.int (Int32.ofNat N)), .val (.int (Int32.ofNat K)), .val (.int (Int32.ofNat I)), .val (.int (Int32.ofNat J)), .val (.int (Int32.ofNat Q)), .val (.ref b6), .val (.int (1 : Int32)), .val (.long q5), .second, .val (.long q5), .second] [(.long ((upd (upd (fun _ => (0 : Int64)) I q4) J q5) J))])) _
    refine XS.lload X12.here hx rfl (hb hby at_173) rfl ?_
    show Steps p.tables e below (T12.setTop (mkF m 175 #[.val (.int p1), .val (.int p2), .val (.int p3), .val (.long q4), .second, .val (.long q5), .second, .val (.int (Int32.ofNat N)), .val (.int (Int32.ofNat K)), .val (.int (Int32.ofNat I)), .val (.int (Int32.ofNat J)), .val (.int (Int32.ofNat Q)), .val (.ref b6), .val (.int (1 : Int32)), .val (.long q5), .second, .val (.long q5), .second] [(.long q5), (.long ((upd (upd (fun _ => (0 : Int64)) I q4) J q5) J))])) _
    refine XS.lcmp X12.here hx rfl (hb hby at_175) rfl ?_
    show Steps p.tables e below (T12.setTop (mkF m 176 #[.val (.int p1), .val (.int p2), .val (.int p3), .val (.long q4), .second, .val (.long q5), .second, .val (.int (Int32.ofNat N)), .val (.int (Int32.ofNat K)), .val (.int (Int32.ofNat I)), .val (.int (Int32.ofNat J)), .val (.int (Int32.ofNat Q)), .val (.ref b6), .val (.int (1 : Int32)), .val (.long q5), .second, .val (.long q5), .second] [(.int (lcmpW ((upd (upd (fun _ => (0 : Int64)) I q4) J q5) J) q5))])) _
    refine XS.ifNo X12.here hx rfl (hb hby at_176) rfl ((if0 _ _).trans (teq (own_lc (by simp [upd]) : (lcmpW ((upd (upd (fun _ => (0 : Int64)) I q4) J q5) J) q5) = (0 : Int32))).2) ?_
    show Steps p.tables e below (T12.setTop (mkF m 179 #[.val (.int p1), .val (.int p2), .val (.int p3), .val (.long q4), .second, .val (.long q5), .second, .val (.int (Int32.ofNat N)), .val (.int (Int32.ofNat K)), .val (.int (Int32.ofNat I)), .val (.int (Int32.ofNat J)), .val (.int (Int32.ofNat Q)), .val (.ref b6), .val (.int (1 : Int32)), .val (.long q5), .second, .val (.long q5), .second] [])) _
    refine XS.aload X12.here hx rfl (hb hby at_179) rfl rfl ?_
    show Steps p.tables e below (T12.setTop (mkF m 181 #[.val (.int p1), .val (.int p2), .val (.int p3), .val (.long q4), .second, .val (.long q5), .second, .val (.int (Int32.ofNat N)), .val (.int (Int32.ofNat K)), .val (.int (Int32.ofNat I)), .val (.int (Int32.ofNat J)), .val (.int (Int32.ofNat Q)), .val (.ref b6), .val (.int (1 : Int32)), .val (.long q5), .second, .val (.long q5), .second] [(.ref b6)])) _
    refine XS.iload X12.here hx rfl (hb hby at_181) rfl ?_
    show Steps p.tables e below (T12.setTop (mkF m 183 #[.val (.int p1), .val (.int p2), .val (.int p3), .val (.long q4), .second, .val (.long q5), .second, .val (.int (Int32.ofNat N)), .val (.int (Int32.ofNat K)), .val (.int (Int32.ofNat I)), .val (.int (Int32.ofNat J)), .val (.int (Int32.ofNat Q)), .val (.ref b6), .val (.int (1 : Int32)), .val (.long q5), .second, .val (.long q5), .second] [(.int (Int32.ofNat Q)), (.ref b6)])) _
    refine XS.i2l X12.here hx rfl (hb hby at_183) rfl ?_
    show Steps p.tables e below (T12.setTop (mkF m 184 #[.val (.int p1), .val (.int p2), .val (.int p3), .val (.long q4), .second, .val (.long q5), .second, .val (.int (Int32.ofNat N)), .val (.int (Int32.ofNat K)), .val (.int (Int32.ofNat I)), .val (.int (Int32.ofNat J)), .val (.int (Int32.ofNat Q)), .val (.ref b6), .val (.int (1 : Int32)), .val (.long q5), .second, .val (.long q5), .second] [(.long ((Int32.ofNat Q).toInt64)), (.ref b6)])) _
    refine st13.trans ?_
    show Steps p.tables e below (T13.setTop (mkF m 187 #[.val (.int p1), .val (.int p2), .val (.int p3), .val (.long q4), .second, .val (.long q5), .second, .val (.int (Int32.ofNat N)), .val (.int (Int32.ofNat K)), .val (.int (Int32.ofNat I)), .val (.int (Int32.ofNat J)), .val (.int (Int32.ofNat Q)), .val (.ref b6), .val (.int (1 : Int32)), .val (.long q5), .second, .val (.long q5), .second] [(.long ((upd (upd (fun _ => (0 : Int64)) I q4) J q5) Q))])) _
    refine XS.lload X13.here hx rfl (hb hby at_187) rfl ?_
    show Steps p.tables e below (T13.setTop (mkF m 189 #[.val (.int p1), .val (.int p2), .val (.int p3), .val (.long q4), .second, .val (.long q5), .second, .val (.int (Int32.ofNat N)), .val (.int (Int32.ofNat K)), .val (.int (Int32.ofNat I)), .val (.int (Int32.ofNat J)), .val (.int (Int32.ofNat Q)), .val (.ref b6), .val (.int (1 : Int32)), .val (.long q5), .second, .val (.long q5), .second] [(.long q5), (.long ((upd (upd (fun _ => (0 : Int64)) I q4) J q5) Q))])) _
    refine XS.lcmp X13.here hx rfl (hb hby at_189) rfl ?_
    show Steps p.tables e below (T13.setTop (mkF m 190 #[.val (.int p1), .val (.int p2), .val (.int p3), .val (.long q4), .second, .val (.long q5), .second, .val (.int (Int32.ofNat N)), .val (.int (Int32.ofNat K)), .val (.int (Int32.ofNat I)), .val (.int (Int32.ofNat J)), .val (.int (Int32.ofNat Q)), .val (.ref b6), .val (.int (1 : Int32)), .val (.long q5), .second, .val (.long q5), .second] [(.int (lcmpW ((upd (upd (fun _ => (0 : Int64)) I q4) J q5) Q) q5))])) _
    refine XS.ifNo X13.here hx rfl (hb hby at_190) rfl ((if0 _ _).trans (teq (own_lc (by simp [upd, hQJ]) : (lcmpW ((upd (upd (fun _ => (0 : Int64)) I q4) J q5) Q) q5) = (0 : Int32))).2) ?_
    show Steps p.tables e below (T13.setTop (mkF m 193 #[.val (.int p1), .val (.int p2), .val (.int p3), .val (.long q4), .second, .val (.long q5), .second, .val (.int (Int32.ofNat N)), .val (.int (Int32.ofNat K)), .val (.int (Int32.ofNat I)), .val (.int (Int32.ofNat J)), .val (.int (Int32.ofNat Q)), .val (.ref b6), .val (.int (1 : Int32)), .val (.long q5), .second, .val (.long q5), .second] [])) _
    refine XS.aload X13.here hx rfl (hb hby at_193) rfl rfl ?_
    show Steps p.tables e below (T13.setTop (mkF m 195 #[.val (.int p1), .val (.int p2), .val (.int p3), .val (.long q4), .second, .val (.long q5), .second, .val (.int (Int32.ofNat N)), .val (.int (Int32.ofNat K)), .val (.int (Int32.ofNat I)), .val (.int (Int32.ofNat J)), .val (.int (Int32.ofNat Q)), .val (.ref b6), .val (.int (1 : Int32)), .val (.long q5), .second, .val (.long q5), .second] [(.ref b6)])) _
    refine st14.trans ?_
    show Steps p.tables e below (T14.setTop (mkF m 198 #[.val (.int p1), .val (.int p2), .val (.int p3), .val (.long q4), .second, .val (.long q5), .second, .val (.int (Int32.ofNat N)), .val (.int (Int32.ofNat K)), .val (.int (Int32.ofNat I)), .val (.int (Int32.ofNat J)), .val (.int (Int32.ofNat Q)), .val (.ref b6), .val (.int (1 : Int32)), .val (.long q5), .second, .val (.long q5), .second] [(.long (Int64.ofNat N))])) _
    refine XS.iload X14.here hx rfl (hb hby at_198) rfl ?_
    show Steps p.tables e below (T14.setTop (mkF m 200 #[.val (.int p1), .val (.int p2), .val (.int p3), .val (.long q4), .second, .val (.long q5), .second, .val (.int (Int32.ofNat N)), .val (.int (Int32.ofNat K)), .val (.int (Int32.ofNat I)), .val (.int (Int32.ofNat J)), .val (.int (Int32.ofNat Q)), .val (.ref b6), .val (.int (1 : Int32)), .val (.long q5), .second, .val (.long q5), .second] [(.int (Int32.ofNat N)), (.long (Int64.ofNat N))])) _
    refine XS.i2l X14.here hx rfl (hb hby at_200) rfl ?_
    show Steps p.tables e below (T14.setTop (mkF m 201 #[.val (.int p1), .val (.int p2), .val (.int p3), .val (.long q4), .second, .val (.long q5), .second, .val (.int (Int32.ofNat N)), .val (.int (Int32.ofNat K)), .val (.int (Int32.ofNat I)), .val (.int (Int32.ofNat J)), .val (.int (Int32.ofNat Q)), .val (.ref b6), .val (.int (1 : Int32)), .val (.long q5), .second, .val (.long q5), .second] [(.long ((Int32.ofNat N).toInt64)), (.long (Int64.ofNat N))])) _
    refine XS.lcmp X14.here hx rfl (hb hby at_201) rfl ?_
    show Steps p.tables e below (T14.setTop (mkF m 202 #[.val (.int p1), .val (.int p2), .val (.int p3), .val (.long q4), .second, .val (.long q5), .second, .val (.int (Int32.ofNat N)), .val (.int (Int32.ofNat K)), .val (.int (Int32.ofNat I)), .val (.int (Int32.ofNat J)), .val (.int (Int32.ofNat Q)), .val (.ref b6), .val (.int (1 : Int32)), .val (.long q5), .second, .val (.long q5), .second] [(.int (lcmpW (Int64.ofNat N) ((Int32.ofNat N).toInt64)))])) _
    refine XS.ifNo X14.here hx rfl (hb hby at_202) rfl ((if0 _ _).trans (teq (own_lc (own_l hN rfl).symm : (lcmpW (Int64.ofNat N) ((Int32.ofNat N).toInt64)) = (0 : Int32))).2) ?_
    show Steps p.tables e below (T14.setTop (mkF m 205 #[.val (.int p1), .val (.int p2), .val (.int p3), .val (.long q4), .second, .val (.long q5), .second, .val (.int (Int32.ofNat N)), .val (.int (Int32.ofNat K)), .val (.int (Int32.ofNat I)), .val (.int (Int32.ofNat J)), .val (.int (Int32.ofNat Q)), .val (.ref b6), .val (.int (1 : Int32)), .val (.long q5), .second, .val (.long q5), .second] [])) _
    refine XS.iconst X14.here hx rfl (hb hby at_205) ?_
    show Steps p.tables e below (T14.setTop (mkF m 206 #[.val (.int p1), .val (.int p2), .val (.int p3), .val (.long q4), .second, .val (.long q5), .second, .val (.int (Int32.ofNat N)), .val (.int (Int32.ofNat K)), .val (.int (Int32.ofNat I)), .val (.int (Int32.ofNat J)), .val (.int (Int32.ofNat Q)), .val (.ref b6), .val (.int (1 : Int32)), .val (.long q5), .second, .val (.long q5), .second] [(.int (1 : Int32))])) _
    refine XS.goto X14.here hx rfl (pc0 := 206) (pc' := 210) rfl (hb hby at_206) (by decide) (by decide) ?_
    show Steps p.tables e below (T14.setTop (mkF m 210 #[.val (.int p1), .val (.int p2), .val (.int p3), .val (.long q4), .second, .val (.long q5), .second, .val (.int (Int32.ofNat N)), .val (.int (Int32.ofNat K)), .val (.int (Int32.ofNat I)), .val (.int (Int32.ofNat J)), .val (.int (Int32.ofNat Q)), .val (.ref b6), .val (.int (1 : Int32)), .val (.long q5), .second, .val (.long q5), .second] [(.int (1 : Int32))])) _
    exact retN X14 hx (t := .boolean) Bd.returns (by simp) (hb hby at_210) hr
  · show Q0_a Z p1 p2 p3 q4 q5 N K I J Q h0 n0 _ T14.heap _
    exact ⟨rfl, N14⟩
def Q0_b (Z : State) (p1 : Int32) (p2 : Int32) (p3 : Int32) (q4 : Int64) (q5 : Int64) (N : Nat) (K : Nat) (I : Nat) (J : Nat) (Q : Nat) (h0 : Heap) (n0 : Nat) (v : Option Value) (h : Heap) (L : List Loc) : Prop := v = some (.int (1 : Int32)) ∧ Fr n0 L
set_option maxRecDepth 65536 in
set_option maxHeartbeats 40000000 in
theorem rm0_b (l : Launch) (Z : State) (a0 : Array Value) (hw : ∀ d ∈ tables_1, d.before a0 Z = true) (ws : List Jvm.Cond) (p1 : Int32) (p2 : Int32) (p3 : Int32) (q4 : Int64) (q5 : Int64) (N : Nat) (K : Nat) (I : Nat) (J : Nat) (Q : Nat) (h0 : Heap) (n0 : Nat) (Z0 : n0 ≤ h0.size) (hvN : ((1 : Int32) + (p1 &&& (15 : Int32))) = (Int32.ofNat N)) (hvK : ((p2 &&& (2147483647 : Int32)) % (5 : Int32)) = (Int32.ofNat K)) (hnz23 : ¬ ((Int32.ofNat N) = (0 : Int32))) (hvI : ((p3 &&& (255 : Int32)) % (Int32.ofNat N)) = (Int32.ofNat I)) (hnz36 : ¬ ((Int32.ofNat N) = (0 : Int32))) (hvJ : ((((p3.toUInt32 >>> ((8 : Int32) &&& 31).toUInt32).toInt32) &&& (255 : Int32)) % (Int32.ofNat N)) = (Int32.ofNat J)) (hnz49 : ¬ ((Int32.ofNat N) = (0 : Int32))) (hvQ : ((((p3.toUInt32 >>> ((16 : Int32) &&& 31).toUInt32).toInt32) &&& (255 : Int32)) % (Int32.ofNat N)) = (Int32.ofNat Q)) (hc109 : (Int32.ofNat I) = (Int32.ofNat J)) (hc124 : ¬ ((Int32.ofNat Q) = (Int32.ofNat J))) (hc136 : ¬ ((Int32.ofNat Q) = (Int32.ofNat I))) (hc148 : ¬ ((1 : Int32) = (0 : Int32))) (hN1 : 1 ≤ N) (hN : N ≤ 16) (hKK : K ≤ 4) (hI : I < N) (hJ : J < N) (hQ : Q < N) (hIJ : I = J) (hQJ : Q ≠ J) :
    MetFree l x (head1 (Jvm.Cond.code x code maxLocals ret :: ws) room_1) (fun a U => a = #[(.int p1), (.int p2), (.int p3), (.long q4), (.long q5)] ∧ Z.Warmed39 U.vm ∧ U.heap = h0) (fun _ _ _ _ _ => True) (fun _ U o U' => ∃ v L, o = .returned v ∧ Q0_b Z p1 p2 p3 q4 q5 N K I J Q h0 n0 v U'.heap L ∧ FrameEnd U o U' L room_1.cells room_1.slots) := by
  refine MetFree.of_bodySF (plainFor_of_name pn_0) hisR ?_
  intro p e s m args below meth c s₁ Bd hml0 hP hK
  obtain ⟨rfl, hZ, hh⟩ := hP
  have hx := Bd.exec
  have hby := Bd.bytes
  have hml : c.maxLocals = 18 := hml0
  have hown : s.vm.findClass "com/example/cowbird/cowbird/table/WordsGetPinLaw" = some m.cls := findClass_of_methodNamed Bd.named
  have hnm := (name_of_methodNamed Bd.named Bd.method).1
  have X0 : Stand p l e room_1 s m #[(.int p1), (.int p2), (.int p3), (.long q4), (.long q5)] below meth c s₁ [] 0 0 := Stand.of_body Bd
  have e0 : s₁.heap = h0 := by rw [← hh, Bd.state]; rfl
  have N0 := Fr.nil n0
  have pre0 : ∀ t, Steps p.tables e below (s₁.setTop (mkF m 0 #[.val (.int p1), .val (.int p2), .val (.int p3), .val (.long q4), .second, .val (.long q5), .second, .unset, .unset, .unset, .unset, .unset, .unset, .unset, .unset, .unset, .unset, .unset] [])) t → Steps p.tables e below (s₁.setTop (entryFrame m #[(.int p1), (.int p2), (.int p3), (.long q4), (.long q5)] maxLocals)) t := fun t k => castTop (ef_0 m p1 p2 p3 q4 q5) k

  obtain ⟨T6, h6, X6, e6, E6, A6, D6, -, st6⟩ := newO X0 hx hZ hown (hw _ (List.mem_of_getElem? (i := 1) rfl)) (hw _ (List.mem_of_getElem? (i := 2) rfl)) (hw _ (List.mem_of_getElem? (i := 3) rfl)) e0 (g := (mkF m 52 #[.val (.int p1), .val (.int p2), .val (.int p3), .val (.long q4), .second, .val (.long q5), .second, .val (.int (Int32.ofNat N)), .val (.int (Int32.ofNat K)), .val (.int (Int32.ofNat I)), .val (.int (Int32.ofNat J)), .val (.int (Int32.ofNat Q)), .unset, .unset, .unset, .unset, .unset, .unset] [])) rfl (hb hby at_52) (by decide) (by decide)
  obtain ⟨b6, g6⟩ : ∃ z, z = h0.size := ⟨_, rfl⟩
  rw [← g6] at A6 D6 st6
  have F_pages_b6 : Fld Z h6 b6 "com/example/cowbird/cowbird/table/Words" "pages" "[[J" .null := D6 (Or.inr (hw _ (List.mem_of_getElem? (i := 19) rfl))) (ty := (.array (.array .long))) (by decide)
  have F_pageShift_b6 : Fld Z h6 b6 "com/example/cowbird/cowbird/table/Words" "pageShift" "I" (.int (0 : Int32)) := D6 (Or.inr (hw _ (List.mem_of_getElem? (i := 21) rfl))) (ty := .int) (by decide)
  have F_pageMask_b6 : Fld Z h6 b6 "com/example/cowbird/cowbird/table/Words" "pageMask" "J" (.long (0 : Int64)) := D6 (Or.inr (hw _ (List.mem_of_getElem? (i := 23) rfl))) (ty := .long) (by decide)
  have F_length_b6 : Fld Z h6 b6 "com/example/cowbird/cowbird/table/Words" "length" "J" (.long (0 : Int64)) := D6 (Or.inr (hw _ (List.mem_of_getElem? (i := 25) rfl))) (ty := .long) (by decide)
  have E_b6 := A6
  have g_b6 : n0 ≤ b6 := Nat.le_trans Z0 (Nat.le_of_eq g6.symm)
  have sz_b6 : h0.size ≤ b6 := (Nat.le_trans (Keep.refl h0 []).1 (Nat.le_of_eq g6.symm))
  have K6 : Keep h0 h6 [] := (Keep.refl h0 []).ext E6

  obtain ⟨_, _, ⟨T7, L7, k7, n7⟩, -, X7, ⟨Lc7, hQ7, l7, y7, z7⟩, st7⟩ := X6.specialBack hx (y := (⟨"com/example/cowbird/cowbird/table/Words", "<init>", "(JI)V"⟩ : MethodName)) rfl hown (mvT hZ (hw _ (List.mem_of_getElem? (i := 4) rfl))) (mvT hZ (hw _ (List.mem_of_getElem? (i := 5) rfl))) (mvT hZ (hw _ (List.mem_of_getElem? (i := 6) rfl))) (by decide) (backOf (W := 1) (rm1 l Z a0 hw [] b6 ((Int32.ofNat N).toInt64) (Int32.ofNat K) N K hN1 hN hKK (own_l hN rfl) rfl h6 n0 (Nat.le_trans Z0 E6.1) E_b6 F_pages_b6 F_pageShift_b6 F_pageMask_b6 F_length_b6 g_b6) hZ (hw _ (List.mem_of_getElem? (i := 6) rfl)) (hw _ (List.mem_of_getElem? (i := 3) rfl)) (by decide) (by decide)) (g := (mkF m 61 #[.val (.int p1), .val (.int p2), .val (.int p3), .val (.long q4), .second, .val (.long q5), .second, .val (.int (Int32.ofNat N)), .val (.int (Int32.ofNat K)), .val (.int (Int32.ofNat I)), .val (.int (Int32.ofNat J)), .val (.int (Int32.ofNat Q)), .unset, .unset, .unset, .unset, .unset, .unset] [(.int (Int32.ofNat K)), (.long ((Int32.ofNat N).toInt64)), (.ref b6), (.ref b6)])) rfl (by rw [hml]; rfl) (Steps.refl _) (a := b6) (argsL := [(.long ((Int32.ofNat N).toInt64)), (.int (Int32.ofNat K))]) (rest := [(.ref b6)]) (lenOf pd_0_0 rfl) rfl (by show 2 * 0 + _ ≤ _; exact Nat.le_of_eq rfl) (hb hby at_61) (fun _ _ => ⟨rfl, e6, (by decide : 1 + 17 ≤ _), (by decide : 4 + 32 ≤ _)⟩)
  dsimp only [Pt.U, Pt.locs, Pt.cells, Pt.slots] at X7 l7 y7 z7 st7 hQ7
  subst l7 y7 z7
  obtain ⟨rfl, N7q, P, pa, gP, W7⟩ := hQ7
  have zz7 : n0 ≤ T7.heap.size := Nat.le_trans gP (Nat.le_of_lt W7.lt)
  have N7 := Fr.app N0 N7q

  obtain ⟨cq8, kq8, q8a, q8b, q8c⟩ := isOf hZ rfl W7.1
  obtain ⟨_, _, ⟨T8, L8, k8, n8⟩, -, X8, ⟨Lc8, hQ8, l8, y8, z8⟩, st8⟩ := X7.virtualBack hx (y := (⟨"com/example/cowbird/cowbird/table/Words", "get", "(J)J"⟩ : MethodName)) (z := (⟨"com/example/cowbird/cowbird/table/Words", "get", "(J)J"⟩ : MethodName)) hown (mvT hZ (hw _ (List.mem_of_getElem? (i := 35) rfl))) (mvT hZ (hw _ (List.mem_of_getElem? (i := 36) rfl))) (notFace_of_selects (args := #[]) (mvT hZ (hw _ (List.mem_of_getElem? (i := 38) rfl)))) (mvT hZ (hw _ (List.mem_of_getElem? (i := 38) rfl))) (mvT hZ (hw _ (List.mem_of_getElem? (i := 37) rfl))) (by decide) (backOf (W := 0) (Wd.get l Z a0 hw hN hKK (zz7) W7 hQ (own_l (by omega) rfl)) hZ (hw _ (List.mem_of_getElem? (i := 39) rfl)) (hw _ (List.mem_of_getElem? (i := 3) rfl)) (by decide) (by decide)) q8a q8c (g := (mkF m 71 #[.val (.int p1), .val (.int p2), .val (.int p3), .val (.long q4), .second, .val (.long q5), .second, .val (.int (Int32.ofNat N)), .val (.int (Int32.ofNat K)), .val (.int (Int32.ofNat I)), .val (.int (Int32.ofNat J)), .val (.int (Int32.ofNat Q)), .val (.ref b6), .unset, .unset, .unset, .unset, .unset] [(.long ((Int32.ofNat Q).toInt64)), (.ref b6)])) rfl (by rw [hml]; rfl) (Steps.refl _) (argsL := [(.long ((Int32.ofNat Q).toInt64))]) (rest := []) (lenOf pd_0_6 rfl) rfl (by show 2 * 0 + _ ≤ _; exact Nat.le_of_eq rfl) (hb hby at_71) (fun _ _ => ⟨rfl, rfl, (by decide : 1 + 17 + 0 ≤ _), (by decide : 4 + 32 + 0 ≤ _)⟩)
  dsimp only [Pt.U, Pt.locs, Pt.cells, Pt.slots] at X8 l8 y8 z8 st8 hQ8
  subst l8 y8 z8
  obtain ⟨rfl, N8q, eQ8⟩ := hQ8
  have W8 : Wd Z T8.heap b6 P pa N K (np N K) (fun _ => (0 : Int64)) := by rw [eQ8]; exact W7
  have zz8 : n0 ≤ T8.heap.size := Nat.le_trans gP (Nat.le_of_lt W8.lt)
  have N8 := Fr.app N7 N8q

  obtain ⟨cq9, kq9, q9a, q9b, q9c⟩ := isOf hZ rfl W8.1
  obtain ⟨_, _, ⟨T9, L9, k9, n9⟩, -, X9, ⟨Lc9, hQ9, l9, y9, z9⟩, st9⟩ := X8.virtualBack hx (y := (⟨"com/example/cowbird/cowbird/table/Words", "set", "(JJ)V"⟩ : MethodName)) (z := (⟨"com/example/cowbird/cowbird/table/Words", "set", "(JJ)V"⟩ : MethodName)) hown (mvT hZ (hw _ (List.mem_of_getElem? (i := 40) rfl))) (mvT hZ (hw _ (List.mem_of_getElem? (i := 41) rfl))) (notFace_of_selects (args := #[]) (mvT hZ (hw _ (List.mem_of_getElem? (i := 43) rfl)))) (mvT hZ (hw _ (List.mem_of_getElem? (i := 43) rfl))) (mvT hZ (hw _ (List.mem_of_getElem? (i := 42) rfl))) (by decide) (backOf (W := 0) (Wd.put l Z a0 hw hN hKK (zz8) gP W8 hI (own_l (by omega) rfl) q4) hZ (hw _ (List.mem_of_getElem? (i := 44) rfl)) (hw _ (List.mem_of_getElem? (i := 3) rfl)) (by decide) (by decide)) q9a q9c (g := (mkF m 92 #[.val (.int p1), .val (.int p2), .val (.int p3), .val (.long q4), .second, .val (.long q5), .second, .val (.int (Int32.ofNat N)), .val (.int (Int32.ofNat K)), .val (.int (Int32.ofNat I)), .val (.int (Int32.ofNat J)), .val (.int (Int32.ofNat Q)), .val (.ref b6), .val (.int (1 : Int32)), .unset, .unset, .unset, .unset] [(.long q4), (.long ((Int32.ofNat I).toInt64)), (.ref b6)])) rfl (by rw [hml]; rfl) (Steps.refl _) (argsL := [(.long ((Int32.ofNat I).toInt64)), (.long q4)]) (rest := []) (lenOf pd_0_7 rfl) rfl (by show 2 * 0 + _ ≤ _; exact Nat.le_of_eq rfl) (hb hby at_92) (fun _ _ => ⟨rfl, rfl, (by decide : 1 + 17 + 0 ≤ _), (by decide : 4 + 32 + 0 ≤ _)⟩)
  dsimp only [Pt.U, Pt.locs, Pt.cells, Pt.slots] at X9 l9 y9 z9 st9 hQ9
  subst l9 y9 z9
  obtain ⟨rfl, N9q, w9⟩ := hQ9
  have W9 : Wd Z T9.heap b6 P pa N K (np N K) (upd (fun _ => (0 : Int64)) I q4) := Wd.set hN hKK W8 hI w9
  have zz9 : n0 ≤ T9.heap.size := Nat.le_trans gP (Nat.le_of_lt W9.lt)
  have N9 := Fr.app N8 N9q

  obtain ⟨cq10, kq10, q10a, q10b, q10c⟩ := isOf hZ rfl W9.1
  obtain ⟨_, _, ⟨T10, L10, k10, n10⟩, -, X10, ⟨Lc10, hQ10, l10, y10, z10⟩, st10⟩ := X9.virtualBack hx (y := (⟨"com/example/cowbird/cowbird/table/Words", "set", "(JJ)V"⟩ : MethodName)) (z := (⟨"com/example/cowbird/cowbird/table/Words", "set", "(JJ)V"⟩ : MethodName)) hown (mvT hZ (hw _ (List.mem_of_getElem? (i := 40) rfl))) (mvT hZ (hw _ (List.mem_of_getElem? (i := 41) rfl))) (notFace_of_selects (args := #[]) (mvT hZ (hw _ (List.mem_of_getElem? (i := 43) rfl)))) (mvT hZ (hw _ (List.mem_of_getElem? (i := 43) rfl))) (mvT hZ (hw _ (List.mem_of_getElem? (i := 42) rfl))) (by decide) (backOf (W := 0) (Wd.put l Z a0 hw hN hKK (zz9) gP W9 hJ (own_l (by omega) rfl) q5) hZ (hw _ (List.mem_of_getElem? (i := 44) rfl)) (hw _ (List.mem_of_getElem? (i := 3) rfl)) (by decide) (by decide)) q10a q10c (g := (mkF m 102 #[.val (.int p1), .val (.int p2), .val (.int p3), .val (.long q4), .second, .val (.long q5), .second, .val (.int (Int32.ofNat N)), .val (.int (Int32.ofNat K)), .val (.int (Int32.ofNat I)), .val (.int (Int32.ofNat J)), .val (.int (Int32.ofNat Q)), .val (.ref b6), .val (.int (1 : Int32)), .unset, .unset, .unset, .unset] [(.long q5), (.long ((Int32.ofNat J).toInt64)), (.ref b6)])) rfl (by rw [hml]; rfl) (Steps.refl _) (argsL := [(.long ((Int32.ofNat J).toInt64)), (.long q5)]) (rest := []) (lenOf pd_0_7 rfl) rfl (by show 2 * 0 + _ ≤ _; exact Nat.le_of_eq rfl) (hb hby at_102) (fun _ _ => ⟨rfl, rfl, (by decide : 1 + 17 + 0 ≤ _), (by decide : 4 + 32 + 0 ≤ _)⟩)
  dsimp only [Pt.U, Pt.locs, Pt.cells, Pt.slots] at X10 l10 y10 z10 st10 hQ10
  subst l10 y10 z10
  obtain ⟨rfl, N10q, w10⟩ := hQ10
  have W10 : Wd Z T10.heap b6 P pa N K (np N K) (upd (upd (fun _ => (0 : Int64)) I q4) J q5) := Wd.set hN hKK W9 hJ w10
  have zz10 : n0 ≤ T10.heap.size := Nat.le_trans gP (Nat.le_of_lt W10.lt)
  have N10 := Fr.app N9 N10q

  obtain ⟨cq11, kq11, q11a, q11b, q11c⟩ := isOf hZ rfl W10.1
  obtain ⟨_, _, ⟨T11, L11, k11, n11⟩, -, X11, ⟨Lc11, hQ11, l11, y11, z11⟩, st11⟩ := X10.virtualBack hx (y := (⟨"com/example/cowbird/cowbird/table/Words", "get", "(J)J"⟩ : MethodName)) (z := (⟨"com/example/cowbird/cowbird/table/Words", "get", "(J)J"⟩ : MethodName)) hown (mvT hZ (hw _ (List.mem_of_getElem? (i := 35) rfl))) (mvT hZ (hw _ (List.mem_of_getElem? (i := 36) rfl))) (notFace_of_selects (args := #[]) (mvT hZ (hw _ (List.mem_of_getElem? (i := 38) rfl)))) (mvT hZ (hw _ (List.mem_of_getElem? (i := 38) rfl))) (mvT hZ (hw _ (List.mem_of_getElem? (i := 37) rfl))) (by decide) (backOf (W := 0) (Wd.get l Z a0 hw hN hKK (zz10) W10 hI (own_l (by omega) rfl)) hZ (hw _ (List.mem_of_getElem? (i := 39) rfl)) (hw _ (List.mem_of_getElem? (i := 3) rfl)) (by decide) (by decide)) q11a q11c (g := (mkF m 156 #[.val (.int p1), .val (.int p2), .val (.int p3), .val (.long q4), .second, .val (.long q5), .second, .val (.int (Int32.ofNat N)), .val (.int (Int32.ofNat K)), .val (.int (Int32.ofNat I)), .val (.int (Int32.ofNat J)), .val (.int (Int32.ofNat Q)), .val (.ref b6), .val (.int (1 : Int32)), .val (.long q5), .second, .val (.long (0 : Int64)), .second] [(.long ((Int32.ofNat I).toInt64)), (.ref b6)])) rfl (by rw [hml]; rfl) (Steps.refl _) (argsL := [(.long ((Int32.ofNat I).toInt64))]) (rest := []) (lenOf pd_0_6 rfl) rfl (by show 2 * 0 + _ ≤ _; exact Nat.le_of_eq rfl) (hb hby at_156) (fun _ _ => ⟨rfl, rfl, (by decide : 1 + 17 + 0 ≤ _), (by decide : 4 + 32 + 0 ≤ _)⟩)
  dsimp only [Pt.U, Pt.locs, Pt.cells, Pt.slots] at X11 l11 y11 z11 st11 hQ11
  subst l11 y11 z11
  obtain ⟨rfl, N11q, eQ11⟩ := hQ11
  have W11 : Wd Z T11.heap b6 P pa N K (np N K) (upd (upd (fun _ => (0 : Int64)) I q4) J q5) := by rw [eQ11]; exact W10
  have zz11 : n0 ≤ T11.heap.size := Nat.le_trans gP (Nat.le_of_lt W11.lt)
  have N11 := Fr.app N10 N11q

  obtain ⟨cq12, kq12, q12a, q12b, q12c⟩ := isOf hZ rfl W11.1
  obtain ⟨_, _, ⟨T12, L12, k12, n12⟩, -, X12, ⟨Lc12, hQ12, l12, y12, z12⟩, st12⟩ := X11.virtualBack hx (y := (⟨"com/example/cowbird/cowbird/table/Words", "get", "(J)J"⟩ : MethodName)) (z := (⟨"com/example/cowbird/cowbird/table/Words", "get", "(J)J"⟩ : MethodName)) hown (mvT hZ (hw _ (List.mem_of_getElem? (i := 35) rfl))) (mvT hZ (hw _ (List.mem_of_getElem? (i := 36) rfl))) (notFace_of_selects (args := #[]) (mvT hZ (hw _ (List.mem_of_getElem? (i := 38) rfl)))) (mvT hZ (hw _ (List.mem_of_getElem? (i := 38) rfl))) (mvT hZ (hw _ (List.mem_of_getElem? (i := 37) rfl))) (by decide) (backOf (W := 0) (Wd.get l Z a0 hw hN hKK (zz11) W11 hJ (own_l (by omega) rfl)) hZ (hw _ (List.mem_of_getElem? (i := 39) rfl)) (hw _ (List.mem_of_getElem? (i := 3) rfl)) (by decide) (by decide)) q12a q12c (g := (mkF m 170 #[.val (.int p1), .val (.int p2), .val (.int p3), .val (.long q4), .second, .val (.long q5), .second, .val (.int (Int32.ofNat N)), .val (.int (Int32.ofNat K)), .val (.int (Int32.ofNat I)), .val (.int (Int32.ofNat J)), .val (.int (Int32.ofNat Q)), .val (.ref b6), .val (.int (1 : Int32)), .val (.long q5), .second, .val (.long (0 : Int64)), .second] [(.long ((Int32.ofNat J).toInt64)), (.ref b6)])) rfl (by rw [hml]; rfl) (Steps.refl _) (argsL := [(.long ((Int32.ofNat J).toInt64))]) (rest := []) (lenOf pd_0_6 rfl) rfl (by show 2 * 0 + _ ≤ _; exact Nat.le_of_eq rfl) (hb hby at_170) (fun _ _ => ⟨rfl, rfl, (by decide : 1 + 17 + 0 ≤ _), (by decide : 4 + 32 + 0 ≤ _)⟩)
  dsimp only [Pt.U, Pt.locs, Pt.cells, Pt.slots] at X12 l12 y12 z12 st12 hQ12
  subst l12 y12 z12
  obtain ⟨rfl, N12q, eQ12⟩ := hQ12
  have W12 : Wd Z T12.heap b6 P pa N K (np N K) (upd (upd (fun _ => (0 : Int64)) I q4) J q5) := by rw [eQ12]; exact W11
  have zz12 : n0 ≤ T12.heap.size := Nat.le_trans gP (Nat.le_of_lt W12.lt)
  have N12 := Fr.app N11 N12q

  obtain ⟨cq13, kq13, q13a, q13b, q13c⟩ := isOf hZ rfl W12.1
  obtain ⟨_, _, ⟨T13, L13, k13, n13⟩, -, X13, ⟨Lc13, hQ13, l13, y13, z13⟩, st13⟩ := X12.virtualBack hx (y := (⟨"com/example/cowbird/cowbird/table/Words", "get", "(J)J"⟩ : MethodName)) (z := (⟨"com/example/cowbird/cowbird/table/Words", "get", "(J)J"⟩ : MethodName)) hown (mvT hZ (hw _ (List.mem_of_getElem? (i := 35) rfl))) (mvT hZ (hw _ (List.mem_of_getElem? (i := 36) rfl))) (notFace_of_selects (args := #[]) (mvT hZ (hw _ (List.mem_of_getElem? (i := 38) rfl)))) (mvT hZ (hw _ (List.mem_of_getElem? (i := 38) rfl))) (mvT hZ (hw _ (List.mem_of_getElem? (i := 37) rfl))) (by decide) (backOf (W := 0) (Wd.get l Z a0 hw hN hKK (zz12) W12 hQ (own_l (by omega) rfl)) hZ (hw _ (List.mem_of_getElem? (i := 39) rfl)) (hw _ (List.mem_of_getElem? (i := 3) rfl)) (by decide) (by decide)) q13a q13c (g := (mkF m 184 #[.val (.int p1), .val (.int p2), .val (.int p3), .val (.long q4), .second, .val (.long q5), .second, .val (.int (Int32.ofNat N)), .val (.int (Int32.ofNat K)), .val (.int (Int32.ofNat I)), .val (.int (Int32.ofNat J)), .val (.int (Int32.ofNat Q)), .val (.ref b6), .val (.int (1 : Int32)), .val (.long q5), .second, .val (.long (0 : Int64)), .second] [(.long ((Int32.ofNat Q).toInt64)), (.ref b6)])) rfl (by rw [hml]; rfl) (Steps.refl _) (argsL := [(.long ((Int32.ofNat Q).toInt64))]) (rest := []) (lenOf pd_0_6 rfl) rfl (by show 2 * 0 + _ ≤ _; exact Nat.le_of_eq rfl) (hb hby at_184) (fun _ _ => ⟨rfl, rfl, (by decide : 1 + 17 + 0 ≤ _), (by decide : 4 + 32 + 0 ≤ _)⟩)
  dsimp only [Pt.U, Pt.locs, Pt.cells, Pt.slots] at X13 l13 y13 z13 st13 hQ13
  subst l13 y13 z13
  obtain ⟨rfl, N13q, eQ13⟩ := hQ13
  have W13 : Wd Z T13.heap b6 P pa N K (np N K) (upd (upd (fun _ => (0 : Int64)) I q4) J q5) := by rw [eQ13]; exact W12
  have zz13 : n0 ≤ T13.heap.size := Nat.le_trans gP (Nat.le_of_lt W13.lt)
  have N13 := Fr.app N12 N13q

  obtain ⟨cq14, kq14, q14a, q14b, q14c⟩ := isOf hZ rfl W13.1
  obtain ⟨_, _, ⟨T14, L14, k14, n14⟩, -, X14, ⟨Lc14, hQ14, l14, y14, z14⟩, st14⟩ := X13.virtualBack hx (y := (⟨"com/example/cowbird/cowbird/table/Words", "length", "()J"⟩ : MethodName)) (z := (⟨"com/example/cowbird/cowbird/table/Words", "length", "()J"⟩ : MethodName)) hown (mvT hZ (hw _ (List.mem_of_getElem? (i := 45) rfl))) (mvT hZ (hw _ (List.mem_of_getElem? (i := 46) rfl))) (notFace_of_selects (args := #[]) (mvT hZ (hw _ (List.mem_of_getElem? (i := 48) rfl)))) (mvT hZ (hw _ (List.mem_of_getElem? (i := 48) rfl))) (mvT hZ (hw _ (List.mem_of_getElem? (i := 47) rfl))) (by decide) (backOf (W := 0) (Wd.len l Z a0 hw (zz13) W13) hZ (hw _ (List.mem_of_getElem? (i := 49) rfl)) (hw _ (List.mem_of_getElem? (i := 3) rfl)) (by decide) (by decide)) q14a q14c (g := (mkF m 195 #[.val (.int p1), .val (.int p2), .val (.int p3), .val (.long q4), .second, .val (.long q5), .second, .val (.int (Int32.ofNat N)), .val (.int (Int32.ofNat K)), .val (.int (Int32.ofNat I)), .val (.int (Int32.ofNat J)), .val (.int (Int32.ofNat Q)), .val (.ref b6), .val (.int (1 : Int32)), .val (.long q5), .second, .val (.long (0 : Int64)), .second] [(.ref b6)])) rfl (by rw [hml]; rfl) (Steps.refl _) (argsL := []) (rest := []) (lenOf pd_0_8 rfl) rfl (by show 2 * 0 + _ ≤ _; exact Nat.le_of_eq rfl) (hb hby at_195) (fun _ _ => ⟨rfl, rfl, (by decide : 1 + 17 + 0 ≤ _), (by decide : 4 + 32 + 0 ≤ _)⟩)
  dsimp only [Pt.U, Pt.locs, Pt.cells, Pt.slots] at X14 l14 y14 z14 st14 hQ14
  subst l14 y14 z14
  obtain ⟨rfl, N14q, eQ14⟩ := hQ14
  have W14 : Wd Z T14.heap b6 P pa N K (np N K) (upd (upd (fun _ => (0 : Int64)) I q4) J q5) := by rw [eQ14]; exact W13
  have zz14 : n0 ≤ T14.heap.size := Nat.le_trans gP (Nat.le_of_lt W14.lt)
  have N14 := Fr.app N13 N14q
  obtain ⟨fs, hr, hrun, hended, hW, hsame⟩ := X14.leave (v := some (.int (1 : Int32))) (fun h => by rw [Bd.returns] at h; cases h)
  refine ⟨_, _, pre0 _ ?_, hrun, hended, _, _, rfl, ?_, ⟨_, rfl⟩, hW, hsame.mono (by decide) (by decide)⟩

  · show Steps p.tables e below (s₁.setTop (mkF m 0 #[.val (.int p1), .val (.int p2), .val (.int p3), .val (.long q4), .second, .val (.long q5), .second, .unset, .unset, .unset, .unset, .unset, .unset, .unset, .unset, .unset, .unset, .unset] [])) _
    refine XS.iconst X0.here hx rfl (hb hby at_0) ?_
    show Steps p.tables e below (s₁.setTop (mkF m 1 #[.val (.int p1), .val (.int p2), .val (.int p3), .val (.long q4), .second, .val (.long q5), .second, .unset, .unset, .unset, .unset, .unset, .unset, .unset, .unset, .unset, .unset, .unset] [(.int (1 : Int32))])) _
    refine XS.iloadN X0.here hx rfl (hb hby at_1) rfl ?_
    show Steps p.tables e below (s₁.setTop (mkF m 2 #[.val (.int p1), .val (.int p2), .val (.int p3), .val (.long q4), .second, .val (.long q5), .second, .unset, .unset, .unset, .unset, .unset, .unset, .unset, .unset, .unset, .unset, .unset] [(.int p1), (.int (1 : Int32))])) _
    refine XS.bipush X0.here hx rfl (hb hby at_2) ?_
    show Steps p.tables e below (s₁.setTop (mkF m 4 #[.val (.int p1), .val (.int p2), .val (.int p3), .val (.long q4), .second, .val (.long q5), .second, .unset, .unset, .unset, .unset, .unset, .unset, .unset, .unset, .unset, .unset, .unset] [(.int (15 : Int32)), (.int p1), (.int (1 : Int32))])) _
    refine XS.iand X0.here hx rfl (hb hby at_4) rfl ?_
    show Steps p.tables e below (s₁.setTop (mkF m 5 #[.val (.int p1), .val (.int p2), .val (.int p3), .val (.long q4), .second, .val (.long q5), .second, .unset, .unset, .unset, .unset, .unset, .unset, .unset, .unset, .unset, .unset, .unset] [(.int (p1 &&& (15 : Int32))), (.int (1 : Int32))])) _
    refine XS.iadd X0.here hx rfl (hb hby at_5) rfl ?_
    show Steps p.tables e below (s₁.setTop (mkF m 6 #[.val (.int p1), .val (.int p2), .val (.int p3), .val (.long q4), .second, .val (.long q5), .second, .unset, .unset, .unset, .unset, .unset, .unset, .unset, .unset, .unset, .unset, .unset] [(.int ((1 : Int32) + (p1 &&& (15 : Int32))))])) _
    rw [hvN]
    show Steps p.tables e below (s₁.setTop (mkF m 6 #[.val (.int p1), .val (.int p2), .val (.int p3), .val (.long q4), .second, .val (.long q5), .second, .unset, .unset, .unset, .unset, .unset, .unset, .unset, .unset, .unset, .unset, .unset] [(.int (Int32.ofNat N))])) _
    refine XS.istore X0.here hx rfl (hb hby at_6) rfl (l' := #[.val (.int p1), .val (.int p2), .val (.int p3), .val (.long q4), .second, .val (.long q5), .second, .val (.int (Int32.ofNat N)), .unset, .unset, .unset, .unset, .unset, .unset, .unset, .unset, .unset, .unset]) rfl ?_
    show Steps p.tables e below (s₁.setTop (mkF m 8 #[.val (.int p1), .val (.int p2), .val (.int p3), .val (.long q4), .second, .val (.long q5), .second, .val (.int (Int32.ofNat N)), .unset, .unset, .unset, .unset, .unset, .unset, .unset, .unset, .unset, .unset] [])) _
    refine XS.iloadN X0.here hx rfl (hb hby at_8) rfl ?_
    show Steps p.tables e below (s₁.setTop (mkF m 9 #[.val (.int p1), .val (.int p2), .val (.int p3), .val (.long q4), .second, .val (.long q5), .second, .val (.int (Int32.ofNat N)), .unset, .unset, .unset, .unset, .unset, .unset, .unset, .unset, .unset, .unset] [(.int p2)])) _
    refine X0.ldcInt hx hown (mvT hZ (hw _ (List.mem_of_getElem? (i := 0) rfl))) (g := (mkF m 9 #[.val (.int p1), .val (.int p2), .val (.int p3), .val (.long q4), .second, .val (.long q5), .second, .val (.int (Int32.ofNat N)), .unset, .unset, .unset, .unset, .unset, .unset, .unset, .unset, .unset, .unset] [(.int p2)])) rfl (hb hby at_9) _ ?_
    show Steps p.tables e below (s₁.setTop (mkF m 11 #[.val (.int p1), .val (.int p2), .val (.int p3), .val (.long q4), .second, .val (.long q5), .second, .val (.int (Int32.ofNat N)), .unset, .unset, .unset, .unset, .unset, .unset, .unset, .unset, .unset, .unset] [(.int (2147483647 : Int32)), (.int p2)])) _
    refine XS.iand X0.here hx rfl (hb hby at_11) rfl ?_
    show Steps p.tables e below (s₁.setTop (mkF m 12 #[.val (.int p1), .val (.int p2), .val (.int p3), .val (.long q4), .second, .val (.long q5), .second, .val (.int (Int32.ofNat N)), .unset, .unset, .unset, .unset, .unset, .unset, .unset, .unset, .unset, .unset] [(.int (p2 &&& (2147483647 : Int32)))])) _
    refine XS.iconst X0.here hx rfl (hb hby at_12) ?_
    show Steps p.tables e below (s₁.setTop (mkF m 13 #[.val (.int p1), .val (.int p2), .val (.int p3), .val (.long q4), .second, .val (.long q5), .second, .val (.int (Int32.ofNat N)), .unset, .unset, .unset, .unset, .unset, .unset, .unset, .unset, .unset, .unset] [(.int (5 : Int32)), (.int (p2 &&& (2147483647 : Int32)))])) _
    refine Jvm.RoadKit.iremM X0 hx rfl (hb hby at_13) rfl (by decide) ?_
    show Steps p.tables e below (s₁.setTop (mkF m 14 #[.val (.int p1), .val (.int p2), .val (.int p3), .val (.long q4), .second, .val (.long q5), .second, .val (.int (Int32.ofNat N)), .unset, .unset, .unset, .unset, .unset, .unset, .unset, .unset, .unset, .unset] [(.int ((p2 &&& (2147483647 : Int32)) % (5 : Int32)))])) _
    rw [hvK]
    show Steps p.tables e below (s₁.setTop (mkF m 14 #[.val (.int p1), .val (.int p2), .val (.int p3), .val (.long q4), .second, .val (.long q5), .second, .val (.int (Int32.ofNat N)), .unset, .unset, .unset, .unset, .unset, .unset, .unset, .unset, .unset, .unset] [(.int (Int32.ofNat K))])) _
    refine XS.istore X0.here hx rfl (hb hby at_14) rfl (l' := #[.val (.int p1), .val (.int p2), .val (.int p3), .val (.long q4), .second, .val (.long q5), .second, .val (.int (Int32.ofNat N)), .val (.int (Int32.ofNat K)), .unset, .unset, .unset, .unset, .unset, .unset, .unset, .unset, .unset]) rfl ?_
    show Steps p.tables e below (s₁.setTop (mkF m 16 #[.val (.int p1), .val (.int p2), .val (.int p3), .val (.long q4), .second, .val (.long q5), .second, .val (.int (Int32.ofNat N)), .val (.int (Int32.ofNat K)), .unset, .unset, .unset, .unset, .unset, .unset, .unset, .unset, .unset] [])) _
    refine XS.iloadN X0.here hx rfl (hb hby at_16) rfl ?_
    show Steps p.tables e below (s₁.setTop (mkF m 17 #[.val (.int p1), .val (.int p2), .val (.int p3), .val (.long q4), .second, .val (.long q5), .second, .val (.int (Int32.ofNat N)), .val (.int (Int32.ofNat K)), .unset, .unset, .unset, .unset, .unset, .unset, .unset, .unset, .unset] [(.int p3)])) _
    refine XS.sipush X0.here hx rfl (hb hby at_17) ?_
    show Steps p.tables e below (s₁.setTop (mkF m 20 #[.val (.int p1), .val (.int p2), .val (.int p3), .val (.long q4), .second, .val (.long q5), .second, .val (.int (Int32.ofNat N)), .val (.int (Int32.ofNat K)), .unset, .unset, .unset, .unset, .unset, .unset, .unset, .unset, .unset] [(.int (255 : Int32)), (.int p3)])) _
    refine XS.iand X0.here hx rfl (hb hby at_20) rfl ?_
    show Steps p.tables e below (s₁.setTop (mkF m 21 #[.val (.int p1), .val (.int p2), .val (.int p3), .val (.long q4), .second, .val (.long q5), .second, .val (.int (Int32.ofNat N)), .val (.int (Int32.ofNat K)), .unset, .unset, .unset, .unset, .unset, .unset, .unset, .unset, .unset] [(.int (p3 &&& (255 : Int32)))])) _
    refine XS.iload X0.here hx rfl (hb hby at_21) rfl ?_
    show Steps p.tables e below (s₁.setTop (mkF m 23 #[.val (.int p1), .val (.int p2), .val (.int p3), .val (.long q4), .second, .val (.long q5), .second, .val (.int (Int32.ofNat N)), .val (.int (Int32.ofNat K)), .unset, .unset, .unset, .unset, .unset, .unset, .unset, .unset, .unset] [(.int (Int32.ofNat N)), (.int (p3 &&& (255 : Int32)))])) _
    refine Jvm.RoadKit.iremM X0 hx rfl (hb hby at_23) rfl hnz23 ?_
    show Steps p.tables e below (s₁.setTop (mkF m 24 #[.val (.int p1), .val (.int p2), .val (.int p3), .val (.long q4), .second, .val (.long q5), .second, .val (.int (Int32.ofNat N)), .val (.int (Int32.ofNat K)), .unset, .unset, .unset, .unset, .unset, .unset, .unset, .unset, .unset] [(.int ((p3 &&& (255 : Int32)) % (Int32.ofNat N)))])) _
    rw [hvI]
    show Steps p.tables e below (s₁.setTop (mkF m 24 #[.val (.int p1), .val (.int p2), .val (.int p3), .val (.long q4), .second, .val (.long q5), .second, .val (.int (Int32.ofNat N)), .val (.int (Int32.ofNat K)), .unset, .unset, .unset, .unset, .unset, .unset, .unset, .unset, .unset] [(.int (Int32.ofNat I))])) _
    refine XS.istore X0.here hx rfl (hb hby at_24) rfl (l' := #[.val (.int p1), .val (.int p2), .val (.int p3), .val (.long q4), .second, .val (.long q5), .second, .val (.int (Int32.ofNat N)), .val (.int (Int32.ofNat K)), .val (.int (Int32.ofNat I)), .unset, .unset, .unset, .unset, .unset, .unset, .unset, .unset]) rfl ?_
    show Steps p.tables e below (s₁.setTop (mkF m 26 #[.val (.int p1), .val (.int p2), .val (.int p3), .val (.long q4), .second, .val (.long q5), .second, .val (.int (Int32.ofNat N)), .val (.int (Int32.ofNat K)), .val (.int (Int32.ofNat I)), .unset, .unset, .unset, .unset, .unset, .unset, .unset, .unset] [])) _
    refine XS.iloadN X0.here hx rfl (hb hby at_26) rfl ?_
    show Steps p.tables e below (s₁.setTop (mkF m 27 #[.val (.int p1), .val (.int p2), .val (.int p3), .val (.long q4), .second, .val (.long q5), .second, .val (.int (Int32.ofNat N)), .val (.int (Int32.ofNat K)), .val (.int (Int32.ofNat I)), .unset, .unset, .unset, .unset, .unset, .unset, .unset, .unset] [(.int p3)])) _
    refine XS.bipush X0.here hx rfl (hb hby at_27) ?_
    show Steps p.tables e below (s₁.setTop (mkF m 29 #[.val (.int p1), .val (.int p2), .val (.int p3), .val (.long q4), .second, .val (.long q5), .second, .val (.int (Int32.ofNat N)), .val (.int (Int32.ofNat K)), .val (.int (Int32.ofNat I)), .unset, .unset, .unset, .unset, .unset, .unset, .unset, .unset] [(.int (8 : Int32)), (.int p3)])) _
    refine XS.iushr X0.here hx rfl (hb hby at_29) rfl ?_
    show Steps p.tables e below (s₁.setTop (mkF m 30 #[.val (.int p1), .val (.int p2), .val (.int p3), .val (.long q4), .second, .val (.long q5), .second, .val (.int (Int32.ofNat N)), .val (.int (Int32.ofNat K)), .val (.int (Int32.ofNat I)), .unset, .unset, .unset, .unset, .unset, .unset, .unset, .unset] [(.int ((p3.toUInt32 >>> ((8 : Int32) &&& 31).toUInt32).toInt32))])) _
    refine XS.sipush X0.here hx rfl (hb hby at_30) ?_
    show Steps p.tables e below (s₁.setTop (mkF m 33 #[.val (.int p1), .val (.int p2), .val (.int p3), .val (.long q4), .second, .val (.long q5), .second, .val (.int (Int32.ofNat N)), .val (.int (Int32.ofNat K)), .val (.int (Int32.ofNat I)), .unset, .unset, .unset, .unset, .unset, .unset, .unset, .unset] [(.int (255 : Int32)), (.int ((p3.toUInt32 >>> ((8 : Int32) &&& 31).toUInt32).toInt32))])) _
    refine XS.iand X0.here hx rfl (hb hby at_33) rfl ?_
    show Steps p.tables e below (s₁.setTop (mkF m 34 #[.val (.int p1), .val (.int p2), .val (.int p3), .val (.long q4), .second, .val (.long q5), .second, .val (.int (Int32.ofNat N)), .val (.int (Int32.ofNat K)), .val (.int (Int32.ofNat I)), .unset, .unset, .unset, .unset, .unset, .unset, .unset, .unset] [(.int (((p3.toUInt32 >>> ((8 : Int32) &&& 31).toUInt32).toInt32) &&& (255 : Int32)))])) _
    refine XS.iload X0.here hx rfl (hb hby at_34) rfl ?_
    show Steps p.tables e below (s₁.setTop (mkF m 36 #[.val (.int p1), .val (.int p2), .val (.int p3), .val (.long q4), .second, .val (.long q5), .second, .val (.int (Int32.ofNat N)), .val (.int (Int32.ofNat K)), .val (.int (Int32.ofNat I)), .unset, .unset, .unset, .unset, .unset, .unset, .unset, .unset] [(.int (Int32.ofNat N)), (.int (((p3.toUInt32 >>> ((8 : Int32) &&& 31).toUInt32).toInt32) &&& (255 : Int32)))])) _
    refine Jvm.RoadKit.iremM X0 hx rfl (hb hby at_36) rfl hnz36 ?_
    show Steps p.tables e below (s₁.setTop (mkF m 37 #[.val (.int p1), .val (.int p2), .val (.int p3), .val (.long q4), .second, .val (.long q5), .second, .val (.int (Int32.ofNat N)), .val (.int (Int32.ofNat K)), .val (.int (Int32.ofNat I)), .unset, .unset, .unset, .unset, .unset, .unset, .unset, .unset] [(.int ((((p3.toUInt32 >>> ((8 : Int32) &&& 31).toUInt32).toInt32) &&& (255 : Int32)) % (Int32.ofNat N)))])) _
    rw [hvJ]
    show Steps p.tables e below (s₁.setTop (mkF m 37 #[.val (.int p1), .val (.int p2), .val (.int p3), .val (.long q4), .second, .val (.long q5), .second, .val (.int (Int32.ofNat N)), .val (.int (Int32.ofNat K)), .val (.int (Int32.ofNat I)), .unset, .unset, .unset, .unset, .unset, .unset, .unset, .unset] [(.int (Int32.ofNat J))])) _
    refine XS.istore X0.here hx rfl (hb hby at_37) rfl (l' := #[.val (.int p1), .val (.int p2), .val (.int p3), .val (.long q4), .second, .val (.long q5), .second, .val (.int (Int32.ofNat N)), .val (.int (Int32.ofNat K)), .val (.int (Int32.ofNat I)), .val (.int (Int32.ofNat J)), .unset, .unset, .unset, .unset, .unset, .unset, .unset]) rfl ?_
    show Steps p.tables e below (s₁.setTop (mkF m 39 #[.val (.int p1), .val (.int p2), .val (.int p3), .val (.long q4), .second, .val (.long q5), .second, .val (.int (Int32.ofNat N)), .val (.int (Int32.ofNat K)), .val (.int (Int32.ofNat I)), .val (.int (Int32.ofNat J)), .unset, .unset, .unset, .unset, .unset, .unset, .unset] [])) _
    refine XS.iloadN X0.here hx rfl (hb hby at_39) rfl ?_
    show Steps p.tables e below (s₁.setTop (mkF m 40 #[.val (.int p1), .val (.int p2), .val (.int p3), .val (.long q4), .second, .val (.long q5), .second, .val (.int (Int32.ofNat N)), .val (.int (Int32.ofNat K)), .val (.int (Int32.ofNat I)), .val (.int (Int32.ofNat J)), .unset, .unset, .unset, .unset, .unset, .unset, .unset] [(.int p3)])) _
    refine XS.bipush X0.here hx rfl (hb hby at_40) ?_
    show Steps p.tables e below (s₁.setTop (mkF m 42 #[.val (.int p1), .val (.int p2), .val (.int p3), .val (.long q4), .second, .val (.long q5), .second, .val (.int (Int32.ofNat N)), .val (.int (Int32.ofNat K)), .val (.int (Int32.ofNat I)), .val (.int (Int32.ofNat J)), .unset, .unset, .unset, .unset, .unset, .unset, .unset] [(.int (16 : Int32)), (.int p3)])) _
    refine XS.iushr X0.here hx rfl (hb hby at_42) rfl ?_
    show Steps p.tables e below (s₁.setTop (mkF m 43 #[.val (.int p1), .val (.int p2), .val (.int p3), .val (.long q4), .second, .val (.long q5), .second, .val (.int (Int32.ofNat N)), .val (.int (Int32.ofNat K)), .val (.int (Int32.ofNat I)), .val (.int (Int32.ofNat J)), .unset, .unset, .unset, .unset, .unset, .unset, .unset] [(.int ((p3.toUInt32 >>> ((16 : Int32) &&& 31).toUInt32).toInt32))])) _
    refine XS.sipush X0.here hx rfl (hb hby at_43) ?_
    show Steps p.tables e below (s₁.setTop (mkF m 46 #[.val (.int p1), .val (.int p2), .val (.int p3), .val (.long q4), .second, .val (.long q5), .second, .val (.int (Int32.ofNat N)), .val (.int (Int32.ofNat K)), .val (.int (Int32.ofNat I)), .val (.int (Int32.ofNat J)), .unset, .unset, .unset, .unset, .unset, .unset, .unset] [(.int (255 : Int32)), (.int ((p3.toUInt32 >>> ((16 : Int32) &&& 31).toUInt32).toInt32))])) _
    refine XS.iand X0.here hx rfl (hb hby at_46) rfl ?_
    show Steps p.tables e below (s₁.setTop (mkF m 47 #[.val (.int p1), .val (.int p2), .val (.int p3), .val (.long q4), .second, .val (.long q5), .second, .val (.int (Int32.ofNat N)), .val (.int (Int32.ofNat K)), .val (.int (Int32.ofNat I)), .val (.int (Int32.ofNat J)), .unset, .unset, .unset, .unset, .unset, .unset, .unset] [(.int (((p3.toUInt32 >>> ((16 : Int32) &&& 31).toUInt32).toInt32) &&& (255 : Int32)))])) _
    refine XS.iload X0.here hx rfl (hb hby at_47) rfl ?_
    show Steps p.tables e below (s₁.setTop (mkF m 49 #[.val (.int p1), .val (.int p2), .val (.int p3), .val (.long q4), .second, .val (.long q5), .second, .val (.int (Int32.ofNat N)), .val (.int (Int32.ofNat K)), .val (.int (Int32.ofNat I)), .val (.int (Int32.ofNat J)), .unset, .unset, .unset, .unset, .unset, .unset, .unset] [(.int (Int32.ofNat N)), (.int (((p3.toUInt32 >>> ((16 : Int32) &&& 31).toUInt32).toInt32) &&& (255 : Int32)))])) _
    refine Jvm.RoadKit.iremM X0 hx rfl (hb hby at_49) rfl hnz49 ?_
    show Steps p.tables e below (s₁.setTop (mkF m 50 #[.val (.int p1), .val (.int p2), .val (.int p3), .val (.long q4), .second, .val (.long q5), .second, .val (.int (Int32.ofNat N)), .val (.int (Int32.ofNat K)), .val (.int (Int32.ofNat I)), .val (.int (Int32.ofNat J)), .unset, .unset, .unset, .unset, .unset, .unset, .unset] [(.int ((((p3.toUInt32 >>> ((16 : Int32) &&& 31).toUInt32).toInt32) &&& (255 : Int32)) % (Int32.ofNat N)))])) _
    rw [hvQ]
    show Steps p.tables e below (s₁.setTop (mkF m 50 #[.val (.int p1), .val (.int p2), .val (.int p3), .val (.long q4), .second, .val (.long q5), .second, .val (.int (Int32.ofNat N)), .val (.int (Int32.ofNat K)), .val (.int (Int32.ofNat I)), .val (.int (Int32.ofNat J)), .unset, .unset, .unset, .unset, .unset, .unset, .unset] [(.int (Int32.ofNat Q))])) _
    refine XS.istore X0.here hx rfl (hb hby at_50) rfl (l' := #[.val (.int p1), .val (.int p2), .val (.int p3), .val (.long q4), .second, .val (.long q5), .second, .val (.int (Int32.ofNat N)), .val (.int (Int32.ofNat K)), .val (.int (Int32.ofNat I)), .val (.int (Int32.ofNat J)), .val (.int (Int32.ofNat Q)), .unset, .unset, .unset, .unset, .unset, .unset]) rfl ?_
    show Steps p.tables e below (s₁.setTop (mkF m 52 #[.val (.int p1), .val (.int p2), .val (.int p3), .val (.long q4), .second, .val (.long q5), .second, .val (.int (Int32.ofNat N)), .val (.int (Int32.ofNat K)), .val (.int (Int32.ofNat I)), .val (.int (Int32.ofNat J)), .val (.int (Int32.ofNat Q)), .unset, .unset, .unset, .unset, .unset, .unset] [])) _
    refine st6 _ ?_
    show Steps p.tables e below (T6.setTop (mkF m 55 #[.val (.int p1), .val (.int p2), .val (.int p3), .val (.long q4), .second, .val (.long q5), .second, .val (.int (Int32.ofNat N)), .val (.int (Int32.ofNat K)), .val (.int (Int32.ofNat I)), .val (.int (Int32.ofNat J)), .val (.int (Int32.ofNat Q)), .unset, .unset, .unset, .unset, .unset, .unset] [(.ref b6)])) _
    refine XS.dup X6.here hx rfl (hb hby at_55) rfl rfl ?_
    show Steps p.tables e below (T6.setTop (mkF m 56 #[.val (.int p1), .val (.int p2), .val (.int p3), .val (.long q4), .second, .val (.long q5), .second, .val (.int (Int32.ofNat N)), .val (.int (Int32.ofNat K)), .val (.int (Int32.ofNat I)), .val (.int (Int32.ofNat J)), .val (.int (Int32.ofNat Q)), .unset, .unset, .unset, .unset, .unset, .unset] [(.ref b6), (.ref b6)])) _
    refine XS.iload X6.here hx rfl (hb hby at_56) rfl ?_
    show Steps p.tables e below (T6.setTop (mkF m 58 #[.val (.int p1), .val (.int p2), .val (.int p3), .val (.long q4), .second, .val (.long q5), .second, .val (.int (Int32.ofNat N)), .val (.int (Int32.ofNat K)), .val (.int (Int32.ofNat I)), .val (.int (Int32.ofNat J)), .val (.int (Int32.ofNat Q)), .unset, .unset, .unset, .unset, .unset, .unset] [(.int (Int32.ofNat N)), (.ref b6), (.ref b6)])) _
    refine XS.i2l X6.here hx rfl (hb hby at_58) rfl ?_
    show Steps p.tables e below (T6.setTop (mkF m 59 #[.val (.int p1), .val (.int p2), .val (.int p3), .val (.long q4), .second, .val (.long q5), .second, .val (.int (Int32.ofNat N)), .val (.int (Int32.ofNat K)), .val (.int (Int32.ofNat I)), .val (.int (Int32.ofNat J)), .val (.int (Int32.ofNat Q)), .unset, .unset, .unset, .unset, .unset, .unset] [(.long ((Int32.ofNat N).toInt64)), (.ref b6), (.ref b6)])) _
    refine XS.iload X6.here hx rfl (hb hby at_59) rfl ?_
    show Steps p.tables e below (T6.setTop (mkF m 61 #[.val (.int p1), .val (.int p2), .val (.int p3), .val (.long q4), .second, .val (.long q5), .second, .val (.int (Int32.ofNat N)), .val (.int (Int32.ofNat K)), .val (.int (Int32.ofNat I)), .val (.int (Int32.ofNat J)), .val (.int (Int32.ofNat Q)), .unset, .unset, .unset, .unset, .unset, .unset] [(.int (Int32.ofNat K)), (.long ((Int32.ofNat N).toInt64)), (.ref b6), (.ref b6)])) _
    refine st7.trans ?_
    show Steps p.tables e below (T7.setTop (mkF m 64 #[.val (.int p1), .val (.int p2), .val (.int p3), .val (.long q4), .second, .val (.long q5), .second, .val (.int (Int32.ofNat N)), .val (.int (Int32.ofNat K)), .val (.int (Int32.ofNat I)), .val (.int (Int32.ofNat J)), .val (.int (Int32.ofNat Q)), .unset, .unset, .unset, .unset, .unset, .unset] [(.ref b6)])) _
    refine XS.astore X7.here hx rfl (hb hby at_64) rfl rfl (l' := #[.val (.int p1), .val (.int p2), .val (.int p3), .val (.long q4), .second, .val (.long q5), .second, .val (.int (Int32.ofNat N)), .val (.int (Int32.ofNat K)), .val (.int (Int32.ofNat I)), .val (.int (Int32.ofNat J)), .val (.int (Int32.ofNat Q)), .val (.ref b6), .unset, .unset, .unset, .unset, .unset]) rfl ?_
    show Steps p.tables e below (T7.setTop (mkF m 66 #[.val (.int p1), .val (.int p2), .val (.int p3), .val (.long q4), .second, .val (.long q5), .second, .val (.int (Int32.ofNat N)), .val (.int (Int32.ofNat K)), .val (.int (Int32.ofNat I)), .val (.int (Int32.ofNat J)), .val (.int (Int32.ofNat Q)), .val (.ref b6), .unset, .unset, .unset, .unset, .unset] [])) _
    refine XS.aload X7.here hx rfl (hb hby at_66) rfl rfl ?_
    show Steps p.tables e below (T7.setTop (mkF m 68 #[.val (.int p1), .val (.int p2), .val (.int p3), .val (.long q4), .second, .val (.long q5), .second, .val (.int (Int32.ofNat N)), .val (.int (Int32.ofNat K)), .val (.int (Int32.ofNat I)), .val (.int (Int32.ofNat J)), .val (.int (Int32.ofNat Q)), .val (.ref b6), .unset, .unset, .unset, .unset, .unset] [(.ref b6)])) _
    refine XS.iload X7.here hx rfl (hb hby at_68) rfl ?_
    show Steps p.tables e below (T7.setTop (mkF m 70 #[.val (.int p1), .val (.int p2), .val (.int p3), .val (.long q4), .second, .val (.long q5), .second, .val (.int (Int32.ofNat N)), .val (.int (Int32.ofNat K)), .val (.int (Int32.ofNat I)), .val (.int (Int32.ofNat J)), .val (.int (Int32.ofNat Q)), .val (.ref b6), .unset, .unset, .unset, .unset, .unset] [(.int (Int32.ofNat Q)), (.ref b6)])) _
    refine XS.i2l X7.here hx rfl (hb hby at_70) rfl ?_
    show Steps p.tables e below (T7.setTop (mkF m 71 #[.val (.int p1), .val (.int p2), .val (.int p3), .val (.long q4), .second, .val (.long q5), .second, .val (.int (Int32.ofNat N)), .val (.int (Int32.ofNat K)), .val (.int (Int32.ofNat I)), .val (.int (Int32.ofNat J)), .val (.int (Int32.ofNat Q)), .val (.ref b6), .unset, .unset, .unset, .unset, .unset] [(.long ((Int32.ofNat Q).toInt64)), (.ref b6)])) _
    refine st8.trans ?_
    show Steps p.tables e below (T8.setTop (mkF m 74 #[.val (.int p1), .val (.int p2), .val (.int p3), .val (.long q4), .second, .val (.long q5), .second, .val (.int (Int32.ofNat N)), .val (.int (Int32.ofNat K)), .val (.int (Int32.ofNat I)), .val (.int (Int32.ofNat J)), .val (.int (Int32.ofNat Q)), .val (.ref b6), .unset, .unset, .unset, .unset, .unset] [(.long ((fun _ => (0 : Int64)) Q))])) _
    refine XS.lconst X8.here hx rfl (hb hby at_74) ?_
    show Steps p.tables e below (T8.setTop (mkF m 75 #[.val (.int p1), .val (.int p2), .val (.int p3), .val (.long q4), .second, .val (.long q5), .second, .val (.int (Int32.ofNat N)), .val (.int (Int32.ofNat K)), .val (.int (Int32.ofNat I)), .val (.int (Int32.ofNat J)), .val (.int (Int32.ofNat Q)), .val (.ref b6), .unset, .unset, .unset, .unset, .unset] [(.long (0 : Int64)), (.long ((fun _ => (0 : Int64)) Q))])) _
    refine XS.lcmp X8.here hx rfl (hb hby at_75) rfl ?_
    show Steps p.tables e below (T8.setTop (mkF m 76 #[.val (.int p1), .val (.int p2), .val (.int p3), .val (.long q4), .second, .val (.long q5), .second, .val (.int (Int32.ofNat N)), .val (.int (Int32.ofNat K)), .val (.int (Int32.ofNat I)), .val (.int (Int32.ofNat J)), .val (.int (Int32.ofNat Q)), .val (.ref b6), .unset, .unset, .unset, .unset, .unset] [(.int (lcmpW ((fun _ => (0 : Int64)) Q) (0 : Int64)))])) _
    refine XS.ifNo X8.here hx rfl (hb hby at_76) rfl ((if0 _ _).trans (teq (own_lc rfl : (lcmpW ((fun _ => (0 : Int64)) Q) (0 : Int64)) = (0 : Int32))).2) ?_
    show Steps p.tables e below (T8.setTop (mkF m 79 #[.val (.int p1), .val (.int p2), .val (.int p3), .val (.long q4), .second, .val (.long q5), .second, .val (.int (Int32.ofNat N)), .val (.int (Int32.ofNat K)), .val (.int (Int32.ofNat I)), .val (.int (Int32.ofNat J)), .val (.int (Int32.ofNat Q)), .val (.ref b6), .unset, .unset, .unset, .unset, .unset] [])) _
    refine XS.iconst X8.here hx rfl (hb hby at_79) ?_
    show Steps p.tables e below (T8.setTop (mkF m 80 #[.val (.int p1), .val (.int p2), .val (.int p3), .val (.long q4), .second, .val (.long q5), .second, .val (.int (Int32.ofNat N)), .val (.int (Int32.ofNat K)), .val (.int (Int32.ofNat I)), .val (.int (Int32.ofNat J)), .val (.int (Int32.ofNat Q)), .val (.ref b6), .unset, .unset, .unset, .unset, .unset] [(.int (1 : Int32))])) _
    refine XS.goto X8.here hx rfl (pc0 := 80) (pc' := 84) rfl (hb hby at_80) (by decide) (by decide) ?_
    show Steps p.tables e below (T8.setTop (mkF m 84 #[.val (.int p1), .val (.int p2), .val (.int p3), .val (.long q4), .second, .val (.long q5), .second, .val (.int (Int32.ofNat N)), .val (.int (Int32.ofNat K)), .val (.int (Int32.ofNat I)), .val (.int (Int32.ofNat J)), .val (.int (Int32.ofNat Q)), .val (.ref b6), .unset, .unset, .unset, .unset, .unset] [(.int (1 : Int32))])) _
    refine XS.istore X8.here hx rfl (hb hby at_84) rfl (l' := #[.val (.int p1), .val (.int p2), .val (.int p3), .val (.long q4), .second, .val (.long q5), .second, .val (.int (Int32.ofNat N)), .val (.int (Int32.ofNat K)), .val (.int (Int32.ofNat I)), .val (.int (Int32.ofNat J)), .val (.int (Int32.ofNat Q)), .val (.ref b6), .val (.int (1 : Int32)), .unset, .unset, .unset, .unset]) rfl ?_
    show Steps p.tables e below (T8.setTop (mkF m 86 #[.val (.int p1), .val (.int p2), .val (.int p3), .val (.long q4), .second, .val (.long q5), .second, .val (.int (Int32.ofNat N)), .val (.int (Int32.ofNat K)), .val (.int (Int32.ofNat I)), .val (.int (Int32.ofNat J)), .val (.int (Int32.ofNat Q)), .val (.ref b6), .val (.int (1 : Int32)), .unset, .unset, .unset, .unset] [])) _
    refine XS.aload X8.here hx rfl (hb hby at_86) rfl rfl ?_
    show Steps p.tables e below (T8.setTop (mkF m 88 #[.val (.int p1), .val (.int p2), .val (.int p3), .val (.long q4), .second, .val (.long q5), .second, .val (.int (Int32.ofNat N)), .val (.int (Int32.ofNat K)), .val (.int (Int32.ofNat I)), .val (.int (Int32.ofNat J)), .val (.int (Int32.ofNat Q)), .val (.ref b6), .val (.int (1 : Int32)), .unset, .unset, .unset, .unset] [(.ref b6)])) _
    refine XS.iload X8.here hx rfl (hb hby at_88) rfl ?_
    show Steps p.tables e below (T8.setTop (mkF m 90 #[.val (.int p1), .val (.int p2), .val (.int p3), .val (.long q4), .second, .val (.long q5), .second, .val (.int (Int32.ofNat N)), .val (.int (Int32.ofNat K)), .val (.int (Int32.ofNat I)), .val (.int (Int32.ofNat J)), .val (.int (Int32.ofNat Q)), .val (.ref b6), .val (.int (1 : Int32)), .unset, .unset, .unset, .unset] [(.int (Int32.ofNat I)), (.ref b6)])) _
    refine XS.i2l X8.here hx rfl (hb hby at_90) rfl ?_
    show Steps p.tables e below (T8.setTop (mkF m 91 #[.val (.int p1), .val (.int p2), .val (.int p3), .val (.long q4), .second, .val (.long q5), .second, .val (.int (Int32.ofNat N)), .val (.int (Int32.ofNat K)), .val (.int (Int32.ofNat I)), .val (.int (Int32.ofNat J)), .val (.int (Int32.ofNat Q)), .val (.ref b6), .val (.int (1 : Int32)), .unset, .unset, .unset, .unset] [(.long ((Int32.ofNat I).toInt64)), (.ref b6)])) _
    refine XS.lloadN X8.here hx rfl (hb hby at_91) rfl ?_
    show Steps p.tables e below (T8.setTop (mkF m 92 #[.val (.int p1), .val (.int p2), .val (.int p3), .val (.long q4), .second, .val (.long q5), .second, .val (.int (Int32.ofNat N)), .val (.int (Int32.ofNat K)), .val (.int (Int32.ofNat I)), .val (.int (Int32.ofNat J)), .val (.int (Int32.ofNat Q)), .val (.ref b6), .val (.int (1 : Int32)), .unset, .unset, .unset, .unset] [(.long q4), (.long ((Int32.ofNat I).toInt64)), (.ref b6)])) _
    refine st9.trans ?_
    show Steps p.tables e below (T9.setTop (mkF m 95 #[.val (.int p1), .val (.int p2), .val (.int p3), .val (.long q4), .second, .val (.long q5), .second, .val (.int (Int32.ofNat N)), .val (.int (Int32.ofNat K)), .val (.int (Int32.ofNat I)), .val (.int (Int32.ofNat J)), .val (.int (Int32.ofNat Q)), .val (.ref b6), .val (.int (1 : Int32)), .unset, .unset, .unset, .unset] [])) _
    refine XS.aload X9.here hx rfl (hb hby at_95) rfl rfl ?_
    show Steps p.tables e below (T9.setTop (mkF m 97 #[.val (.int p1), .val (.int p2), .val (.int p3), .val (.long q4), .second, .val (.long q5), .second, .val (.int (Int32.ofNat N)), .val (.int (Int32.ofNat K)), .val (.int (Int32.ofNat I)), .val (.int (Int32.ofNat J)), .val (.int (Int32.ofNat Q)), .val (.ref b6), .val (.int (1 : Int32)), .unset, .unset, .unset, .unset] [(.ref b6)])) _
    refine XS.iload X9.here hx rfl (hb hby at_97) rfl ?_
    show Steps p.tables e below (T9.setTop (mkF m 99 #[.val (.int p1), .val (.int p2), .val (.int p3), .val (.long q4), .second, .val (.long q5), .second, .val (.int (Int32.ofNat N)), .val (.int (Int32.ofNat K)), .val (.int (Int32.ofNat I)), .val (.int (Int32.ofNat J)), .val (.int (Int32.ofNat Q)), .val (.ref b6), .val (.int (1 : Int32)), .unset, .unset, .unset, .unset] [(.int (Int32.ofNat J)), (.ref b6)])) _
    refine XS.i2l X9.here hx rfl (hb hby at_99) rfl ?_
    show Steps p.tables e below (T9.setTop (mkF m 100 #[.val (.int p1), .val (.int p2), .val (.int p3), .val (.long q4), .second, .val (.long q5), .second, .val (.int (Int32.ofNat N)), .val (.int (Int32.ofNat K)), .val (.int (Int32.ofNat I)), .val (.int (Int32.ofNat J)), .val (.int (Int32.ofNat Q)), .val (.ref b6), .val (.int (1 : Int32)), .unset, .unset, .unset, .unset] [(.long ((Int32.ofNat J).toInt64)), (.ref b6)])) _
    refine XS.lload X9.here hx rfl (hb hby at_100) rfl ?_
    show Steps p.tables e below (T9.setTop (mkF m 102 #[.val (.int p1), .val (.int p2), .val (.int p3), .val (.long q4), .second, .val (.long q5), .second, .val (.int (Int32.ofNat N)), .val (.int (Int32.ofNat K)), .val (.int (Int32.ofNat I)), .val (.int (Int32.ofNat J)), .val (.int (Int32.ofNat Q)), .val (.ref b6), .val (.int (1 : Int32)), .unset, .unset, .unset, .unset] [(.long q5), (.long ((Int32.ofNat J).toInt64)), (.ref b6)])) _
    refine st10.trans ?_
    show Steps p.tables e below (T10.setTop (mkF m 105 #[.val (.int p1), .val (.int p2), .val (.int p3), .val (.long q4), .second, .val (.long q5), .second, .val (.int (Int32.ofNat N)), .val (.int (Int32.ofNat K)), .val (.int (Int32.ofNat I)), .val (.int (Int32.ofNat J)), .val (.int (Int32.ofNat Q)), .val (.ref b6), .val (.int (1 : Int32)), .unset, .unset, .unset, .unset] [])) _
    refine XS.iload X10.here hx rfl (hb hby at_105) rfl ?_
    show Steps p.tables e below (T10.setTop (mkF m 107 #[.val (.int p1), .val (.int p2), .val (.int p3), .val (.long q4), .second, .val (.long q5), .second, .val (.int (Int32.ofNat N)), .val (.int (Int32.ofNat K)), .val (.int (Int32.ofNat I)), .val (.int (Int32.ofNat J)), .val (.int (Int32.ofNat Q)), .val (.ref b6), .val (.int (1 : Int32)), .unset, .unset, .unset, .unset] [(.int (Int32.ofNat I))])) _
    refine XS.iload X10.here hx rfl (hb hby at_107) rfl ?_
    show Steps p.tables e below (T10.setTop (mkF m 109 #[.val (.int p1), .val (.int p2), .val (.int p3), .val (.long q4), .second, .val (.long q5), .second, .val (.int (Int32.ofNat N)), .val (.int (Int32.ofNat K)), .val (.int (Int32.ofNat I)), .val (.int (Int32.ofNat J)), .val (.int (Int32.ofNat Q)), .val (.ref b6), .val (.int (1 : Int32)), .unset, .unset, .unset, .unset] [(.int (Int32.ofNat J)), (.int (Int32.ofNat I))])) _
    refine XS.icmpNo X10.here hx rfl (hb hby at_109) rfl (teq hc109).2 ?_
    show Steps p.tables e below (T10.setTop (mkF m 112 #[.val (.int p1), .val (.int p2), .val (.int p3), .val (.long q4), .second, .val (.long q5), .second, .val (.int (Int32.ofNat N)), .val (.int (Int32.ofNat K)), .val (.int (Int32.ofNat I)), .val (.int (Int32.ofNat J)), .val (.int (Int32.ofNat Q)), .val (.ref b6), .val (.int (1 : Int32)), .unset, .unset, .unset, .unset] [])) _
    refine XS.lload X10.here hx rfl (hb hby at_112) rfl ?_
    show Steps p.tables e below (T10.setTop (mkF m 114 #[.val (.int p1), .val (.int p2), .val (.int p3), .val (.long q4), .second, .val (.long q5), .second, .val (.int (Int32.ofNat N)), .val (.int (Int32.ofNat K)), .val (.int (Int32.ofNat I)), .val (.int (Int32.ofNat J)), .val (.int (Int32.ofNat Q)), .val (.ref b6), .val (.int (1 : Int32)), .unset, .unset, .unset, .unset] [(.long q5)])) _
    refine XS.goto X10.here hx rfl (pc0 := 114) (pc' := 118) rfl (hb hby at_114) (by decide) (by decide) ?_
    show Steps p.tables e below (T10.setTop (mkF m 118 #[.val (.int p1), .val (.int p2), .val (.int p3), .val (.long q4), .second, .val (.long q5), .second, .val (.int (Int32.ofNat N)), .val (.int (Int32.ofNat K)), .val (.int (Int32.ofNat I)), .val (.int (Int32.ofNat J)), .val (.int (Int32.ofNat Q)), .val (.ref b6), .val (.int (1 : Int32)), .unset, .unset, .unset, .unset] [(.long q5)])) _
    refine XS.lstore X10.here hx rfl (hb hby at_118) rfl (l' := #[.val (.int p1), .val (.int p2), .val (.int p3), .val (.long q4), .second, .val (.long q5), .second, .val (.int (Int32.ofNat N)), .val (.int (Int32.ofNat K)), .val (.int (Int32.ofNat I)), .val (.int (Int32.ofNat J)), .val (.int (Int32.ofNat Q)), .val (.ref b6), .val (.int (1 : Int32)), .val (.long q5), .second, .unset, .unset]) rfl ?_
    show Steps p.tables e below (T10.setTop (mkF m 120 #[.val (.int p1), .val (.int p2), .val (.int p3), .val (.long q4), .second, .val (.long q5), .second, .val (.int (Int32.ofNat N)), .val (.int (Int32.ofNat K)), .val (.int (Int32.ofNat I)), .val (.int (Int32.ofNat J)), .val (.int (Int32.ofNat Q)), .val (.ref b6), .val (.int (1 : Int32)), .val (.long q5), .second, .unset, .unset] [])) _
    refine XS.iload X10.here hx rfl (hb hby at_120) rfl ?_
    show Steps p.tables e below (T10.setTop (mkF m 122 #[.val (.int p1), .val (.int p2), .val (.int p3), .val (.long q4), .second, .val (.long q5), .second, .val (.int (Int32.ofNat N)), .val (.int (Int32.ofNat K)), .val (.int (Int32.ofNat I)), .val (.int (Int32.ofNat J)), .val (.int (Int32.ofNat Q)), .val (.ref b6), .val (.int (1 : Int32)), .val (.long q5), .second, .unset, .unset] [(.int (Int32.ofNat Q))])) _
    refine XS.iload X10.here hx rfl (hb hby at_122) rfl ?_
    show Steps p.tables e below (T10.setTop (mkF m 124 #[.val (.int p1), .val (.int p2), .val (.int p3), .val (.long q4), .second, .val (.long q5), .second, .val (.int (Int32.ofNat N)), .val (.int (Int32.ofNat K)), .val (.int (Int32.ofNat I)), .val (.int (Int32.ofNat J)), .val (.int (Int32.ofNat Q)), .val (.ref b6), .val (.int (1 : Int32)), .val (.long q5), .second, .unset, .unset] [(.int (Int32.ofNat J)), (.int (Int32.ofNat Q))])) _
    refine XS.icmpYes X10.here hx rfl (pc0 := 124) (pc' := 132) rfl (hb hby at_124) rfl (feq hc124).2 (by decide) (by decide) ?_
    show Steps p.tables e below (T10.setTop (mkF m 132 #[.val (.int p1), .val (.int p2), .val (.int p3), .val (.long q4), .second, .val (.long q5), .second, .val (.int (Int32.ofNat N)), .val (.int (Int32.ofNat K)), .val (.int (Int32.ofNat I)), .val (.int (Int32.ofNat J)), .val (.int (Int32.ofNat Q)), .val (.ref b6), .val (.int (1 : Int32)), .val (.long q5), .second, .unset, .unset] [])) _
    refine XS.iload X10.here hx rfl (hb hby at_132) rfl ?_
    show Steps p.tables e below (T10.setTop (mkF m 134 #[.val (.int p1), .val (.int p2), .val (.int p3), .val (.long q4), .second, .val (.long q5), .second, .val (.int (Int32.ofNat N)), .val (.int (Int32.ofNat K)), .val (.int (Int32.ofNat I)), .val (.int (Int32.ofNat J)), .val (.int (Int32.ofNat Q)), .val (.ref b6), .val (.int (1 : Int32)), .val (.long q5), .second, .unset, .unset] [(.int (Int32.ofNat Q))])) _
    refine XS.iload X10.here hx rfl (hb hby at_134) rfl ?_
    show Steps p.tables e below (T10.setTop (mkF m 136 #[.val (.int p1), .val (.int p2), .val (.int p3), .val (.long q4), .second, .val (.long q5), .second, .val (.int (Int32.ofNat N)), .val (.int (Int32.ofNat K)), .val (.int (Int32.ofNat I)), .val (.int (Int32.ofNat J)), .val (.int (Int32.ofNat Q)), .val (.ref b6), .val (.int (1 : Int32)), .val (.long q5), .second, .unset, .unset] [(.int (Int32.ofNat I)), (.int (Int32.ofNat Q))])) _
    refine XS.icmpYes X10.here hx rfl (pc0 := 136) (pc' := 143) rfl (hb hby at_136) rfl (feq hc136).2 (by decide) (by decide) ?_
    show Steps p.tables e below (T10.setTop (mkF m 143 #[.val (.int p1), .val (.int p2), .val (.int p3), .val (.long q4), .second, .val (.long q5), .second, .val (.int (Int32.ofNat N)), .val (.int (Int32.ofNat K)), .val (.int (Int32.ofNat I)), .val (.int (Int32.ofNat J)), .val (.int (Int32.ofNat Q)), .val (.ref b6), .val (.int (1 : Int32)), .val (.long q5), .second, .unset, .unset] [])) _
    refine XS.lconst X10.here hx rfl (hb hby at_143) ?_
    show Steps p.tables e below (T10.setTop (mkF m 144 #[.val (.int p1), .val (.int p2), .val (.int p3), .val (.long q4), .second, .val (.long q5), .second, .val (.int (Int32.ofNat N)), .val (.int (Int32.ofNat K)), .val (.int (Int32.ofNat I)), .val (.int (Int32.ofNat J)), .val (.int (Int32.ofNat Q)), .val (.ref b6), .val (.int (1 : Int32)), .val (.long q5), .second, .unset, .unset] [(.long (0 : Int64))])) _
    refine XS.lstore X10.here hx rfl (hb hby at_144) rfl (l' := #[.val (.int p1), .val (.int p2), .val (.int p3), .val (.long q4), .second, .val (.long q5), .second, .val (.int (Int32.ofNat N)), .val (.int (Int32.ofNat K)), .val (.int (Int32.ofNat I)), .val (.int (Int32.ofNat J)), .val (.int (Int32.ofNat Q)), .val (.ref b6), .val (.int (1 : Int32)), .val (.long q5), .second, .val (.long (0 : Int64)), .second]) rfl ?_
    show Steps p.tables e below (T10.setTop (mkF m 146 #[.val (.int p1), .val (.int p2), .val (.int p3), .val (.long q4), .second, .val (.long q5), .second, .val (.int (Int32.ofNat N)), .val (.int (Int32.ofNat K)), .val (.int (Int32.ofNat I)), .val (.int (Int32.ofNat J)), .val (.int (Int32.ofNat Q)), .val (.ref b6), .val (.int (1 : Int32)), .val (.long q5), .second, .val (.long (0 : Int64)), .second] [])) _
    refine XS.iload X10.here hx rfl (hb hby at_146) rfl ?_
    show Steps p.tables e below (T10.setTop (mkF m 148 #[.val (.int p1), .val (.int p2), .val (.int p3), .val (.long q4), .second, .val (.long q5), .second, .val (.int (Int32.ofNat N)), .val (.int (Int32.ofNat K)), .val (.int (Int32.ofNat I)), .val (.int (Int32.ofNat J)), .val (.int (Int32.ofNat Q)), .val (.ref b6), .val (.int (1 : Int32)), .val (.long q5), .second, .val (.long (0 : Int64)), .second] [(.int (1 : Int32))])) _
    refine XS.ifNo X10.here hx rfl (hb hby at_148) rfl ((if0 _ _).trans (feq hc148).1) ?_
    show Steps p.tables e below (T10.setTop (mkF m 151 #[.val (.int p1), .val (.int p2), .val (.int p3), .val (.long q4), .second, .val (.long q5), .second, .val (.int (Int32.ofNat N)), .val (.int (Int32.ofNat K)), .val (.int (Int32.ofNat I)), .val (.int (Int32.ofNat J)), .val (.int (Int32.ofNat Q)), .val (.ref b6), .val (.int (1 : Int32)), .val (.long q5), .second, .val (.long (0 : Int64)), .second] [])) _
    refine XS.aload X10.here hx rfl (hb hby at_151) rfl rfl ?_
    show Steps p.tables e below (T10.setTop (mkF m 153 #[.val (.int p1), .val (.int p2), .val (.int p3), .val (.long q4), .second, .val (.long q5), .second, .val (.int (Int32.ofNat N)), .val (.int (Int32.ofNat K)), .val (.int (Int32.ofNat I)), .val (.int (Int32.ofNat J)), .val (.int (Int32.ofNat Q)), .val (.ref b6), .val (.int (1 : Int32)), .val (.long q5), .second, .val (.long (0 : Int64)), .second] [(.ref b6)])) _
    refine XS.iload X10.here hx rfl (hb hby at_153) rfl ?_
    show Steps p.tables e below (T10.setTop (mkF m 155 #[.val (.int p1), .val (.int p2), .val (.int p3), .val (.long q4), .second, .val (.long q5), .second, .val (.int (Int32.ofNat N)), .val (.int (Int32.ofNat K)), .val (.int (Int32.ofNat I)), .val (.int (Int32.ofNat J)), .val (.int (Int32.ofNat Q)), .val (.ref b6), .val (.int (1 : Int32)), .val (.long q5), .second, .val (.long (0 : Int64)), .second] [(.int (Int32.ofNat I)), (.ref b6)])) _
    refine XS.i2l X10.here hx rfl (hb hby at_155) rfl ?_
    show Steps p.tables e below (T10.setTop (mkF m 156 #[.val (.int p1), .val (.int p2), .val (.int p3), .val (.long q4), .second, .val (.long q5), .second, .val (.int (Int32.ofNat N)), .val (.int (Int32.ofNat K)), .val (.int (Int32.ofNat I)), .val (.int (Int32.ofNat J)), .val (.int (Int32.ofNat Q)), .val (.ref b6), .val (.int (1 : Int32)), .val (.long q5), .second, .val (.long (0 : Int64)), .second] [(.long ((Int32.ofNat I).toInt64)), (.ref b6)])) _
    refine st11.trans ?_
    show Steps p.tables e below (T11.setTop (mkF m 159 #[.val (.int p1), .val (.int p2), .val (.int p3), .val (.long q4), .second, .val (.long q5), .second, .val (.int (Int32.ofNat N)), .val (.int (Int32.ofNat K)), .val (.int (Int32.ofNat I)), .val (.int (Int32.ofNat J)), .val (.int (Int32.ofNat Q)), .val (.ref b6), .val (.int (1 : Int32)), .val (.long q5), .second, .val (.long (0 : Int64)), .second] [(.long ((upd (upd (fun _ => (0 : Int64)) I q4) J q5) I))])) _
    refine XS.lload X11.here hx rfl (hb hby at_159) rfl ?_
    show Steps p.tables e below (T11.setTop (mkF m 161 #[.val (.int p1), .val (.int p2), .val (.int p3), .val (.long q4), .second, .val (.long q5), .second, .val (.int (Int32.ofNat N)), .val (.int (Int32.ofNat K)), .val (.int (Int32.ofNat I)), .val (.int (Int32.ofNat J)), .val (.int (Int32.ofNat Q)), .val (.ref b6), .val (.int (1 : Int32)), .val (.long q5), .second, .val (.long (0 : Int64)), .second] [(.long q5), (.long ((upd (upd (fun _ => (0 : Int64)) I q4) J q5) I))])) _
    refine XS.lcmp X11.here hx rfl (hb hby at_161) rfl ?_
    show Steps p.tables e below (T11.setTop (mkF m 162 #[.val (.int p1), .val (.int p2), .val (.int p3), .val (.long q4), .second, .val (.long q5), .second, .val (.int (Int32.ofNat N)), .val (.int (Int32.ofNat K)), .val (.int (Int32.ofNat I)), .val (.int (Int32.ofNat J)), .val (.int (Int32.ofNat Q)), .val (.ref b6), .val (.int (1 : Int32)), .val (.long q5), .second, .val (.long (0 : Int64)), .second] [(.int (lcmpW ((upd (upd (fun _ => (0 : Int64)) I q4) J q5) I) q5))])) _
    refine XS.ifNo X11.here hx rfl (hb hby at_162) rfl ((if0 _ _).trans (teq (own_lc (by simp [upd, hIJ]) : (lcmpW ((upd (upd (fun _ => (0 : Int64)) I q4) J q5) I) q5) = (0 : Int32))).2) ?_
    show Steps p.tables e below (T11.setTop (mkF m 165 #[.val (.int p1), .val (.int p2), .val (.int p3), .val (.long q4), .second, .val (.long q5), .second, .val (.int (Int32.ofNat N)), .val (.int (Int32.ofNat K)), .val (.int (Int32.ofNat I)), .val (.int (Int32.ofNat J)), .val (.int (Int32.ofNat Q)), .val (.ref b6), .val (.int (1 : Int32)), .val (.long q5), .second, .val (.long (0 : Int64)), .second] [])) _
    refine XS.aload X11.here hx rfl (hb hby at_165) rfl rfl ?_
    show Steps p.tables e below (T11.setTop (mkF m 167 #[.val (.int p1), .val (.int p2), .val (.int p3), .val (.long q4), .second, .val (.long q5), .second, .val (.int (Int32.ofNat N)), .val (.int (Int32.ofNat K)), .val (.int (Int32.ofNat I)), .val (.int (Int32.ofNat J)), .val (.int (Int32.ofNat Q)), .val (.ref b6), .val (.int (1 : Int32)), .val (.long q5), .second, .val (.long (0 : Int64)), .second] [(.ref b6)])) _
    refine XS.iload X11.here hx rfl (hb hby at_167) rfl ?_
    show Steps p.tables e below (T11.setTop (mkF m 169 #[.val (.int p1), .val (.int p2), .val (.int p3), .val (.long q4), .second, .val (.long q5), .second, .val (.int (Int32.ofNat N)), .val (.int (Int32.ofNat K)), .val (.int (Int32.ofNat I)), .val (.int (Int32.ofNat J)), .val (.int (Int32.ofNat Q)), .val (.ref b6), .val (.int (1 : Int32)), .val (.long q5), .second, .val (.long (0 : Int64)), .second] [(.int (Int32.ofNat J)), (.ref b6)])) _
    refine XS.i2l X11.here hx rfl (hb hby at_169) rfl ?_
    show Steps p.tables e below (T11.setTop (mkF m 170 #[.val (.int p1), .val (.int p2), .val (.int p3), .val (.long q4), .second, .val (.long q5), .second, .val (.int (Int32.ofNat N)), .val (.int (Int32.ofNat K)), .val (.int (Int32.ofNat I)), .val (.int (Int32.ofNat J)), .val (.int (Int32.ofNat Q)), .val (.ref b6), .val (.int (1 : Int32)), .val (.long q5), .second, .val (.long (0 : Int64)), .second] [(.long ((Int32.ofNat J).toInt64)), (.ref b6)])) _
    refine st12.trans ?_
    show Steps p.tables e below (T12.setTop (mkF m 173 #[.val (.int p1), .val (.int p2), .val (.int p3), .val (.long q4), .second, .val (.long q5), .second, .val (.int (Int32.ofNat N)), .val (.int (Int32.ofNat K)), .val (.int (Int32.ofNat I)), .val (.int (Int32.ofNat J)), .val (.int (Int32.ofNat Q)), .val (.ref b6), .val (.int (1 : Int32)), .val (.long q5), .second, .val (.long (0 : Int64)), .second] [(.long ((upd (upd (fun _ => (0 : Int64)) I q4) J q5) J))])) _
    refine XS.lload X12.here hx rfl (hb hby at_173) rfl ?_
    show Steps p.tables e below (T12.setTop (mkF m 175 #[.val (.int p1), .val (.int p2), .val (.int p3), .val (.long q4), .second, .val (.long q5), .second, .val (.int (Int32.ofNat N)), .val (.int (Int32.ofNat K)), .val (.int (Int32.ofNat I)), .val (.int (Int32.ofNat J)), .val (.int (Int32.ofNat Q)), .val (.ref b6), .val (.int (1 : Int32)), .val (.long q5), .second, .val (.long (0 : Int64)), .second] [(.long q5), (.long ((upd (upd (fun _ => (0 : Int64)) I q4) J q5) J))])) _
    refine XS.lcmp X12.here hx rfl (hb hby at_175) rfl ?_
    show Steps p.tables e below (T12.setTop (mkF m 176 #[.val (.int p1), .val (.int p2), .val (.int p3), .val (.long q4), .second, .val (.long q5), .second, .val (.int (Int32.ofNat N)), .val (.int (Int32.ofNat K)), .val (.int (Int32.ofNat I)), .val (.int (Int32.ofNat J)), .val (.int (Int32.ofNat Q)), .val (.ref b6), .val (.int (1 : Int32)), .val (.long q5), .second, .val (.long (0 : Int64)), .second] [(.int (lcmpW ((upd (upd (fun _ => (0 : Int64)) I q4) J q5) J) q5))])) _
    refine XS.ifNo X12.here hx rfl (hb hby at_176) rfl ((if0 _ _).trans (teq (own_lc (by simp [upd]) : (lcmpW ((upd (upd (fun _ => (0 : Int64)) I q4) J q5) J) q5) = (0 : Int32))).2) ?_
    show Steps p.tables e below (T12.setTop (mkF m 179 #[.val (.int p1), .val (.int p2), .val (.int p3), .val (.long q4), .second, .val (.long q5), .second, .val (.int (Int32.ofNat N)), .val (.int (Int32.ofNat K)), .val (.int (Int32.ofNat I)), .val (.int (Int32.ofNat J)), .val (.int (Int32.ofNat Q)), .val (.ref b6), .val (.int (1 : Int32)), .val (.long q5), .second, .val (.long (0 : Int64)), .second] [])) _
    refine XS.aload X12.here hx rfl (hb hby at_179) rfl rfl ?_
    show Steps p.tables e below (T12.setTop (mkF m 181 #[.val (.int p1), .val (.int p2), .val (.int p3), .val (.long q4), .second, .val (.long q5), .second, .val (.int (Int32.ofNat N)), .val (.int (Int32.ofNat K)), .val (.int (Int32.ofNat I)), .val (.int (Int32.ofNat J)), .val (.int (Int32.ofNat Q)), .val (.ref b6), .val (.int (1 : Int32)), .val (.long q5), .second, .val (.long (0 : Int64)), .second] [(.ref b6)])) _
    refine XS.iload X12.here hx rfl (hb hby at_181) rfl ?_
    show Steps p.tables e below (T12.setTop (mkF m 183 #[.val (.int p1), .val (.int p2), .val (.int p3), .val (.long q4), .second, .val (.long q5), .second, .val (.int (Int32.ofNat N)), .val (.int (Int32.ofNat K)), .val (.int (Int32.ofNat I)), .val (.int (Int32.ofNat J)), .val (.int (Int32.ofNat Q)), .val (.ref b6), .val (.int (1 : Int32)), .val (.long q5), .second, .val (.long (0 : Int64)), .second] [(.int (Int32.ofNat Q)), (.ref b6)])) _
    refine XS.i2l X12.here hx rfl (hb hby at_183) rfl ?_
    show Steps p.tables e below (T12.setTop (mkF m 184 #[.val (.int p1), .val (.int p2), .val (.int p3), .val (.long q4), .second, .val (.long q5), .second, .val (.int (Int32.ofNat N)), .val (.int (Int32.ofNat K)), .val (.int (Int32.ofNat I)), .val (.int (Int32.ofNat J)), .val (.int (Int32.ofNat Q)), .val (.ref b6), .val (.int (1 : Int32)), .val (.long q5), .second, .val (.long (0 : Int64)), .second] [(.long ((Int32.ofNat Q).toInt64)), (.ref b6)])) _
    refine st13.trans ?_
    show Steps p.tables e below (T13.setTop (mkF m 187 #[.val (.int p1), .val (.int p2), .val (.int p3), .val (.long q4), .second, .val (.long q5), .second, .val (.int (Int32.ofNat N)), .val (.int (Int32.ofNat K)), .val (.int (Int32.ofNat I)), .val (.int (Int32.ofNat J)), .val (.int (Int32.ofNat Q)), .val (.ref b6), .val (.int (1 : Int32)), .val (.long q5), .second, .val (.long (0 : Int64)), .second] [(.long ((upd (upd (fun _ => (0 : Int64)) I q4) J q5) Q))])) _
    refine XS.lload X13.here hx rfl (hb hby at_187) rfl ?_
    show Steps p.tables e below (T13.setTop (mkF m 189 #[.val (.int p1), .val (.int p2), .val (.int p3), .val (.long q4), .second, .val (.long q5), .second, .val (.int (Int32.ofNat N)), .val (.int (Int32.ofNat K)), .val (.int (Int32.ofNat I)), .val (.int (Int32.ofNat J)), .val (.int (Int32.ofNat Q)), .val (.ref b6), .val (.int (1 : Int32)), .val (.long q5), .second, .val (.long (0 : Int64)), .second] [(.long (0 : Int64)), (.long ((upd (upd (fun _ => (0 : Int64)) I q4) J q5) Q))])) _
    refine XS.lcmp X13.here hx rfl (hb hby at_189) rfl ?_
    show Steps p.tables e below (T13.setTop (mkF m 190 #[.val (.int p1), .val (.int p2), .val (.int p3), .val (.long q4), .second, .val (.long q5), .second, .val (.int (Int32.ofNat N)), .val (.int (Int32.ofNat K)), .val (.int (Int32.ofNat I)), .val (.int (Int32.ofNat J)), .val (.int (Int32.ofNat Q)), .val (.ref b6), .val (.int (1 : Int32)), .val (.long q5), .second, .val (.long (0 : Int64)), .second] [(.int (lcmpW ((upd (upd (fun _ => (0 : Int64)) I q4) J q5) Q) (0 : Int64)))])) _
    refine XS.ifNo X13.here hx rfl (hb hby at_190) rfl ((if0 _ _).trans (teq (own_lc (by simp [upd, hIJ, hQJ]) : (lcmpW ((upd (upd (fun _ => (0 : Int64)) I q4) J q5) Q) (0 : Int64)) = (0 : Int32))).2) ?_
    show Steps p.tables e below (T13.setTop (mkF m 193 #[.val (.int p1), .val (.int p2), .val (.int p3), .val (.long q4), .second, .val (.long q5), .second, .val (.int (Int32.ofNat N)), .val (.int (Int32.ofNat K)), .val (.int (Int32.ofNat I)), .val (.int (Int32.ofNat J)), .val (.int (Int32.ofNat Q)), .val (.ref b6), .val (.int (1 : Int32)), .val (.long q5), .second, .val (.long (0 : Int64)), .second] [])) _
    refine XS.aload X13.here hx rfl (hb hby at_193) rfl rfl ?_
    show Steps p.tables e below (T13.setTop (mkF m 195 #[.val (.int p1), .val (.int p2), .val (.int p3), .val (.long q4), .second, .val (.long q5), .second, .val (.int (Int32.ofNat N)), .val (.int (Int32.ofNat K)), .val (.int (Int32.ofNat I)), .val (.int (Int32.ofNat J)), .val (.int (Int32.ofNat Q)), .val (.ref b6), .val (.int (1 : Int32)), .val (.long q5), .second, .val (.long (0 : Int64)), .second] [(.ref b6)])) _
    refine st14.trans ?_
    show Steps p.tables e below (T14.setTop (mkF m 198 #[.val (.int p1), .val (.int p2), .val (.int p3), .val (.long q4), .second, .val (.long q5), .second, .val (.int (Int32.ofNat N)), .val (.int (Int32.ofNat K)), .val (.int (Int32.ofNat I)), .val (.int (Int32.ofNat J)), .val (.int (Int32.ofNat Q)), .val (.ref b6), .val (.int (1 : Int32)), .val (.long q5), .second, .val (.long (0 : Int64)), .second] [(.long (Int64.ofNat N))])) _
    refine XS.iload X14.here hx rfl (hb hby at_198) rfl ?_
    show Steps p.tables e below (T14.setTop (mkF m 200 #[.val (.int p1), .val (.int p2), .val (.int p3), .val (.long q4), .second, .val (.long q5), .second, .val (.int (Int32.ofNat N)), .val (.int (Int32.ofNat K)), .val (.int (Int32.ofNat I)), .val (.int (Int32.ofNat J)), .val (.int (Int32.ofNat Q)), .val (.ref b6), .val (.int (1 : Int32)), .val (.long q5), .second, .val (.long (0 : Int64)), .second] [(.int (Int32.ofNat N)), (.long (Int64.ofNat N))])) _
    refine XS.i2l X14.here hx rfl (hb hby at_200) rfl ?_
    show Steps p.tables e below (T14.setTop (mkF m 201 #[.val (.int p1), .val (.int p2), .val (.int p3), .val (.long q4), .second, .val (.long q5), .second, .val (.int (Int32.ofNat N)), .val (.int (Int32.ofNat K)), .val (.int (Int32.ofNat I)), .val (.int (Int32.ofNat J)), .val (.int (Int32.ofNat Q)), .val (.ref b6), .val (.int (1 : Int32)), .val (.long q5), .second, .val (.long (0 : Int64)), .second] [(.long ((Int32.ofNat N).toInt64)), (.long (Int64.ofNat N))])) _
    refine XS.lcmp X14.here hx rfl (hb hby at_201) rfl ?_
    show Steps p.tables e below (T14.setTop (mkF m 202 #[.val (.int p1), .val (.int p2), .val (.int p3), .val (.long q4), .second, .val (.long q5), .second, .val (.int (Int32.ofNat N)), .val (.int (Int32.ofNat K)), .val (.int (Int32.ofNat I)), .val (.int (Int32.ofNat J)), .val (.int (Int32.ofNat Q)), .val (.ref b6), .val (.int (1 : Int32)), .val (.long q5), .second, .val (.long (0 : Int64)), .second] [(.int (lcmpW (Int64.ofNat N) ((Int32.ofNat N).toInt64)))])) _
    refine XS.ifNo X14.here hx rfl (hb hby at_202) rfl ((if0 _ _).trans (teq (own_lc (own_l hN rfl).symm : (lcmpW (Int64.ofNat N) ((Int32.ofNat N).toInt64)) = (0 : Int32))).2) ?_
    show Steps p.tables e below (T14.setTop (mkF m 205 #[.val (.int p1), .val (.int p2), .val (.int p3), .val (.long q4), .second, .val (.long q5), .second, .val (.int (Int32.ofNat N)), .val (.int (Int32.ofNat K)), .val (.int (Int32.ofNat I)), .val (.int (Int32.ofNat J)), .val (.int (Int32.ofNat Q)), .val (.ref b6), .val (.int (1 : Int32)), .val (.long q5), .second, .val (.long (0 : Int64)), .second] [])) _
    refine XS.iconst X14.here hx rfl (hb hby at_205) ?_
    show Steps p.tables e below (T14.setTop (mkF m 206 #[.val (.int p1), .val (.int p2), .val (.int p3), .val (.long q4), .second, .val (.long q5), .second, .val (.int (Int32.ofNat N)), .val (.int (Int32.ofNat K)), .val (.int (Int32.ofNat I)), .val (.int (Int32.ofNat J)), .val (.int (Int32.ofNat Q)), .val (.ref b6), .val (.int (1 : Int32)), .val (.long q5), .second, .val (.long (0 : Int64)), .second] [(.int (1 : Int32))])) _
    refine XS.goto X14.here hx rfl (pc0 := 206) (pc' := 210) rfl (hb hby at_206) (by decide) (by decide) ?_
    show Steps p.tables e below (T14.setTop (mkF m 210 #[.val (.int p1), .val (.int p2), .val (.int p3), .val (.long q4), .second, .val (.long q5), .second, .val (.int (Int32.ofNat N)), .val (.int (Int32.ofNat K)), .val (.int (Int32.ofNat I)), .val (.int (Int32.ofNat J)), .val (.int (Int32.ofNat Q)), .val (.ref b6), .val (.int (1 : Int32)), .val (.long q5), .second, .val (.long (0 : Int64)), .second] [(.int (1 : Int32))])) _
    exact retN X14 hx (t := .boolean) Bd.returns (by simp) (hb hby at_210) hr
  · show Q0_b Z p1 p2 p3 q4 q5 N K I J Q h0 n0 _ T14.heap _
    exact ⟨rfl, N14⟩
def Q0_c (Z : State) (p1 : Int32) (p2 : Int32) (p3 : Int32) (q4 : Int64) (q5 : Int64) (N : Nat) (K : Nat) (I : Nat) (J : Nat) (Q : Nat) (h0 : Heap) (n0 : Nat) (v : Option Value) (h : Heap) (L : List Loc) : Prop := v = some (.int (1 : Int32)) ∧ Fr n0 L
set_option maxRecDepth 65536 in
set_option maxHeartbeats 40000000 in
theorem rm0_c (l : Launch) (Z : State) (a0 : Array Value) (hw : ∀ d ∈ tables_1, d.before a0 Z = true) (ws : List Jvm.Cond) (p1 : Int32) (p2 : Int32) (p3 : Int32) (q4 : Int64) (q5 : Int64) (N : Nat) (K : Nat) (I : Nat) (J : Nat) (Q : Nat) (h0 : Heap) (n0 : Nat) (Z0 : n0 ≤ h0.size) (hvN : ((1 : Int32) + (p1 &&& (15 : Int32))) = (Int32.ofNat N)) (hvK : ((p2 &&& (2147483647 : Int32)) % (5 : Int32)) = (Int32.ofNat K)) (hnz23 : ¬ ((Int32.ofNat N) = (0 : Int32))) (hvI : ((p3 &&& (255 : Int32)) % (Int32.ofNat N)) = (Int32.ofNat I)) (hnz36 : ¬ ((Int32.ofNat N) = (0 : Int32))) (hvJ : ((((p3.toUInt32 >>> ((8 : Int32) &&& 31).toUInt32).toInt32) &&& (255 : Int32)) % (Int32.ofNat N)) = (Int32.ofNat J)) (hnz49 : ¬ ((Int32.ofNat N) = (0 : Int32))) (hvQ : ((((p3.toUInt32 >>> ((16 : Int32) &&& 31).toUInt32).toInt32) &&& (255 : Int32)) % (Int32.ofNat N)) = (Int32.ofNat Q)) (hc109 : ¬ ((Int32.ofNat I) = (Int32.ofNat J))) (hc124 : (Int32.ofNat Q) = (Int32.ofNat J)) (hc148 : ¬ ((1 : Int32) = (0 : Int32))) (hN1 : 1 ≤ N) (hN : N ≤ 16) (hKK : K ≤ 4) (hI : I < N) (hJ : J < N) (hQ : Q < N) (hIJ : I ≠ J) (hQJ : Q = J) :
    MetFree l x (head1 (Jvm.Cond.code x code maxLocals ret :: ws) room_1) (fun a U => a = #[(.int p1), (.int p2), (.int p3), (.long q4), (.long q5)] ∧ Z.Warmed39 U.vm ∧ U.heap = h0) (fun _ _ _ _ _ => True) (fun _ U o U' => ∃ v L, o = .returned v ∧ Q0_c Z p1 p2 p3 q4 q5 N K I J Q h0 n0 v U'.heap L ∧ FrameEnd U o U' L room_1.cells room_1.slots) := by
  refine MetFree.of_bodySF (plainFor_of_name pn_0) hisR ?_
  intro p e s m args below meth c s₁ Bd hml0 hP hK
  obtain ⟨rfl, hZ, hh⟩ := hP
  have hx := Bd.exec
  have hby := Bd.bytes
  have hml : c.maxLocals = 18 := hml0
  have hown : s.vm.findClass "com/example/cowbird/cowbird/table/WordsGetPinLaw" = some m.cls := findClass_of_methodNamed Bd.named
  have hnm := (name_of_methodNamed Bd.named Bd.method).1
  have X0 : Stand p l e room_1 s m #[(.int p1), (.int p2), (.int p3), (.long q4), (.long q5)] below meth c s₁ [] 0 0 := Stand.of_body Bd
  have e0 : s₁.heap = h0 := by rw [← hh, Bd.state]; rfl
  have N0 := Fr.nil n0
  have pre0 : ∀ t, Steps p.tables e below (s₁.setTop (mkF m 0 #[.val (.int p1), .val (.int p2), .val (.int p3), .val (.long q4), .second, .val (.long q5), .second, .unset, .unset, .unset, .unset, .unset, .unset, .unset, .unset, .unset, .unset, .unset] [])) t → Steps p.tables e below (s₁.setTop (entryFrame m #[(.int p1), (.int p2), (.int p3), (.long q4), (.long q5)] maxLocals)) t := fun t k => castTop (ef_0 m p1 p2 p3 q4 q5) k

  obtain ⟨T6, h6, X6, e6, E6, A6, D6, -, st6⟩ := newO X0 hx hZ hown (hw _ (List.mem_of_getElem? (i := 1) rfl)) (hw _ (List.mem_of_getElem? (i := 2) rfl)) (hw _ (List.mem_of_getElem? (i := 3) rfl)) e0 (g := (mkF m 52 #[.val (.int p1), .val (.int p2), .val (.int p3), .val (.long q4), .second, .val (.long q5), .second, .val (.int (Int32.ofNat N)), .val (.int (Int32.ofNat K)), .val (.int (Int32.ofNat I)), .val (.int (Int32.ofNat J)), .val (.int (Int32.ofNat Q)), .unset, .unset, .unset, .unset, .unset, .unset] [])) rfl (hb hby at_52) (by decide) (by decide)
  obtain ⟨b6, g6⟩ : ∃ z, z = h0.size := ⟨_, rfl⟩
  rw [← g6] at A6 D6 st6
  have F_pages_b6 : Fld Z h6 b6 "com/example/cowbird/cowbird/table/Words" "pages" "[[J" .null := D6 (Or.inr (hw _ (List.mem_of_getElem? (i := 19) rfl))) (ty := (.array (.array .long))) (by decide)
  have F_pageShift_b6 : Fld Z h6 b6 "com/example/cowbird/cowbird/table/Words" "pageShift" "I" (.int (0 : Int32)) := D6 (Or.inr (hw _ (List.mem_of_getElem? (i := 21) rfl))) (ty := .int) (by decide)
  have F_pageMask_b6 : Fld Z h6 b6 "com/example/cowbird/cowbird/table/Words" "pageMask" "J" (.long (0 : Int64)) := D6 (Or.inr (hw _ (List.mem_of_getElem? (i := 23) rfl))) (ty := .long) (by decide)
  have F_length_b6 : Fld Z h6 b6 "com/example/cowbird/cowbird/table/Words" "length" "J" (.long (0 : Int64)) := D6 (Or.inr (hw _ (List.mem_of_getElem? (i := 25) rfl))) (ty := .long) (by decide)
  have E_b6 := A6
  have g_b6 : n0 ≤ b6 := Nat.le_trans Z0 (Nat.le_of_eq g6.symm)
  have sz_b6 : h0.size ≤ b6 := (Nat.le_trans (Keep.refl h0 []).1 (Nat.le_of_eq g6.symm))
  have K6 : Keep h0 h6 [] := (Keep.refl h0 []).ext E6

  obtain ⟨_, _, ⟨T7, L7, k7, n7⟩, -, X7, ⟨Lc7, hQ7, l7, y7, z7⟩, st7⟩ := X6.specialBack hx (y := (⟨"com/example/cowbird/cowbird/table/Words", "<init>", "(JI)V"⟩ : MethodName)) rfl hown (mvT hZ (hw _ (List.mem_of_getElem? (i := 4) rfl))) (mvT hZ (hw _ (List.mem_of_getElem? (i := 5) rfl))) (mvT hZ (hw _ (List.mem_of_getElem? (i := 6) rfl))) (by decide) (backOf (W := 1) (rm1 l Z a0 hw [] b6 ((Int32.ofNat N).toInt64) (Int32.ofNat K) N K hN1 hN hKK (own_l hN rfl) rfl h6 n0 (Nat.le_trans Z0 E6.1) E_b6 F_pages_b6 F_pageShift_b6 F_pageMask_b6 F_length_b6 g_b6) hZ (hw _ (List.mem_of_getElem? (i := 6) rfl)) (hw _ (List.mem_of_getElem? (i := 3) rfl)) (by decide) (by decide)) (g := (mkF m 61 #[.val (.int p1), .val (.int p2), .val (.int p3), .val (.long q4), .second, .val (.long q5), .second, .val (.int (Int32.ofNat N)), .val (.int (Int32.ofNat K)), .val (.int (Int32.ofNat I)), .val (.int (Int32.ofNat J)), .val (.int (Int32.ofNat Q)), .unset, .unset, .unset, .unset, .unset, .unset] [(.int (Int32.ofNat K)), (.long ((Int32.ofNat N).toInt64)), (.ref b6), (.ref b6)])) rfl (by rw [hml]; rfl) (Steps.refl _) (a := b6) (argsL := [(.long ((Int32.ofNat N).toInt64)), (.int (Int32.ofNat K))]) (rest := [(.ref b6)]) (lenOf pd_0_0 rfl) rfl (by show 2 * 0 + _ ≤ _; exact Nat.le_of_eq rfl) (hb hby at_61) (fun _ _ => ⟨rfl, e6, (by decide : 1 + 17 ≤ _), (by decide : 4 + 32 ≤ _)⟩)
  dsimp only [Pt.U, Pt.locs, Pt.cells, Pt.slots] at X7 l7 y7 z7 st7 hQ7
  subst l7 y7 z7
  obtain ⟨rfl, N7q, P, pa, gP, W7⟩ := hQ7
  have zz7 : n0 ≤ T7.heap.size := Nat.le_trans gP (Nat.le_of_lt W7.lt)
  have N7 := Fr.app N0 N7q

  obtain ⟨cq8, kq8, q8a, q8b, q8c⟩ := isOf hZ rfl W7.1
  obtain ⟨_, _, ⟨T8, L8, k8, n8⟩, -, X8, ⟨Lc8, hQ8, l8, y8, z8⟩, st8⟩ := X7.virtualBack hx (y := (⟨"com/example/cowbird/cowbird/table/Words", "get", "(J)J"⟩ : MethodName)) (z := (⟨"com/example/cowbird/cowbird/table/Words", "get", "(J)J"⟩ : MethodName)) hown (mvT hZ (hw _ (List.mem_of_getElem? (i := 35) rfl))) (mvT hZ (hw _ (List.mem_of_getElem? (i := 36) rfl))) (notFace_of_selects (args := #[]) (mvT hZ (hw _ (List.mem_of_getElem? (i := 38) rfl)))) (mvT hZ (hw _ (List.mem_of_getElem? (i := 38) rfl))) (mvT hZ (hw _ (List.mem_of_getElem? (i := 37) rfl))) (by decide) (backOf (W := 0) (Wd.get l Z a0 hw hN hKK (zz7) W7 hQ (own_l (by omega) rfl)) hZ (hw _ (List.mem_of_getElem? (i := 39) rfl)) (hw _ (List.mem_of_getElem? (i := 3) rfl)) (by decide) (by decide)) q8a q8c (g := (mkF m 71 #[.val (.int p1), .val (.int p2), .val (.int p3), .val (.long q4), .second, .val (.long q5), .second, .val (.int (Int32.ofNat N)), .val (.int (Int32.ofNat K)), .val (.int (Int32.ofNat I)), .val (.int (Int32.ofNat J)), .val (.int (Int32.ofNat Q)), .val (.ref b6), .unset, .unset, .unset, .unset, .unset] [(.long ((Int32.ofNat Q).toInt64)), (.ref b6)])) rfl (by rw [hml]; rfl) (Steps.refl _) (argsL := [(.long ((Int32.ofNat Q).toInt64))]) (rest := []) (lenOf pd_0_6 rfl) rfl (by show 2 * 0 + _ ≤ _; exact Nat.le_of_eq rfl) (hb hby at_71) (fun _ _ => ⟨rfl, rfl, (by decide : 1 + 17 + 0 ≤ _), (by decide : 4 + 32 + 0 ≤ _)⟩)
  dsimp only [Pt.U, Pt.locs, Pt.cells, Pt.slots] at X8 l8 y8 z8 st8 hQ8
  subst l8 y8 z8
  obtain ⟨rfl, N8q, eQ8⟩ := hQ8
  have W8 : Wd Z T8.heap b6 P pa N K (np N K) (fun _ => (0 : Int64)) := by rw [eQ8]; exact W7
  have zz8 : n0 ≤ T8.heap.size := Nat.le_trans gP (Nat.le_of_lt W8.lt)
  have N8 := Fr.app N7 N8q

  obtain ⟨cq9, kq9, q9a, q9b, q9c⟩ := isOf hZ rfl W8.1
  obtain ⟨_, _, ⟨T9, L9, k9, n9⟩, -, X9, ⟨Lc9, hQ9, l9, y9, z9⟩, st9⟩ := X8.virtualBack hx (y := (⟨"com/example/cowbird/cowbird/table/Words", "set", "(JJ)V"⟩ : MethodName)) (z := (⟨"com/example/cowbird/cowbird/table/Words", "set", "(JJ)V"⟩ : MethodName)) hown (mvT hZ (hw _ (List.mem_of_getElem? (i := 40) rfl))) (mvT hZ (hw _ (List.mem_of_getElem? (i := 41) rfl))) (notFace_of_selects (args := #[]) (mvT hZ (hw _ (List.mem_of_getElem? (i := 43) rfl)))) (mvT hZ (hw _ (List.mem_of_getElem? (i := 43) rfl))) (mvT hZ (hw _ (List.mem_of_getElem? (i := 42) rfl))) (by decide) (backOf (W := 0) (Wd.put l Z a0 hw hN hKK (zz8) gP W8 hI (own_l (by omega) rfl) q4) hZ (hw _ (List.mem_of_getElem? (i := 44) rfl)) (hw _ (List.mem_of_getElem? (i := 3) rfl)) (by decide) (by decide)) q9a q9c (g := (mkF m 92 #[.val (.int p1), .val (.int p2), .val (.int p3), .val (.long q4), .second, .val (.long q5), .second, .val (.int (Int32.ofNat N)), .val (.int (Int32.ofNat K)), .val (.int (Int32.ofNat I)), .val (.int (Int32.ofNat J)), .val (.int (Int32.ofNat Q)), .val (.ref b6), .val (.int (1 : Int32)), .unset, .unset, .unset, .unset] [(.long q4), (.long ((Int32.ofNat I).toInt64)), (.ref b6)])) rfl (by rw [hml]; rfl) (Steps.refl _) (argsL := [(.long ((Int32.ofNat I).toInt64)), (.long q4)]) (rest := []) (lenOf pd_0_7 rfl) rfl (by show 2 * 0 + _ ≤ _; exact Nat.le_of_eq rfl) (hb hby at_92) (fun _ _ => ⟨rfl, rfl, (by decide : 1 + 17 + 0 ≤ _), (by decide : 4 + 32 + 0 ≤ _)⟩)
  dsimp only [Pt.U, Pt.locs, Pt.cells, Pt.slots] at X9 l9 y9 z9 st9 hQ9
  subst l9 y9 z9
  obtain ⟨rfl, N9q, w9⟩ := hQ9
  have W9 : Wd Z T9.heap b6 P pa N K (np N K) (upd (fun _ => (0 : Int64)) I q4) := Wd.set hN hKK W8 hI w9
  have zz9 : n0 ≤ T9.heap.size := Nat.le_trans gP (Nat.le_of_lt W9.lt)
  have N9 := Fr.app N8 N9q

  obtain ⟨cq10, kq10, q10a, q10b, q10c⟩ := isOf hZ rfl W9.1
  obtain ⟨_, _, ⟨T10, L10, k10, n10⟩, -, X10, ⟨Lc10, hQ10, l10, y10, z10⟩, st10⟩ := X9.virtualBack hx (y := (⟨"com/example/cowbird/cowbird/table/Words", "set", "(JJ)V"⟩ : MethodName)) (z := (⟨"com/example/cowbird/cowbird/table/Words", "set", "(JJ)V"⟩ : MethodName)) hown (mvT hZ (hw _ (List.mem_of_getElem? (i := 40) rfl))) (mvT hZ (hw _ (List.mem_of_getElem? (i := 41) rfl))) (notFace_of_selects (args := #[]) (mvT hZ (hw _ (List.mem_of_getElem? (i := 43) rfl)))) (mvT hZ (hw _ (List.mem_of_getElem? (i := 43) rfl))) (mvT hZ (hw _ (List.mem_of_getElem? (i := 42) rfl))) (by decide) (backOf (W := 0) (Wd.put l Z a0 hw hN hKK (zz9) gP W9 hJ (own_l (by omega) rfl) q5) hZ (hw _ (List.mem_of_getElem? (i := 44) rfl)) (hw _ (List.mem_of_getElem? (i := 3) rfl)) (by decide) (by decide)) q10a q10c (g := (mkF m 102 #[.val (.int p1), .val (.int p2), .val (.int p3), .val (.long q4), .second, .val (.long q5), .second, .val (.int (Int32.ofNat N)), .val (.int (Int32.ofNat K)), .val (.int (Int32.ofNat I)), .val (.int (Int32.ofNat J)), .val (.int (Int32.ofNat Q)), .val (.ref b6), .val (.int (1 : Int32)), .unset, .unset, .unset, .unset] [(.long q5), (.long ((Int32.ofNat J).toInt64)), (.ref b6)])) rfl (by rw [hml]; rfl) (Steps.refl _) (argsL := [(.long ((Int32.ofNat J).toInt64)), (.long q5)]) (rest := []) (lenOf pd_0_7 rfl) rfl (by show 2 * 0 + _ ≤ _; exact Nat.le_of_eq rfl) (hb hby at_102) (fun _ _ => ⟨rfl, rfl, (by decide : 1 + 17 + 0 ≤ _), (by decide : 4 + 32 + 0 ≤ _)⟩)
  dsimp only [Pt.U, Pt.locs, Pt.cells, Pt.slots] at X10 l10 y10 z10 st10 hQ10
  subst l10 y10 z10
  obtain ⟨rfl, N10q, w10⟩ := hQ10
  have W10 : Wd Z T10.heap b6 P pa N K (np N K) (upd (upd (fun _ => (0 : Int64)) I q4) J q5) := Wd.set hN hKK W9 hJ w10
  have zz10 : n0 ≤ T10.heap.size := Nat.le_trans gP (Nat.le_of_lt W10.lt)
  have N10 := Fr.app N9 N10q

  obtain ⟨cq11, kq11, q11a, q11b, q11c⟩ := isOf hZ rfl W10.1
  obtain ⟨_, _, ⟨T11, L11, k11, n11⟩, -, X11, ⟨Lc11, hQ11, l11, y11, z11⟩, st11⟩ := X10.virtualBack hx (y := (⟨"com/example/cowbird/cowbird/table/Words", "get", "(J)J"⟩ : MethodName)) (z := (⟨"com/example/cowbird/cowbird/table/Words", "get", "(J)J"⟩ : MethodName)) hown (mvT hZ (hw _ (List.mem_of_getElem? (i := 35) rfl))) (mvT hZ (hw _ (List.mem_of_getElem? (i := 36) rfl))) (notFace_of_selects (args := #[]) (mvT hZ (hw _ (List.mem_of_getElem? (i := 38) rfl)))) (mvT hZ (hw _ (List.mem_of_getElem? (i := 38) rfl))) (mvT hZ (hw _ (List.mem_of_getElem? (i := 37) rfl))) (by decide) (backOf (W := 0) (Wd.get l Z a0 hw hN hKK (zz10) W10 hI (own_l (by omega) rfl)) hZ (hw _ (List.mem_of_getElem? (i := 39) rfl)) (hw _ (List.mem_of_getElem? (i := 3) rfl)) (by decide) (by decide)) q11a q11c (g := (mkF m 156 #[.val (.int p1), .val (.int p2), .val (.int p3), .val (.long q4), .second, .val (.long q5), .second, .val (.int (Int32.ofNat N)), .val (.int (Int32.ofNat K)), .val (.int (Int32.ofNat I)), .val (.int (Int32.ofNat J)), .val (.int (Int32.ofNat Q)), .val (.ref b6), .val (.int (1 : Int32)), .val (.long q4), .second, .val (.long q5), .second] [(.long ((Int32.ofNat I).toInt64)), (.ref b6)])) rfl (by rw [hml]; rfl) (Steps.refl _) (argsL := [(.long ((Int32.ofNat I).toInt64))]) (rest := []) (lenOf pd_0_6 rfl) rfl (by show 2 * 0 + _ ≤ _; exact Nat.le_of_eq rfl) (hb hby at_156) (fun _ _ => ⟨rfl, rfl, (by decide : 1 + 17 + 0 ≤ _), (by decide : 4 + 32 + 0 ≤ _)⟩)
  dsimp only [Pt.U, Pt.locs, Pt.cells, Pt.slots] at X11 l11 y11 z11 st11 hQ11
  subst l11 y11 z11
  obtain ⟨rfl, N11q, eQ11⟩ := hQ11
  have W11 : Wd Z T11.heap b6 P pa N K (np N K) (upd (upd (fun _ => (0 : Int64)) I q4) J q5) := by rw [eQ11]; exact W10
  have zz11 : n0 ≤ T11.heap.size := Nat.le_trans gP (Nat.le_of_lt W11.lt)
  have N11 := Fr.app N10 N11q

  obtain ⟨cq12, kq12, q12a, q12b, q12c⟩ := isOf hZ rfl W11.1
  obtain ⟨_, _, ⟨T12, L12, k12, n12⟩, -, X12, ⟨Lc12, hQ12, l12, y12, z12⟩, st12⟩ := X11.virtualBack hx (y := (⟨"com/example/cowbird/cowbird/table/Words", "get", "(J)J"⟩ : MethodName)) (z := (⟨"com/example/cowbird/cowbird/table/Words", "get", "(J)J"⟩ : MethodName)) hown (mvT hZ (hw _ (List.mem_of_getElem? (i := 35) rfl))) (mvT hZ (hw _ (List.mem_of_getElem? (i := 36) rfl))) (notFace_of_selects (args := #[]) (mvT hZ (hw _ (List.mem_of_getElem? (i := 38) rfl)))) (mvT hZ (hw _ (List.mem_of_getElem? (i := 38) rfl))) (mvT hZ (hw _ (List.mem_of_getElem? (i := 37) rfl))) (by decide) (backOf (W := 0) (Wd.get l Z a0 hw hN hKK (zz11) W11 hJ (own_l (by omega) rfl)) hZ (hw _ (List.mem_of_getElem? (i := 39) rfl)) (hw _ (List.mem_of_getElem? (i := 3) rfl)) (by decide) (by decide)) q12a q12c (g := (mkF m 170 #[.val (.int p1), .val (.int p2), .val (.int p3), .val (.long q4), .second, .val (.long q5), .second, .val (.int (Int32.ofNat N)), .val (.int (Int32.ofNat K)), .val (.int (Int32.ofNat I)), .val (.int (Int32.ofNat J)), .val (.int (Int32.ofNat Q)), .val (.ref b6), .val (.int (1 : Int32)), .val (.long q4), .second, .val (.long q5), .second] [(.long ((Int32.ofNat J).toInt64)), (.ref b6)])) rfl (by rw [hml]; rfl) (Steps.refl _) (argsL := [(.long ((Int32.ofNat J).toInt64))]) (rest := []) (lenOf pd_0_6 rfl) rfl (by show 2 * 0 + _ ≤ _; exact Nat.le_of_eq rfl) (hb hby at_170) (fun _ _ => ⟨rfl, rfl, (by decide : 1 + 17 + 0 ≤ _), (by decide : 4 + 32 + 0 ≤ _)⟩)
  dsimp only [Pt.U, Pt.locs, Pt.cells, Pt.slots] at X12 l12 y12 z12 st12 hQ12
  subst l12 y12 z12
  obtain ⟨rfl, N12q, eQ12⟩ := hQ12
  have W12 : Wd Z T12.heap b6 P pa N K (np N K) (upd (upd (fun _ => (0 : Int64)) I q4) J q5) := by rw [eQ12]; exact W11
  have zz12 : n0 ≤ T12.heap.size := Nat.le_trans gP (Nat.le_of_lt W12.lt)
  have N12 := Fr.app N11 N12q

  obtain ⟨cq13, kq13, q13a, q13b, q13c⟩ := isOf hZ rfl W12.1
  obtain ⟨_, _, ⟨T13, L13, k13, n13⟩, -, X13, ⟨Lc13, hQ13, l13, y13, z13⟩, st13⟩ := X12.virtualBack hx (y := (⟨"com/example/cowbird/cowbird/table/Words", "get", "(J)J"⟩ : MethodName)) (z := (⟨"com/example/cowbird/cowbird/table/Words", "get", "(J)J"⟩ : MethodName)) hown (mvT hZ (hw _ (List.mem_of_getElem? (i := 35) rfl))) (mvT hZ (hw _ (List.mem_of_getElem? (i := 36) rfl))) (notFace_of_selects (args := #[]) (mvT hZ (hw _ (List.mem_of_getElem? (i := 38) rfl)))) (mvT hZ (hw _ (List.mem_of_getElem? (i := 38) rfl))) (mvT hZ (hw _ (List.mem_of_getElem? (i := 37) rfl))) (by decide) (backOf (W := 0) (Wd.get l Z a0 hw hN hKK (zz12) W12 hQ (own_l (by omega) rfl)) hZ (hw _ (List.mem_of_getElem? (i := 39) rfl)) (hw _ (List.mem_of_getElem? (i := 3) rfl)) (by decide) (by decide)) q13a q13c (g := (mkF m 184 #[.val (.int p1), .val (.int p2), .val (.int p3), .val (.long q4), .second, .val (.long q5), .second, .val (.int (Int32.ofNat N)), .val (.int (Int32.ofNat K)), .val (.int (Int32.ofNat I)), .val (.int (Int32.ofNat J)), .val (.int (Int32.ofNat Q)), .val (.ref b6), .val (.int (1 : Int32)), .val (.long q4), .second, .val (.long q5), .second] [(.long ((Int32.ofNat Q).toInt64)), (.ref b6)])) rfl (by rw [hml]; rfl) (Steps.refl _) (argsL := [(.long ((Int32.ofNat Q).toInt64))]) (rest := []) (lenOf pd_0_6 rfl) rfl (by show 2 * 0 + _ ≤ _; exact Nat.le_of_eq rfl) (hb hby at_184) (fun _ _ => ⟨rfl, rfl, (by decide : 1 + 17 + 0 ≤ _), (by decide : 4 + 32 + 0 ≤ _)⟩)
  dsimp only [Pt.U, Pt.locs, Pt.cells, Pt.slots] at X13 l13 y13 z13 st13 hQ13
  subst l13 y13 z13
  obtain ⟨rfl, N13q, eQ13⟩ := hQ13
  have W13 : Wd Z T13.heap b6 P pa N K (np N K) (upd (upd (fun _ => (0 : Int64)) I q4) J q5) := by rw [eQ13]; exact W12
  have zz13 : n0 ≤ T13.heap.size := Nat.le_trans gP (Nat.le_of_lt W13.lt)
  have N13 := Fr.app N12 N13q

  obtain ⟨cq14, kq14, q14a, q14b, q14c⟩ := isOf hZ rfl W13.1
  obtain ⟨_, _, ⟨T14, L14, k14, n14⟩, -, X14, ⟨Lc14, hQ14, l14, y14, z14⟩, st14⟩ := X13.virtualBack hx (y := (⟨"com/example/cowbird/cowbird/table/Words", "length", "()J"⟩ : MethodName)) (z := (⟨"com/example/cowbird/cowbird/table/Words", "length", "()J"⟩ : MethodName)) hown (mvT hZ (hw _ (List.mem_of_getElem? (i := 45) rfl))) (mvT hZ (hw _ (List.mem_of_getElem? (i := 46) rfl))) (notFace_of_selects (args := #[]) (mvT hZ (hw _ (List.mem_of_getElem? (i := 48) rfl)))) (mvT hZ (hw _ (List.mem_of_getElem? (i := 48) rfl))) (mvT hZ (hw _ (List.mem_of_getElem? (i := 47) rfl))) (by decide) (backOf (W := 0) (Wd.len l Z a0 hw (zz13) W13) hZ (hw _ (List.mem_of_getElem? (i := 49) rfl)) (hw _ (List.mem_of_getElem? (i := 3) rfl)) (by decide) (by decide)) q14a q14c (g := (mkF m 195 #[.val (.int p1), .val (.int p2), .val (.int p3), .val (.long q4), .second, .val (.long q5), .second, .val (.int (Int32.ofNat N)), .val (.int (Int32.ofNat K)), .val (.int (Int32.ofNat I)), .val (.int (Int32.ofNat J)), .val (.int (Int32.ofNat Q)), .val (.ref b6), .val (.int (1 : Int32)), .val (.long q4), .second, .val (.long q5), .second] [(.ref b6)])) rfl (by rw [hml]; rfl) (Steps.refl _) (argsL := []) (rest := []) (lenOf pd_0_8 rfl) rfl (by show 2 * 0 + _ ≤ _; exact Nat.le_of_eq rfl) (hb hby at_195) (fun _ _ => ⟨rfl, rfl, (by decide : 1 + 17 + 0 ≤ _), (by decide : 4 + 32 + 0 ≤ _)⟩)
  dsimp only [Pt.U, Pt.locs, Pt.cells, Pt.slots] at X14 l14 y14 z14 st14 hQ14
  subst l14 y14 z14
  obtain ⟨rfl, N14q, eQ14⟩ := hQ14
  have W14 : Wd Z T14.heap b6 P pa N K (np N K) (upd (upd (fun _ => (0 : Int64)) I q4) J q5) := by rw [eQ14]; exact W13
  have zz14 : n0 ≤ T14.heap.size := Nat.le_trans gP (Nat.le_of_lt W14.lt)
  have N14 := Fr.app N13 N14q
  obtain ⟨fs, hr, hrun, hended, hW, hsame⟩ := X14.leave (v := some (.int (1 : Int32))) (fun h => by rw [Bd.returns] at h; cases h)
  refine ⟨_, _, pre0 _ ?_, hrun, hended, _, _, rfl, ?_, ⟨_, rfl⟩, hW, hsame.mono (by decide) (by decide)⟩

  · show Steps p.tables e below (s₁.setTop (mkF m 0 #[.val (.int p1), .val (.int p2), .val (.int p3), .val (.long q4), .second, .val (.long q5), .second, .unset, .unset, .unset, .unset, .unset, .unset, .unset, .unset, .unset, .unset, .unset] [])) _
    refine XS.iconst X0.here hx rfl (hb hby at_0) ?_
    show Steps p.tables e below (s₁.setTop (mkF m 1 #[.val (.int p1), .val (.int p2), .val (.int p3), .val (.long q4), .second, .val (.long q5), .second, .unset, .unset, .unset, .unset, .unset, .unset, .unset, .unset, .unset, .unset, .unset] [(.int (1 : Int32))])) _
    refine XS.iloadN X0.here hx rfl (hb hby at_1) rfl ?_
    show Steps p.tables e below (s₁.setTop (mkF m 2 #[.val (.int p1), .val (.int p2), .val (.int p3), .val (.long q4), .second, .val (.long q5), .second, .unset, .unset, .unset, .unset, .unset, .unset, .unset, .unset, .unset, .unset, .unset] [(.int p1), (.int (1 : Int32))])) _
    refine XS.bipush X0.here hx rfl (hb hby at_2) ?_
    show Steps p.tables e below (s₁.setTop (mkF m 4 #[.val (.int p1), .val (.int p2), .val (.int p3), .val (.long q4), .second, .val (.long q5), .second, .unset, .unset, .unset, .unset, .unset, .unset, .unset, .unset, .unset, .unset, .unset] [(.int (15 : Int32)), (.int p1), (.int (1 : Int32))])) _
    refine XS.iand X0.here hx rfl (hb hby at_4) rfl ?_
    show Steps p.tables e below (s₁.setTop (mkF m 5 #[.val (.int p1), .val (.int p2), .val (.int p3), .val (.long q4), .second, .val (.long q5), .second, .unset, .unset, .unset, .unset, .unset, .unset, .unset, .unset, .unset, .unset, .unset] [(.int (p1 &&& (15 : Int32))), (.int (1 : Int32))])) _
    refine XS.iadd X0.here hx rfl (hb hby at_5) rfl ?_
    show Steps p.tables e below (s₁.setTop (mkF m 6 #[.val (.int p1), .val (.int p2), .val (.int p3), .val (.long q4), .second, .val (.long q5), .second, .unset, .unset, .unset, .unset, .unset, .unset, .unset, .unset, .unset, .unset, .unset] [(.int ((1 : Int32) + (p1 &&& (15 : Int32))))])) _
    rw [hvN]
    show Steps p.tables e below (s₁.setTop (mkF m 6 #[.val (.int p1), .val (.int p2), .val (.int p3), .val (.long q4), .second, .val (.long q5), .second, .unset, .unset, .unset, .unset, .unset, .unset, .unset, .unset, .unset, .unset, .unset] [(.int (Int32.ofNat N))])) _
    refine XS.istore X0.here hx rfl (hb hby at_6) rfl (l' := #[.val (.int p1), .val (.int p2), .val (.int p3), .val (.long q4), .second, .val (.long q5), .second, .val (.int (Int32.ofNat N)), .unset, .unset, .unset, .unset, .unset, .unset, .unset, .unset, .unset, .unset]) rfl ?_
    show Steps p.tables e below (s₁.setTop (mkF m 8 #[.val (.int p1), .val (.int p2), .val (.int p3), .val (.long q4), .second, .val (.long q5), .second, .val (.int (Int32.ofNat N)), .unset, .unset, .unset, .unset, .unset, .unset, .unset, .unset, .unset, .unset] [])) _
    refine XS.iloadN X0.here hx rfl (hb hby at_8) rfl ?_
    show Steps p.tables e below (s₁.setTop (mkF m 9 #[.val (.int p1), .val (.int p2), .val (.int p3), .val (.long q4), .second, .val (.long q5), .second, .val (.int (Int32.ofNat N)), .unset, .unset, .unset, .unset, .unset, .unset, .unset, .unset, .unset, .unset] [(.int p2)])) _
    refine X0.ldcInt hx hown (mvT hZ (hw _ (List.mem_of_getElem? (i := 0) rfl))) (g := (mkF m 9 #[.val (.int p1), .val (.int p2), .val (.int p3), .val (.long q4), .second, .val (.long q5), .second, .val (.int (Int32.ofNat N)), .unset, .unset, .unset, .unset, .unset, .unset, .unset, .unset, .unset, .unset] [(.int p2)])) rfl (hb hby at_9) _ ?_
    show Steps p.tables e below (s₁.setTop (mkF m 11 #[.val (.int p1), .val (.int p2), .val (.int p3), .val (.long q4), .second, .val (.long q5), .second, .val (.int (Int32.ofNat N)), .unset, .unset, .unset, .unset, .unset, .unset, .unset, .unset, .unset, .unset] [(.int (2147483647 : Int32)), (.int p2)])) _
    refine XS.iand X0.here hx rfl (hb hby at_11) rfl ?_
    show Steps p.tables e below (s₁.setTop (mkF m 12 #[.val (.int p1), .val (.int p2), .val (.int p3), .val (.long q4), .second, .val (.long q5), .second, .val (.int (Int32.ofNat N)), .unset, .unset, .unset, .unset, .unset, .unset, .unset, .unset, .unset, .unset] [(.int (p2 &&& (2147483647 : Int32)))])) _
    refine XS.iconst X0.here hx rfl (hb hby at_12) ?_
    show Steps p.tables e below (s₁.setTop (mkF m 13 #[.val (.int p1), .val (.int p2), .val (.int p3), .val (.long q4), .second, .val (.long q5), .second, .val (.int (Int32.ofNat N)), .unset, .unset, .unset, .unset, .unset, .unset, .unset, .unset, .unset, .unset] [(.int (5 : Int32)), (.int (p2 &&& (2147483647 : Int32)))])) _
    refine Jvm.RoadKit.iremM X0 hx rfl (hb hby at_13) rfl (by decide) ?_
    show Steps p.tables e below (s₁.setTop (mkF m 14 #[.val (.int p1), .val (.int p2), .val (.int p3), .val (.long q4), .second, .val (.long q5), .second, .val (.int (Int32.ofNat N)), .unset, .unset, .unset, .unset, .unset, .unset, .unset, .unset, .unset, .unset] [(.int ((p2 &&& (2147483647 : Int32)) % (5 : Int32)))])) _
    rw [hvK]
    show Steps p.tables e below (s₁.setTop (mkF m 14 #[.val (.int p1), .val (.int p2), .val (.int p3), .val (.long q4), .second, .val (.long q5), .second, .val (.int (Int32.ofNat N)), .unset, .unset, .unset, .unset, .unset, .unset, .unset, .unset, .unset, .unset] [(.int (Int32.ofNat K))])) _
    refine XS.istore X0.here hx rfl (hb hby at_14) rfl (l' := #[.val (.int p1), .val (.int p2), .val (.int p3), .val (.long q4), .second, .val (.long q5), .second, .val (.int (Int32.ofNat N)), .val (.int (Int32.ofNat K)), .unset, .unset, .unset, .unset, .unset, .unset, .unset, .unset, .unset]) rfl ?_
    show Steps p.tables e below (s₁.setTop (mkF m 16 #[.val (.int p1), .val (.int p2), .val (.int p3), .val (.long q4), .second, .val (.long q5), .second, .val (.int (Int32.ofNat N)), .val (.int (Int32.ofNat K)), .unset, .unset, .unset, .unset, .unset, .unset, .unset, .unset, .unset] [])) _
    refine XS.iloadN X0.here hx rfl (hb hby at_16) rfl ?_
    show Steps p.tables e below (s₁.setTop (mkF m 17 #[.val (.int p1), .val (.int p2), .val (.int p3), .val (.long q4), .second, .val (.long q5), .second, .val (.int (Int32.ofNat N)), .val (.int (Int32.ofNat K)), .unset, .unset, .unset, .unset, .unset, .unset, .unset, .unset, .unset] [(.int p3)])) _
    refine XS.sipush X0.here hx rfl (hb hby at_17) ?_
    show Steps p.tables e below (s₁.setTop (mkF m 20 #[.val (.int p1), .val (.int p2), .val (.int p3), .val (.long q4), .second, .val (.long q5), .second, .val (.int (Int32.ofNat N)), .val (.int (Int32.ofNat K)), .unset, .unset, .unset, .unset, .unset, .unset, .unset, .unset, .unset] [(.int (255 : Int32)), (.int p3)])) _
    refine XS.iand X0.here hx rfl (hb hby at_20) rfl ?_
    show Steps p.tables e below (s₁.setTop (mkF m 21 #[.val (.int p1), .val (.int p2), .val (.int p3), .val (.long q4), .second, .val (.long q5), .second, .val (.int (Int32.ofNat N)), .val (.int (Int32.ofNat K)), .unset, .unset, .unset, .unset, .unset, .unset, .unset, .unset, .unset] [(.int (p3 &&& (255 : Int32)))])) _
    refine XS.iload X0.here hx rfl (hb hby at_21) rfl ?_
    show Steps p.tables e below (s₁.setTop (mkF m 23 #[.val (.int p1), .val (.int p2), .val (.int p3), .val (.long q4), .second, .val (.long q5), .second, .val (.int (Int32.ofNat N)), .val (.int (Int32.ofNat K)), .unset, .unset, .unset, .unset, .unset, .unset, .unset, .unset, .unset] [(.int (Int32.ofNat N)), (.int (p3 &&& (255 : Int32)))])) _
    refine Jvm.RoadKit.iremM X0 hx rfl (hb hby at_23) rfl hnz23 ?_
    show Steps p.tables e below (s₁.setTop (mkF m 24 #[.val (.int p1), .val (.int p2), .val (.int p3), .val (.long q4), .second, .val (.long q5), .second, .val (.int (Int32.ofNat N)), .val (.int (Int32.ofNat K)), .unset, .unset, .unset, .unset, .unset, .unset, .unset, .unset, .unset] [(.int ((p3 &&& (255 : Int32)) % (Int32.ofNat N)))])) _
    rw [hvI]
    show Steps p.tables e below (s₁.setTop (mkF m 24 #[.val (.int p1), .val (.int p2), .val (.int p3), .val (.long q4), .second, .val (.long q5), .second, .val (.int (Int32.ofNat N)), .val (.int (Int32.ofNat K)), .unset, .unset, .unset, .unset, .unset, .unset, .unset, .unset, .unset] [(.int (Int32.ofNat I))])) _
    refine XS.istore X0.here hx rfl (hb hby at_24) rfl (l' := #[.val (.int p1), .val (.int p2), .val (.int p3), .val (.long q4), .second, .val (.long q5), .second, .val (.int (Int32.ofNat N)), .val (.int (Int32.ofNat K)), .val (.int (Int32.ofNat I)), .unset, .unset, .unset, .unset, .unset, .unset, .unset, .unset]) rfl ?_
    show Steps p.tables e below (s₁.setTop (mkF m 26 #[.val (.int p1), .val (.int p2), .val (.int p3), .val (.long q4), .second, .val (.long q5), .second, .val (.int (Int32.ofNat N)), .val (.int (Int32.ofNat K)), .val (.int (Int32.ofNat I)), .unset, .unset, .unset, .unset, .unset, .unset, .unset, .unset] [])) _
    refine XS.iloadN X0.here hx rfl (hb hby at_26) rfl ?_
    show Steps p.tables e below (s₁.setTop (mkF m 27 #[.val (.int p1), .val (.int p2), .val (.int p3), .val (.long q4), .second, .val (.long q5), .second, .val (.int (Int32.ofNat N)), .val (.int (Int32.ofNat K)), .val (.int (Int32.ofNat I)), .unset, .unset, .unset, .unset, .unset, .unset, .unset, .unset] [(.int p3)])) _
    refine XS.bipush X0.here hx rfl (hb hby at_27) ?_
    show Steps p.tables e below (s₁.setTop (mkF m 29 #[.val (.int p1), .val (.int p2), .val (.int p3), .val (.long q4), .second, .val (.long q5), .second, .val (.int (Int32.ofNat N)), .val (.int (Int32.ofNat K)), .val (.int (Int32.ofNat I)), .unset, .unset, .unset, .unset, .unset, .unset, .unset, .unset] [(.int (8 : Int32)), (.int p3)])) _
    refine XS.iushr X0.here hx rfl (hb hby at_29) rfl ?_
    show Steps p.tables e below (s₁.setTop (mkF m 30 #[.val (.int p1), .val (.int p2), .val (.int p3), .val (.long q4), .second, .val (.long q5), .second, .val (.int (Int32.ofNat N)), .val (.int (Int32.ofNat K)), .val (.int (Int32.ofNat I)), .unset, .unset, .unset, .unset, .unset, .unset, .unset, .unset] [(.int ((p3.toUInt32 >>> ((8 : Int32) &&& 31).toUInt32).toInt32))])) _
    refine XS.sipush X0.here hx rfl (hb hby at_30) ?_
    show Steps p.tables e below (s₁.setTop (mkF m 33 #[.val (.int p1), .val (.int p2), .val (.int p3), .val (.long q4), .second, .val (.long q5), .second, .val (.int (Int32.ofNat N)), .val (.int (Int32.ofNat K)), .val (.int (Int32.ofNat I)), .unset, .unset, .unset, .unset, .unset, .unset, .unset, .unset] [(.int (255 : Int32)), (.int ((p3.toUInt32 >>> ((8 : Int32) &&& 31).toUInt32).toInt32))])) _
    refine XS.iand X0.here hx rfl (hb hby at_33) rfl ?_
    show Steps p.tables e below (s₁.setTop (mkF m 34 #[.val (.int p1), .val (.int p2), .val (.int p3), .val (.long q4), .second, .val (.long q5), .second, .val (.int (Int32.ofNat N)), .val (.int (Int32.ofNat K)), .val (.int (Int32.ofNat I)), .unset, .unset, .unset, .unset, .unset, .unset, .unset, .unset] [(.int (((p3.toUInt32 >>> ((8 : Int32) &&& 31).toUInt32).toInt32) &&& (255 : Int32)))])) _
    refine XS.iload X0.here hx rfl (hb hby at_34) rfl ?_
    show Steps p.tables e below (s₁.setTop (mkF m 36 #[.val (.int p1), .val (.int p2), .val (.int p3), .val (.long q4), .second, .val (.long q5), .second, .val (.int (Int32.ofNat N)), .val (.int (Int32.ofNat K)), .val (.int (Int32.ofNat I)), .unset, .unset, .unset, .unset, .unset, .unset, .unset, .unset] [(.int (Int32.ofNat N)), (.int (((p3.toUInt32 >>> ((8 : Int32) &&& 31).toUInt32).toInt32) &&& (255 : Int32)))])) _
    refine Jvm.RoadKit.iremM X0 hx rfl (hb hby at_36) rfl hnz36 ?_
    show Steps p.tables e below (s₁.setTop (mkF m 37 #[.val (.int p1), .val (.int p2), .val (.int p3), .val (.long q4), .second, .val (.long q5), .second, .val (.int (Int32.ofNat N)), .val (.int (Int32.ofNat K)), .val (.int (Int32.ofNat I)), .unset, .unset, .unset, .unset, .unset, .unset, .unset, .unset] [(.int ((((p3.toUInt32 >>> ((8 : Int32) &&& 31).toUInt32).toInt32) &&& (255 : Int32)) % (Int32.ofNat N)))])) _
    rw [hvJ]
    show Steps p.tables e below (s₁.setTop (mkF m 37 #[.val (.int p1), .val (.int p2), .val (.int p3), .val (.long q4), .second, .val (.long q5), .second, .val (.int (Int32.ofNat N)), .val (.int (Int32.ofNat K)), .val (.int (Int32.ofNat I)), .unset, .unset, .unset, .unset, .unset, .unset, .unset, .unset] [(.int (Int32.ofNat J))])) _
    refine XS.istore X0.here hx rfl (hb hby at_37) rfl (l' := #[.val (.int p1), .val (.int p2), .val (.int p3), .val (.long q4), .second, .val (.long q5), .second, .val (.int (Int32.ofNat N)), .val (.int (Int32.ofNat K)), .val (.int (Int32.ofNat I)), .val (.int (Int32.ofNat J)), .unset, .unset, .unset, .unset, .unset, .unset, .unset]) rfl ?_
    show Steps p.tables e below (s₁.setTop (mkF m 39 #[.val (.int p1), .val (.int p2), .val (.int p3), .val (.long q4), .second, .val (.long q5), .second, .val (.int (Int32.ofNat N)), .val (.int (Int32.ofNat K)), .val (.int (Int32.ofNat I)), .val (.int (Int32.ofNat J)), .unset, .unset, .unset, .unset, .unset, .unset, .unset] [])) _
    refine XS.iloadN X0.here hx rfl (hb hby at_39) rfl ?_
    show Steps p.tables e below (s₁.setTop (mkF m 40 #[.val (.int p1), .val (.int p2), .val (.int p3), .val (.long q4), .second, .val (.long q5), .second, .val (.int (Int32.ofNat N)), .val (.int (Int32.ofNat K)), .val (.int (Int32.ofNat I)), .val (.int (Int32.ofNat J)), .unset, .unset, .unset, .unset, .unset, .unset, .unset] [(.int p3)])) _
    refine XS.bipush X0.here hx rfl (hb hby at_40) ?_
    show Steps p.tables e below (s₁.setTop (mkF m 42 #[.val (.int p1), .val (.int p2), .val (.int p3), .val (.long q4), .second, .val (.long q5), .second, .val (.int (Int32.ofNat N)), .val (.int (Int32.ofNat K)), .val (.int (Int32.ofNat I)), .val (.int (Int32.ofNat J)), .unset, .unset, .unset, .unset, .unset, .unset, .unset] [(.int (16 : Int32)), (.int p3)])) _
    refine XS.iushr X0.here hx rfl (hb hby at_42) rfl ?_
    show Steps p.tables e below (s₁.setTop (mkF m 43 #[.val (.int p1), .val (.int p2), .val (.int p3), .val (.long q4), .second, .val (.long q5), .second, .val (.int (Int32.ofNat N)), .val (.int (Int32.ofNat K)), .val (.int (Int32.ofNat I)), .val (.int (Int32.ofNat J)), .unset, .unset, .unset, .unset, .unset, .unset, .unset] [(.int ((p3.toUInt32 >>> ((16 : Int32) &&& 31).toUInt32).toInt32))])) _
    refine XS.sipush X0.here hx rfl (hb hby at_43) ?_
    show Steps p.tables e below (s₁.setTop (mkF m 46 #[.val (.int p1), .val (.int p2), .val (.int p3), .val (.long q4), .second, .val (.long q5), .second, .val (.int (Int32.ofNat N)), .val (.int (Int32.ofNat K)), .val (.int (Int32.ofNat I)), .val (.int (Int32.ofNat J)), .unset, .unset, .unset, .unset, .unset, .unset, .unset] [(.int (255 : Int32)), (.int ((p3.toUInt32 >>> ((16 : Int32) &&& 31).toUInt32).toInt32))])) _
    refine XS.iand X0.here hx rfl (hb hby at_46) rfl ?_
    show Steps p.tables e below (s₁.setTop (mkF m 47 #[.val (.int p1), .val (.int p2), .val (.int p3), .val (.long q4), .second, .val (.long q5), .second, .val (.int (Int32.ofNat N)), .val (.int (Int32.ofNat K)), .val (.int (Int32.ofNat I)), .val (.int (Int32.ofNat J)), .unset, .unset, .unset, .unset, .unset, .unset, .unset] [(.int (((p3.toUInt32 >>> ((16 : Int32) &&& 31).toUInt32).toInt32) &&& (255 : Int32)))])) _
    refine XS.iload X0.here hx rfl (hb hby at_47) rfl ?_
    show Steps p.tables e below (s₁.setTop (mkF m 49 #[.val (.int p1), .val (.int p2), .val (.int p3), .val (.long q4), .second, .val (.long q5), .second, .val (.int (Int32.ofNat N)), .val (.int (Int32.ofNat K)), .val (.int (Int32.ofNat I)), .val (.int (Int32.ofNat J)), .unset, .unset, .unset, .unset, .unset, .unset, .unset] [(.int (Int32.ofNat N)), (.int (((p3.toUInt32 >>> ((16 : Int32) &&& 31).toUInt32).toInt32) &&& (255 : Int32)))])) _
    refine Jvm.RoadKit.iremM X0 hx rfl (hb hby at_49) rfl hnz49 ?_
    show Steps p.tables e below (s₁.setTop (mkF m 50 #[.val (.int p1), .val (.int p2), .val (.int p3), .val (.long q4), .second, .val (.long q5), .second, .val (.int (Int32.ofNat N)), .val (.int (Int32.ofNat K)), .val (.int (Int32.ofNat I)), .val (.int (Int32.ofNat J)), .unset, .unset, .unset, .unset, .unset, .unset, .unset] [(.int ((((p3.toUInt32 >>> ((16 : Int32) &&& 31).toUInt32).toInt32) &&& (255 : Int32)) % (Int32.ofNat N)))])) _
    rw [hvQ]
    show Steps p.tables e below (s₁.setTop (mkF m 50 #[.val (.int p1), .val (.int p2), .val (.int p3), .val (.long q4), .second, .val (.long q5), .second, .val (.int (Int32.ofNat N)), .val (.int (Int32.ofNat K)), .val (.int (Int32.ofNat I)), .val (.int (Int32.ofNat J)), .unset, .unset, .unset, .unset, .unset, .unset, .unset] [(.int (Int32.ofNat Q))])) _
    refine XS.istore X0.here hx rfl (hb hby at_50) rfl (l' := #[.val (.int p1), .val (.int p2), .val (.int p3), .val (.long q4), .second, .val (.long q5), .second, .val (.int (Int32.ofNat N)), .val (.int (Int32.ofNat K)), .val (.int (Int32.ofNat I)), .val (.int (Int32.ofNat J)), .val (.int (Int32.ofNat Q)), .unset, .unset, .unset, .unset, .unset, .unset]) rfl ?_
    show Steps p.tables e below (s₁.setTop (mkF m 52 #[.val (.int p1), .val (.int p2), .val (.int p3), .val (.long q4), .second, .val (.long q5), .second, .val (.int (Int32.ofNat N)), .val (.int (Int32.ofNat K)), .val (.int (Int32.ofNat I)), .val (.int (Int32.ofNat J)), .val (.int (Int32.ofNat Q)), .unset, .unset, .unset, .unset, .unset, .unset] [])) _
    refine st6 _ ?_
    show Steps p.tables e below (T6.setTop (mkF m 55 #[.val (.int p1), .val (.int p2), .val (.int p3), .val (.long q4), .second, .val (.long q5), .second, .val (.int (Int32.ofNat N)), .val (.int (Int32.ofNat K)), .val (.int (Int32.ofNat I)), .val (.int (Int32.ofNat J)), .val (.int (Int32.ofNat Q)), .unset, .unset, .unset, .unset, .unset, .unset] [(.ref b6)])) _
    refine XS.dup X6.here hx rfl (hb hby at_55) rfl rfl ?_
    show Steps p.tables e below (T6.setTop (mkF m 56 #[.val (.int p1), .val (.int p2), .val (.int p3), .val (.long q4), .second, .val (.long q5), .second, .val (.int (Int32.ofNat N)), .val (.int (Int32.ofNat K)), .val (.int (Int32.ofNat I)), .val (.int (Int32.ofNat J)), .val (.int (Int32.ofNat Q)), .unset, .unset, .unset, .unset, .unset, .unset] [(.ref b6), (.ref b6)])) _
    refine XS.iload X6.here hx rfl (hb hby at_56) rfl ?_
    show Steps p.tables e below (T6.setTop (mkF m 58 #[.val (.int p1), .val (.int p2), .val (.int p3), .val (.long q4), .second, .val (.long q5), .second, .val (.int (Int32.ofNat N)), .val (.int (Int32.ofNat K)), .val (.int (Int32.ofNat I)), .val (.int (Int32.ofNat J)), .val (.int (Int32.ofNat Q)), .unset, .unset, .unset, .unset, .unset, .unset] [(.int (Int32.ofNat N)), (.ref b6), (.ref b6)])) _
    refine XS.i2l X6.here hx rfl (hb hby at_58) rfl ?_
    show Steps p.tables e below (T6.setTop (mkF m 59 #[.val (.int p1), .val (.int p2), .val (.int p3), .val (.long q4), .second, .val (.long q5), .second, .val (.int (Int32.ofNat N)), .val (.int (Int32.ofNat K)), .val (.int (Int32.ofNat I)), .val (.int (Int32.ofNat J)), .val (.int (Int32.ofNat Q)), .unset, .unset, .unset, .unset, .unset, .unset] [(.long ((Int32.ofNat N).toInt64)), (.ref b6), (.ref b6)])) _
    refine XS.iload X6.here hx rfl (hb hby at_59) rfl ?_
    show Steps p.tables e below (T6.setTop (mkF m 61 #[.val (.int p1), .val (.int p2), .val (.int p3), .val (.long q4), .second, .val (.long q5), .second, .val (.int (Int32.ofNat N)), .val (.int (Int32.ofNat K)), .val (.int (Int32.ofNat I)), .val (.int (Int32.ofNat J)), .val (.int (Int32.ofNat Q)), .unset, .unset, .unset, .unset, .unset, .unset] [(.int (Int32.ofNat K)), (.long ((Int32.ofNat N).toInt64)), (.ref b6), (.ref b6)])) _
    refine st7.trans ?_
    show Steps p.tables e below (T7.setTop (mkF m 64 #[.val (.int p1), .val (.int p2), .val (.int p3), .val (.long q4), .second, .val (.long q5), .second, .val (.int (Int32.ofNat N)), .val (.int (Int32.ofNat K)), .val (.int (Int32.ofNat I)), .val (.int (Int32.ofNat J)), .val (.int (Int32.ofNat Q)), .unset, .unset, .unset, .unset, .unset, .unset] [(.ref b6)])) _
    refine XS.astore X7.here hx rfl (hb hby at_64) rfl rfl (l' := #[.val (.int p1), .val (.int p2), .val (.int p3), .val (.long q4), .second, .val (.long q5), .second, .val (.int (Int32.ofNat N)), .val (.int (Int32.ofNat K)), .val (.int (Int32.ofNat I)), .val (.int (Int32.ofNat J)), .val (.int (Int32.ofNat Q)), .val (.ref b6), .unset, .unset, .unset, .unset, .unset]) rfl ?_
    show Steps p.tables e below (T7.setTop (mkF m 66 #[.val (.int p1), .val (.int p2), .val (.int p3), .val (.long q4), .second, .val (.long q5), .second, .val (.int (Int32.ofNat N)), .val (.int (Int32.ofNat K)), .val (.int (Int32.ofNat I)), .val (.int (Int32.ofNat J)), .val (.int (Int32.ofNat Q)), .val (.ref b6), .unset, .unset, .unset, .unset, .unset] [])) _
    refine XS.aload X7.here hx rfl (hb hby at_66) rfl rfl ?_
    show Steps p.tables e below (T7.setTop (mkF m 68 #[.val (.int p1), .val (.int p2), .val (.int p3), .val (.long q4), .second, .val (.long q5), .second, .val (.int (Int32.ofNat N)), .val (.int (Int32.ofNat K)), .val (.int (Int32.ofNat I)), .val (.int (Int32.ofNat J)), .val (.int (Int32.ofNat Q)), .val (.ref b6), .unset, .unset, .unset, .unset, .unset] [(.ref b6)])) _
    refine XS.iload X7.here hx rfl (hb hby at_68) rfl ?_
    show Steps p.tables e below (T7.setTop (mkF m 70 #[.val (.int p1), .val (.int p2), .val (.int p3), .val (.long q4), .second, .val (.long q5), .second, .val (.int (Int32.ofNat N)), .val (.int (Int32.ofNat K)), .val (.int (Int32.ofNat I)), .val (.int (Int32.ofNat J)), .val (.int (Int32.ofNat Q)), .val (.ref b6), .unset, .unset, .unset, .unset, .unset] [(.int (Int32.ofNat Q)), (.ref b6)])) _
    refine XS.i2l X7.here hx rfl (hb hby at_70) rfl ?_
    show Steps p.tables e below (T7.setTop (mkF m 71 #[.val (.int p1), .val (.int p2), .val (.int p3), .val (.long q4), .second, .val (.long q5), .second, .val (.int (Int32.ofNat N)), .val (.int (Int32.ofNat K)), .val (.int (Int32.ofNat I)), .val (.int (Int32.ofNat J)), .val (.int (Int32.ofNat Q)), .val (.ref b6), .unset, .unset, .unset, .unset, .unset] [(.long ((Int32.ofNat Q).toInt64)), (.ref b6)])) _
    refine st8.trans ?_
    show Steps p.tables e below (T8.setTop (mkF m 74 #[.val (.int p1), .val (.int p2), .val (.int p3), .val (.long q4), .second, .val (.long q5), .second, .val (.int (Int32.ofNat N)), .val (.int (Int32.ofNat K)), .val (.int (Int32.ofNat I)), .val (.int (Int32.ofNat J)), .val (.int (Int32.ofNat Q)), .val (.ref b6), .unset, .unset, .unset, .unset, .unset] [(.long ((fun _ => (0 : Int64)) Q))])) _
    refine XS.lconst X8.here hx rfl (hb hby at_74) ?_
    show Steps p.tables e below (T8.setTop (mkF m 75 #[.val (.int p1), .val (.int p2), .val (.int p3), .val (.long q4), .second, .val (.long q5), .second, .val (.int (Int32.ofNat N)), .val (.int (Int32.ofNat K)), .val (.int (Int32.ofNat I)), .val (.int (Int32.ofNat J)), .val (.int (Int32.ofNat Q)), .val (.ref b6), .unset, .unset, .unset, .unset, .unset] [(.long (0 : Int64)), (.long ((fun _ => (0 : Int64)) Q))])) _
    refine XS.lcmp X8.here hx rfl (hb hby at_75) rfl ?_
    show Steps p.tables e below (T8.setTop (mkF m 76 #[.val (.int p1), .val (.int p2), .val (.int p3), .val (.long q4), .second, .val (.long q5), .second, .val (.int (Int32.ofNat N)), .val (.int (Int32.ofNat K)), .val (.int (Int32.ofNat I)), .val (.int (Int32.ofNat J)), .val (.int (Int32.ofNat Q)), .val (.ref b6), .unset, .unset, .unset, .unset, .unset] [(.int (lcmpW ((fun _ => (0 : Int64)) Q) (0 : Int64)))])) _
    refine XS.ifNo X8.here hx rfl (hb hby at_76) rfl ((if0 _ _).trans (teq (own_lc rfl : (lcmpW ((fun _ => (0 : Int64)) Q) (0 : Int64)) = (0 : Int32))).2) ?_
    show Steps p.tables e below (T8.setTop (mkF m 79 #[.val (.int p1), .val (.int p2), .val (.int p3), .val (.long q4), .second, .val (.long q5), .second, .val (.int (Int32.ofNat N)), .val (.int (Int32.ofNat K)), .val (.int (Int32.ofNat I)), .val (.int (Int32.ofNat J)), .val (.int (Int32.ofNat Q)), .val (.ref b6), .unset, .unset, .unset, .unset, .unset] [])) _
    refine XS.iconst X8.here hx rfl (hb hby at_79) ?_
    show Steps p.tables e below (T8.setTop (mkF m 80 #[.val (.int p1), .val (.int p2), .val (.int p3), .val (.long q4), .second, .val (.long q5), .second, .val (.int (Int32.ofNat N)), .val (.int (Int32.ofNat K)), .val (.int (Int32.ofNat I)), .val (.int (Int32.ofNat J)), .val (.int (Int32.ofNat Q)), .val (.ref b6), .unset, .unset, .unset, .unset, .unset] [(.int (1 : Int32))])) _
    refine XS.goto X8.here hx rfl (pc0 := 80) (pc' := 84) rfl (hb hby at_80) (by decide) (by decide) ?_
    show Steps p.tables e below (T8.setTop (mkF m 84 #[.val (.int p1), .val (.int p2), .val (.int p3), .val (.long q4), .second, .val (.long q5), .second, .val (.int (Int32.ofNat N)), .val (.int (Int32.ofNat K)), .val (.int (Int32.ofNat I)), .val (.int (Int32.ofNat J)), .val (.int (Int32.ofNat Q)), .val (.ref b6), .unset, .unset, .unset, .unset, .unset] [(.int (1 : Int32))])) _
    refine XS.istore X8.here hx rfl (hb hby at_84) rfl (l' := #[.val (.int p1), .val (.int p2), .val (.int p3), .val (.long q4), .second, .val (.long q5), .second, .val (.int (Int32.ofNat N)), .val (.int (Int32.ofNat K)), .val (.int (Int32.ofNat I)), .val (.int (Int32.ofNat J)), .val (.int (Int32.ofNat Q)), .val (.ref b6), .val (.int (1 : Int32)), .unset, .unset, .unset, .unset]) rfl ?_
    show Steps p.tables e below (T8.setTop (mkF m 86 #[.val (.int p1), .val (.int p2), .val (.int p3), .val (.long q4), .second, .val (.long q5), .second, .val (.int (Int32.ofNat N)), .val (.int (Int32.ofNat K)), .val (.int (Int32.ofNat I)), .val (.int (Int32.ofNat J)), .val (.int (Int32.ofNat Q)), .val (.ref b6), .val (.int (1 : Int32)), .unset, .unset, .unset, .unset] [])) _
    refine XS.aload X8.here hx rfl (hb hby at_86) rfl rfl ?_
    show Steps p.tables e below (T8.setTop (mkF m 88 #[.val (.int p1), .val (.int p2), .val (.int p3), .val (.long q4), .second, .val (.long q5), .second, .val (.int (Int32.ofNat N)), .val (.int (Int32.ofNat K)), .val (.int (Int32.ofNat I)), .val (.int (Int32.ofNat J)), .val (.int (Int32.ofNat Q)), .val (.ref b6), .val (.int (1 : Int32)), .unset, .unset, .unset, .unset] [(.ref b6)])) _
    refine XS.iload X8.here hx rfl (hb hby at_88) rfl ?_
    show Steps p.tables e below (T8.setTop (mkF m 90 #[.val (.int p1), .val (.int p2), .val (.int p3), .val (.long q4), .second, .val (.long q5), .second, .val (.int (Int32.ofNat N)), .val (.int (Int32.ofNat K)), .val (.int (Int32.ofNat I)), .val (.int (Int32.ofNat J)), .val (.int (Int32.ofNat Q)), .val (.ref b6), .val (.int (1 : Int32)), .unset, .unset, .unset, .unset] [(.int (Int32.ofNat I)), (.ref b6)])) _
    refine XS.i2l X8.here hx rfl (hb hby at_90) rfl ?_
    show Steps p.tables e below (T8.setTop (mkF m 91 #[.val (.int p1), .val (.int p2), .val (.int p3), .val (.long q4), .second, .val (.long q5), .second, .val (.int (Int32.ofNat N)), .val (.int (Int32.ofNat K)), .val (.int (Int32.ofNat I)), .val (.int (Int32.ofNat J)), .val (.int (Int32.ofNat Q)), .val (.ref b6), .val (.int (1 : Int32)), .unset, .unset, .unset, .unset] [(.long ((Int32.ofNat I).toInt64)), (.ref b6)])) _
    refine XS.lloadN X8.here hx rfl (hb hby at_91) rfl ?_
    show Steps p.tables e below (T8.setTop (mkF m 92 #[.val (.int p1), .val (.int p2), .val (.int p3), .val (.long q4), .second, .val (.long q5), .second, .val (.int (Int32.ofNat N)), .val (.int (Int32.ofNat K)), .val (.int (Int32.ofNat I)), .val (.int (Int32.ofNat J)), .val (.int (Int32.ofNat Q)), .val (.ref b6), .val (.int (1 : Int32)), .unset, .unset, .unset, .unset] [(.long q4), (.long ((Int32.ofNat I).toInt64)), (.ref b6)])) _
    refine st9.trans ?_
    show Steps p.tables e below (T9.setTop (mkF m 95 #[.val (.int p1), .val (.int p2), .val (.int p3), .val (.long q4), .second, .val (.long q5), .second, .val (.int (Int32.ofNat N)), .val (.int (Int32.ofNat K)), .val (.int (Int32.ofNat I)), .val (.int (Int32.ofNat J)), .val (.int (Int32.ofNat Q)), .val (.ref b6), .val (.int (1 : Int32)), .unset, .unset, .unset, .unset] [])) _
    refine XS.aload X9.here hx rfl (hb hby at_95) rfl rfl ?_
    show Steps p.tables e below (T9.setTop (mkF m 97 #[.val (.int p1), .val (.int p2), .val (.int p3), .val (.long q4), .second, .val (.long q5), .second, .val (.int (Int32.ofNat N)), .val (.int (Int32.ofNat K)), .val (.int (Int32.ofNat I)), .val (.int (Int32.ofNat J)), .val (.int (Int32.ofNat Q)), .val (.ref b6), .val (.int (1 : Int32)), .unset, .unset, .unset, .unset] [(.ref b6)])) _
    refine XS.iload X9.here hx rfl (hb hby at_97) rfl ?_
    show Steps p.tables e below (T9.setTop (mkF m 99 #[.val (.int p1), .val (.int p2), .val (.int p3), .val (.long q4), .second, .val (.long q5), .second, .val (.int (Int32.ofNat N)), .val (.int (Int32.ofNat K)), .val (.int (Int32.ofNat I)), .val (.int (Int32.ofNat J)), .val (.int (Int32.ofNat Q)), .val (.ref b6), .val (.int (1 : Int32)), .unset, .unset, .unset, .unset] [(.int (Int32.ofNat J)), (.ref b6)])) _
    refine XS.i2l X9.here hx rfl (hb hby at_99) rfl ?_
    show Steps p.tables e below (T9.setTop (mkF m 100 #[.val (.int p1), .val (.int p2), .val (.int p3), .val (.long q4), .second, .val (.long q5), .second, .val (.int (Int32.ofNat N)), .val (.int (Int32.ofNat K)), .val (.int (Int32.ofNat I)), .val (.int (Int32.ofNat J)), .val (.int (Int32.ofNat Q)), .val (.ref b6), .val (.int (1 : Int32)), .unset, .unset, .unset, .unset] [(.long ((Int32.ofNat J).toInt64)), (.ref b6)])) _
    refine XS.lload X9.here hx rfl (hb hby at_100) rfl ?_
    show Steps p.tables e below (T9.setTop (mkF m 102 #[.val (.int p1), .val (.int p2), .val (.int p3), .val (.long q4), .second, .val (.long q5), .second, .val (.int (Int32.ofNat N)), .val (.int (Int32.ofNat K)), .val (.int (Int32.ofNat I)), .val (.int (Int32.ofNat J)), .val (.int (Int32.ofNat Q)), .val (.ref b6), .val (.int (1 : Int32)), .unset, .unset, .unset, .unset] [(.long q5), (.long ((Int32.ofNat J).toInt64)), (.ref b6)])) _
    refine st10.trans ?_
    show Steps p.tables e below (T10.setTop (mkF m 105 #[.val (.int p1), .val (.int p2), .val (.int p3), .val (.long q4), .second, .val (.long q5), .second, .val (.int (Int32.ofNat N)), .val (.int (Int32.ofNat K)), .val (.int (Int32.ofNat I)), .val (.int (Int32.ofNat J)), .val (.int (Int32.ofNat Q)), .val (.ref b6), .val (.int (1 : Int32)), .unset, .unset, .unset, .unset] [])) _
    refine XS.iload X10.here hx rfl (hb hby at_105) rfl ?_
    show Steps p.tables e below (T10.setTop (mkF m 107 #[.val (.int p1), .val (.int p2), .val (.int p3), .val (.long q4), .second, .val (.long q5), .second, .val (.int (Int32.ofNat N)), .val (.int (Int32.ofNat K)), .val (.int (Int32.ofNat I)), .val (.int (Int32.ofNat J)), .val (.int (Int32.ofNat Q)), .val (.ref b6), .val (.int (1 : Int32)), .unset, .unset, .unset, .unset] [(.int (Int32.ofNat I))])) _
    refine XS.iload X10.here hx rfl (hb hby at_107) rfl ?_
    show Steps p.tables e below (T10.setTop (mkF m 109 #[.val (.int p1), .val (.int p2), .val (.int p3), .val (.long q4), .second, .val (.long q5), .second, .val (.int (Int32.ofNat N)), .val (.int (Int32.ofNat K)), .val (.int (Int32.ofNat I)), .val (.int (Int32.ofNat J)), .val (.int (Int32.ofNat Q)), .val (.ref b6), .val (.int (1 : Int32)), .unset, .unset, .unset, .unset] [(.int (Int32.ofNat J)), (.int (Int32.ofNat I))])) _
    refine XS.icmpYes X10.here hx rfl (pc0 := 109) (pc' := 117) rfl (hb hby at_109) rfl (feq hc109).2 (by decide) (by decide) ?_
    show Steps p.tables e below (T10.setTop (mkF m 117 #[.val (.int p1), .val (.int p2), .val (.int p3), .val (.long q4), .second, .val (.long q5), .second, .val (.int (Int32.ofNat N)), .val (.int (Int32.ofNat K)), .val (.int (Int32.ofNat I)), .val (.int (Int32.ofNat J)), .val (.int (Int32.ofNat Q)), .val (.ref b6), .val (.int (1 : Int32)), .unset, .unset, .unset, .unset] [])) _
    refine XS.lloadN X10.here hx rfl (hb hby at_117) rfl ?_
    show Steps p.tables e below (T10.setTop (mkF m 118 #[.val (.int p1), .val (.int p2), .val (.int p3), .val (.long q4), .second, .val (.long q5), .second, .val (.int (Int32.ofNat N)), .val (.int (Int32.ofNat K)), .val (.int (Int32.ofNat I)), .val (.int (Int32.ofNat J)), .val (.int (Int32.ofNat Q)), .val (.ref b6), .val (.int (1 : Int32)), .unset, .unset, .unset, .unset] [(.long q4)])) _
    refine XS.lstore X10.here hx rfl (hb hby at_118) rfl (l' := #[.val (.int p1), .val (.int p2), .val (.int p3), .val (.long q4), .second, .val (.long q5), .second, .val (.int (Int32.ofNat N)), .val (.int (Int32.ofNat K)), .val (.int (Int32.ofNat I)), .val (.int (Int32.ofNat J)), .val (.int (Int32.ofNat Q)), .val (.ref b6), .val (.int (1 : Int32)), .val (.long q4), .second, .unset, .unset]) rfl ?_
    show Steps p.tables e below (T10.setTop (mkF m 120 #[.val (.int p1), .val (.int p2), .val (.int p3), .val (.long q4), .second, .val (.long q5), .second, .val (.int (Int32.ofNat N)), .val (.int (Int32.ofNat K)), .val (.int (Int32.ofNat I)), .val (.int (Int32.ofNat J)), .val (.int (Int32.ofNat Q)), .val (.ref b6), .val (.int (1 : Int32)), .val (.long q4), .second, .unset, .unset] [])) _
    refine XS.iload X10.here hx rfl (hb hby at_120) rfl ?_
    show Steps p.tables e below (T10.setTop (mkF m 122 #[.val (.int p1), .val (.int p2), .val (.int p3), .val (.long q4), .second, .val (.long q5), .second, .val (.int (Int32.ofNat N)), .val (.int (Int32.ofNat K)), .val (.int (Int32.ofNat I)), .val (.int (Int32.ofNat J)), .val (.int (Int32.ofNat Q)), .val (.ref b6), .val (.int (1 : Int32)), .val (.long q4), .second, .unset, .unset] [(.int (Int32.ofNat Q))])) _
    refine XS.iload X10.here hx rfl (hb hby at_122) rfl ?_
    show Steps p.tables e below (T10.setTop (mkF m 124 #[.val (.int p1), .val (.int p2), .val (.int p3), .val (.long q4), .second, .val (.long q5), .second, .val (.int (Int32.ofNat N)), .val (.int (Int32.ofNat K)), .val (.int (Int32.ofNat I)), .val (.int (Int32.ofNat J)), .val (.int (Int32.ofNat Q)), .val (.ref b6), .val (.int (1 : Int32)), .val (.long q4), .second, .unset, .unset] [(.int (Int32.ofNat J)), (.int (Int32.ofNat Q))])) _
    refine XS.icmpNo X10.here hx rfl (hb hby at_124) rfl (teq hc124).2 ?_
    show Steps p.tables e below (T10.setTop (mkF m 127 #[.val (.int p1), .val (.int p2), .val (.int p3), .val (.long q4), .second, .val (.long q5), .second, .val (.int (Int32.ofNat N)), .val (.int (Int32.ofNat K)), .val (.int (Int32.ofNat I)), .val (.int (Int32.ofNat J)), .val (.int (Int32.ofNat Q)), .val (.ref b6), .val (.int (1 : Int32)), .val (.long q4), .second, .unset, .unset] [])) _
    refine XS.lload X10.here hx rfl (hb hby at_127) rfl ?_
    show Steps p.tables e below (T10.setTop (mkF m 129 #[.val (.int p1), .val (.int p2), .val (.int p3), .val (.long q4), .second, .val (.long q5), .second, .val (.int (Int32.ofNat N)), .val (.int (Int32.ofNat K)), .val (.int (Int32.ofNat I)), .val (.int (Int32.ofNat J)), .val (.int (Int32.ofNat Q)), .val (.ref b6), .val (.int (1 : Int32)), .val (.long q4), .second, .unset, .unset] [(.long q5)])) _
    refine XS.goto X10.here hx rfl (pc0 := 129) (pc' := 144) rfl (hb hby at_129) (by decide) (by decide) ?_
    show Steps p.tables e below (T10.setTop (mkF m 144 #[.val (.int p1), .val (.int p2), .val (.int p3), .val (.long q4), .second, .val (.long q5), .second, .val (.int (Int32.ofNat N)), .val (.int (Int32.ofNat K)), .val (.int (Int32.ofNat I)), .val (.int (Int32.ofNat J)), .val (.int (Int32.ofNat Q)), .val (.ref b6), .val (.int (1 : Int32)), .val (.long q4), .second, .unset, .unset] [(.long q5)])) _
    refine XS.lstore X10.here hx rfl (hb hby at_144) rfl (l' := #[.val (.int p1), .val (.int p2), .val (.int p3), .val (.long q4), .second, .val (.long q5), .second, .val (.int (Int32.ofNat N)), .val (.int (Int32.ofNat K)), .val (.int (Int32.ofNat I)), .val (.int (Int32.ofNat J)), .val (.int (Int32.ofNat Q)), .val (.ref b6), .val (.int (1 : Int32)), .val (.long q4), .second, .val (.long q5), .second]) rfl ?_
    show Steps p.tables e below (T10.setTop (mkF m 146 #[.val (.int p1), .val (.int p2), .val (.int p3), .val (.long q4), .second, .val (.long q5), .second, .val (.int (Int32.ofNat N)), .val (.int (Int32.ofNat K)), .val (.int (Int32.ofNat I)), .val (.int (Int32.ofNat J)), .val (.int (Int32.ofNat Q)), .val (.ref b6), .val (.int (1 : Int32)), .val (.long q4), .second, .val (.long q5), .second] [])) _
    refine XS.iload X10.here hx rfl (hb hby at_146) rfl ?_
    show Steps p.tables e below (T10.setTop (mkF m 148 #[.val (.int p1), .val (.int p2), .val (.int p3), .val (.long q4), .second, .val (.long q5), .second, .val (.int (Int32.ofNat N)), .val (.int (Int32.ofNat K)), .val (.int (Int32.ofNat I)), .val (.int (Int32.ofNat J)), .val (.int (Int32.ofNat Q)), .val (.ref b6), .val (.int (1 : Int32)), .val (.long q4), .second, .val (.long q5), .second] [(.int (1 : Int32))])) _
    refine XS.ifNo X10.here hx rfl (hb hby at_148) rfl ((if0 _ _).trans (feq hc148).1) ?_
    show Steps p.tables e below (T10.setTop (mkF m 151 #[.val (.int p1), .val (.int p2), .val (.int p3), .val (.long q4), .second, .val (.long q5), .second, .val (.int (Int32.ofNat N)), .val (.int (Int32.ofNat K)), .val (.int (Int32.ofNat I)), .val (.int (Int32.ofNat J)), .val (.int (Int32.ofNat Q)), .val (.ref b6), .val (.int (1 : Int32)), .val (.long q4), .second, .val (.long q5), .second] [])) _
    refine XS.aload X10.here hx rfl (hb hby at_151) rfl rfl ?_
    show Steps p.tables e below (T10.setTop (mkF m 153 #[.val (.int p1), .val (.int p2), .val (.int p3), .val (.long q4), .second, .val (.long q5), .second, .val (.int (Int32.ofNat N)), .val (.int (Int32.ofNat K)), .val (.int (Int32.ofNat I)), .val (.int (Int32.ofNat J)), .val (.int (Int32.ofNat Q)), .val (.ref b6), .val (.int (1 : Int32)), .val (.long q4), .second, .val (.long q5), .second] [(.ref b6)])) _
    refine XS.iload X10.here hx rfl (hb hby at_153) rfl ?_
    show Steps p.tables e below (T10.setTop (mkF m 155 #[.val (.int p1), .val (.int p2), .val (.int p3), .val (.long q4), .second, .val (.long q5), .second, .val (.int (Int32.ofNat N)), .val (.int (Int32.ofNat K)), .val (.int (Int32.ofNat I)), .val (.int (Int32.ofNat J)), .val (.int (Int32.ofNat Q)), .val (.ref b6), .val (.int (1 : Int32)), .val (.long q4), .second, .val (.long q5), .second] [(.int (Int32.ofNat I)), (.ref b6)])) _
    refine XS.i2l X10.here hx rfl (hb hby at_155) rfl ?_
    show Steps p.tables e below (T10.setTop (mkF m 156 #[.val (.int p1), .val (.int p2), .val (.int p3), .val (.long q4), .second, .val (.long q5), .second, .val (.int (Int32.ofNat N)), .val (.int (Int32.ofNat K)), .val (.int (Int32.ofNat I)), .val (.int (Int32.ofNat J)), .val (.int (Int32.ofNat Q)), .val (.ref b6), .val (.int (1 : Int32)), .val (.long q4), .second, .val (.long q5), .second] [(.long ((Int32.ofNat I).toInt64)), (.ref b6)])) _
    refine st11.trans ?_
    show Steps p.tables e below (T11.setTop (mkF m 159 #[.val (.int p1), .val (.int p2), .val (.int p3), .val (.long q4), .second, .val (.long q5), .second, .val (.int (Int32.ofNat N)), .val (.int (Int32.ofNat K)), .val (.int (Int32.ofNat I)), .val (.int (Int32.ofNat J)), .val (.int (Int32.ofNat Q)), .val (.ref b6), .val (.int (1 : Int32)), .val (.long q4), .second, .val (.long q5), .second] [(.long ((upd (upd (fun _ => (0 : Int64)) I q4) J q5) I))])) _
    refine XS.lload X11.here hx rfl (hb hby at_159) rfl ?_
    show Steps p.tables e below (T11.setTop (mkF m 161 #[.val (.int p1), .val (.int p2), .val (.int p3), .val (.long q4), .second, .val (.long q5), .second, .val (.int (Int32.ofNat N)), .val (.int (Int32.ofNat K)), .val (.int (Int32.ofNat I)), .val (.int (Int32.ofNat J)), .val (.int (Int32.ofNat Q)), .val (.ref b6), .val (.int (1 : Int32)), .val (.long q4), .second, .val (.long q5), .second] [(.long q4), (.long ((upd (upd (fun _ => (0 : Int64)) I q4) J q5) I))])) _
    refine XS.lcmp X11.here hx rfl (hb hby at_161) rfl ?_
    show Steps p.tables e below (T11.setTop (mkF m 162 #[.val (.int p1), .val (.int p2), .val (.int p3), .val (.long q4), .second, .val (.long q5), .second, .val (.int (Int32.ofNat N)), .val (.int (Int32.ofNat K)), .val (.int (Int32.ofNat I)), .val (.int (Int32.ofNat J)), .val (.int (Int32.ofNat Q)), .val (.ref b6), .val (.int (1 : Int32)), .val (.long q4), .second, .val (.long q5), .second] [(.int (lcmpW ((upd (upd (fun _ => (0 : Int64)) I q4) J q5) I) q4))])) _
    refine XS.ifNo X11.here hx rfl (hb hby at_162) rfl ((if0 _ _).trans (teq (own_lc (by simp [upd, hIJ]) : (lcmpW ((upd (upd (fun _ => (0 : Int64)) I q4) J q5) I) q4) = (0 : Int32))).2) ?_
    show Steps p.tables e below (T11.setTop (mkF m 165 #[.val (.int p1), .val (.int p2), .val (.int p3), .val (.long q4), .second, .val (.long q5), .second, .val (.int (Int32.ofNat N)), .val (.int (Int32.ofNat K)), .val (.int (Int32.ofNat I)), .val (.int (Int32.ofNat J)), .val (.int (Int32.ofNat Q)), .val (.ref b6), .val (.int (1 : Int32)), .val (.long q4), .second, .val (.long q5), .second] [])) _
    refine XS.aload X11.here hx rfl (hb hby at_165) rfl rfl ?_
    show Steps p.tables e below (T11.setTop (mkF m 167 #[.val (.int p1), .val (.int p2), .val (.int p3), .val (.long q4), .second, .val (.long q5), .second, .val (.int (Int32.ofNat N)), .val (.int (Int32.ofNat K)), .val (.int (Int32.ofNat I)), .val (.int (Int32.ofNat J)), .val (.int (Int32.ofNat Q)), .val (.ref b6), .val (.int (1 : Int32)), .val (.long q4), .second, .val (.long q5), .second] [(.ref b6)])) _
    refine XS.iload X11.here hx rfl (hb hby at_167) rfl ?_
    show Steps p.tables e below (T11.setTop (mkF m 169 #[.val (.int p1), .val (.int p2), .val (.int p3), .val (.long q4), .second, .val (.long q5), .second, .val (.int (Int32.ofNat N)), .val (.int (Int32.ofNat K)), .val (.int (Int32.ofNat I)), .val (.int (Int32.ofNat J)), .val (.int (Int32.ofNat Q)), .val (.ref b6), .val (.int (1 : Int32)), .val (.long q4), .second, .val (.long q5), .second] [(.int (Int32.ofNat J)), (.ref b6)])) _
    refine XS.i2l X11.here hx rfl (hb hby at_169) rfl ?_
    show Steps p.tables e below (T11.setTop (mkF m 170 #[.val (.int p1), .val (.int p2), .val (.int p3), .val (.long q4), .second, .val (.long q5), .second, .val (.int (Int32.ofNat N)), .val (.int (Int32.ofNat K)), .val (.int (Int32.ofNat I)), .val (.int (Int32.ofNat J)), .val (.int (Int32.ofNat Q)), .val (.ref b6), .val (.int (1 : Int32)), .val (.long q4), .second, .val (.long q5), .second] [(.long ((Int32.ofNat J).toInt64)), (.ref b6)])) _
    refine st12.trans ?_
    show Steps p.tables e below (T12.setTop (mkF m 173 #[.val (.int p1), .val (.int p2), .val (.int p3), .val (.long q4), .second, .val (.long q5), .second, .val (.int (Int32.ofNat N)), .val (.int (Int32.ofNat K)), .val (.int (Int32.ofNat I)), .val (.int (Int32.ofNat J)), .val (.int (Int32.ofNat Q)), .val (.ref b6), .val (.int (1 : Int32)), .val (.long q4), .second, .val (.long q5), .second] [(.long ((upd (upd (fun _ => (0 : Int64)) I q4) J q5) J))])) _
    refine XS.lload X12.here hx rfl (hb hby at_173) rfl ?_
    show Steps p.tables e below (T12.setTop (mkF m 175 #[.val (.int p1), .val (.int p2), .val (.int p3), .val (.long q4), .second, .val (.long q5), .second, .val (.int (Int32.ofNat N)), .val (.int (Int32.ofNat K)), .val (.int (Int32.ofNat I)), .val (.int (Int32.ofNat J)), .val (.int (Int32.ofNat Q)), .val (.ref b6), .val (.int (1 : Int32)), .val (.long q4), .second, .val (.long q5), .second] [(.long q5), (.long ((upd (upd (fun _ => (0 : Int64)) I q4) J q5) J))])) _
    refine XS.lcmp X12.here hx rfl (hb hby at_175) rfl ?_
    show Steps p.tables e below (T12.setTop (mkF m 176 #[.val (.int p1), .val (.int p2), .val (.int p3), .val (.long q4), .second, .val (.long q5), .second, .val (.int (Int32.ofNat N)), .val (.int (Int32.ofNat K)), .val (.int (Int32.ofNat I)), .val (.int (Int32.ofNat J)), .val (.int (Int32.ofNat Q)), .val (.ref b6), .val (.int (1 : Int32)), .val (.long q4), .second, .val (.long q5), .second] [(.int (lcmpW ((upd (upd (fun _ => (0 : Int64)) I q4) J q5) J) q5))])) _
    refine XS.ifNo X12.here hx rfl (hb hby at_176) rfl ((if0 _ _).trans (teq (own_lc (by simp [upd]) : (lcmpW ((upd (upd (fun _ => (0 : Int64)) I q4) J q5) J) q5) = (0 : Int32))).2) ?_
    show Steps p.tables e below (T12.setTop (mkF m 179 #[.val (.int p1), .val (.int p2), .val (.int p3), .val (.long q4), .second, .val (.long q5), .second, .val (.int (Int32.ofNat N)), .val (.int (Int32.ofNat K)), .val (.int (Int32.ofNat I)), .val (.int (Int32.ofNat J)), .val (.int (Int32.ofNat Q)), .val (.ref b6), .val (.int (1 : Int32)), .val (.long q4), .second, .val (.long q5), .second] [])) _
    refine XS.aload X12.here hx rfl (hb hby at_179) rfl rfl ?_
    show Steps p.tables e below (T12.setTop (mkF m 181 #[.val (.int p1), .val (.int p2), .val (.int p3), .val (.long q4), .second, .val (.long q5), .second, .val (.int (Int32.ofNat N)), .val (.int (Int32.ofNat K)), .val (.int (Int32.ofNat I)), .val (.int (Int32.ofNat J)), .val (.int (Int32.ofNat Q)), .val (.ref b6), .val (.int (1 : Int32)), .val (.long q4), .second, .val (.long q5), .second] [(.ref b6)])) _
    refine XS.iload X12.here hx rfl (hb hby at_181) rfl ?_
    show Steps p.tables e below (T12.setTop (mkF m 183 #[.val (.int p1), .val (.int p2), .val (.int p3), .val (.long q4), .second, .val (.long q5), .second, .val (.int (Int32.ofNat N)), .val (.int (Int32.ofNat K)), .val (.int (Int32.ofNat I)), .val (.int (Int32.ofNat J)), .val (.int (Int32.ofNat Q)), .val (.ref b6), .val (.int (1 : Int32)), .val (.long q4), .second, .val (.long q5), .second] [(.int (Int32.ofNat Q)), (.ref b6)])) _
    refine XS.i2l X12.here hx rfl (hb hby at_183) rfl ?_
    show Steps p.tables e below (T12.setTop (mkF m 184 #[.val (.int p1), .val (.int p2), .val (.int p3), .val (.long q4), .second, .val (.long q5), .second, .val (.int (Int32.ofNat N)), .val (.int (Int32.ofNat K)), .val (.int (Int32.ofNat I)), .val (.int (Int32.ofNat J)), .val (.int (Int32.ofNat Q)), .val (.ref b6), .val (.int (1 : Int32)), .val (.long q4), .second, .val (.long q5), .second] [(.long ((Int32.ofNat Q).toInt64)), (.ref b6)])) _
    refine st13.trans ?_
    show Steps p.tables e below (T13.setTop (mkF m 187 #[.val (.int p1), .val (.int p2), .val (.int p3), .val (.long q4), .second, .val (.long q5), .second, .val (.int (Int32.ofNat N)), .val (.int (Int32.ofNat K)), .val (.int (Int32.ofNat I)), .val (.int (Int32.ofNat J)), .val (.int (Int32.ofNat Q)), .val (.ref b6), .val (.int (1 : Int32)), .val (.long q4), .second, .val (.long q5), .second] [(.long ((upd (upd (fun _ => (0 : Int64)) I q4) J q5) Q))])) _
    refine XS.lload X13.here hx rfl (hb hby at_187) rfl ?_
    show Steps p.tables e below (T13.setTop (mkF m 189 #[.val (.int p1), .val (.int p2), .val (.int p3), .val (.long q4), .second, .val (.long q5), .second, .val (.int (Int32.ofNat N)), .val (.int (Int32.ofNat K)), .val (.int (Int32.ofNat I)), .val (.int (Int32.ofNat J)), .val (.int (Int32.ofNat Q)), .val (.ref b6), .val (.int (1 : Int32)), .val (.long q4), .second, .val (.long q5), .second] [(.long q5), (.long ((upd (upd (fun _ => (0 : Int64)) I q4) J q5) Q))])) _
    refine XS.lcmp X13.here hx rfl (hb hby at_189) rfl ?_
    show Steps p.tables e below (T13.setTop (mkF m 190 #[.val (.int p1), .val (.int p2), .val (.int p3), .val (.long q4), .second, .val (.long q5), .second, .val (.int (Int32.ofNat N)), .val (.int (Int32.ofNat K)), .val (.int (Int32.ofNat I)), .val (.int (Int32.ofNat J)), .val (.int (Int32.ofNat Q)), .val (.ref b6), .val (.int (1 : Int32)), .val (.long q4), .second, .val (.long q5), .second] [(.int (lcmpW ((upd (upd (fun _ => (0 : Int64)) I q4) J q5) Q) q5))])) _
    refine XS.ifNo X13.here hx rfl (hb hby at_190) rfl ((if0 _ _).trans (teq (own_lc (by simp [upd, hQJ]) : (lcmpW ((upd (upd (fun _ => (0 : Int64)) I q4) J q5) Q) q5) = (0 : Int32))).2) ?_
    show Steps p.tables e below (T13.setTop (mkF m 193 #[.val (.int p1), .val (.int p2), .val (.int p3), .val (.long q4), .second, .val (.long q5), .second, .val (.int (Int32.ofNat N)), .val (.int (Int32.ofNat K)), .val (.int (Int32.ofNat I)), .val (.int (Int32.ofNat J)), .val (.int (Int32.ofNat Q)), .val (.ref b6), .val (.int (1 : Int32)), .val (.long q4), .second, .val (.long q5), .second] [])) _
    refine XS.aload X13.here hx rfl (hb hby at_193) rfl rfl ?_
    show Steps p.tables e below (T13.setTop (mkF m 195 #[.val (.int p1), .val (.int p2), .val (.int p3), .val (.long q4), .second, .val (.long q5), .second, .val (.int (Int32.ofNat N)), .val (.int (Int32.ofNat K)), .val (.int (Int32.ofNat I)), .val (.int (Int32.ofNat J)), .val (.int (Int32.ofNat Q)), .val (.ref b6), .val (.int (1 : Int32)), .val (.long q4), .second, .val (.long q5), .second] [(.ref b6)])) _
    refine st14.trans ?_
    show Steps p.tables e below (T14.setTop (mkF m 198 #[.val (.int p1), .val (.int p2), .val (.int p3), .val (.long q4), .second, .val (.long q5), .second, .val (.int (Int32.ofNat N)), .val (.int (Int32.ofNat K)), .val (.int (Int32.ofNat I)), .val (.int (Int32.ofNat J)), .val (.int (Int32.ofNat Q)), .val (.ref b6), .val (.int (1 : Int32)), .val (.long q4), .second, .val (.long q5), .second] [(.long (Int64.ofNat N))])) _
    refine XS.iload X14.here hx rfl (hb hby at_198) rfl ?_
    show Steps p.tables e below (T14.setTop (mkF m 200 #[.val (.int p1), .val (.int p2), .val (.int p3), .val (.long q4), .second, .val (.long q5), .second, .val (.int (Int32.ofNat N)), .val (.int (Int32.ofNat K)), .val (.int (Int32.ofNat I)), .val (.int (Int32.ofNat J)), .val (.int (Int32.ofNat Q)), .val (.ref b6), .val (.int (1 : Int32)), .val (.long q4), .second, .val (.long q5), .second] [(.int (Int32.ofNat N)), (.long (Int64.ofNat N))])) _
    refine XS.i2l X14.here hx rfl (hb hby at_200) rfl ?_
    show Steps p.tables e below (T14.setTop (mkF m 201 #[.val (.int p1), .val (.int p2), .val (.int p3), .val (.long q4), .second, .val (.long q5), .second, .val (.int (Int32.ofNat N)), .val (.int (Int32.ofNat K)), .val (.int (Int32.ofNat I)), .val (.int (Int32.ofNat J)), .val (.int (Int32.ofNat Q)), .val (.ref b6), .val (.int (1 : Int32)), .val (.long q4), .second, .val (.long q5), .second] [(.long ((Int32.ofNat N).toInt64)), (.long (Int64.ofNat N))])) _
    refine XS.lcmp X14.here hx rfl (hb hby at_201) rfl ?_
    show Steps p.tables e below (T14.setTop (mkF m 202 #[.val (.int p1), .val (.int p2), .val (.int p3), .val (.long q4), .second, .val (.long q5), .second, .val (.int (Int32.ofNat N)), .val (.int (Int32.ofNat K)), .val (.int (Int32.ofNat I)), .val (.int (Int32.ofNat J)), .val (.int (Int32.ofNat Q)), .val (.ref b6), .val (.int (1 : Int32)), .val (.long q4), .second, .val (.long q5), .second] [(.int (lcmpW (Int64.ofNat N) ((Int32.ofNat N).toInt64)))])) _
    refine XS.ifNo X14.here hx rfl (hb hby at_202) rfl ((if0 _ _).trans (teq (own_lc (own_l hN rfl).symm : (lcmpW (Int64.ofNat N) ((Int32.ofNat N).toInt64)) = (0 : Int32))).2) ?_
    show Steps p.tables e below (T14.setTop (mkF m 205 #[.val (.int p1), .val (.int p2), .val (.int p3), .val (.long q4), .second, .val (.long q5), .second, .val (.int (Int32.ofNat N)), .val (.int (Int32.ofNat K)), .val (.int (Int32.ofNat I)), .val (.int (Int32.ofNat J)), .val (.int (Int32.ofNat Q)), .val (.ref b6), .val (.int (1 : Int32)), .val (.long q4), .second, .val (.long q5), .second] [])) _
    refine XS.iconst X14.here hx rfl (hb hby at_205) ?_
    show Steps p.tables e below (T14.setTop (mkF m 206 #[.val (.int p1), .val (.int p2), .val (.int p3), .val (.long q4), .second, .val (.long q5), .second, .val (.int (Int32.ofNat N)), .val (.int (Int32.ofNat K)), .val (.int (Int32.ofNat I)), .val (.int (Int32.ofNat J)), .val (.int (Int32.ofNat Q)), .val (.ref b6), .val (.int (1 : Int32)), .val (.long q4), .second, .val (.long q5), .second] [(.int (1 : Int32))])) _
    refine XS.goto X14.here hx rfl (pc0 := 206) (pc' := 210) rfl (hb hby at_206) (by decide) (by decide) ?_
    show Steps p.tables e below (T14.setTop (mkF m 210 #[.val (.int p1), .val (.int p2), .val (.int p3), .val (.long q4), .second, .val (.long q5), .second, .val (.int (Int32.ofNat N)), .val (.int (Int32.ofNat K)), .val (.int (Int32.ofNat I)), .val (.int (Int32.ofNat J)), .val (.int (Int32.ofNat Q)), .val (.ref b6), .val (.int (1 : Int32)), .val (.long q4), .second, .val (.long q5), .second] [(.int (1 : Int32))])) _
    exact retN X14 hx (t := .boolean) Bd.returns (by simp) (hb hby at_210) hr
  · show Q0_c Z p1 p2 p3 q4 q5 N K I J Q h0 n0 _ T14.heap _
    exact ⟨rfl, N14⟩
def Q0_d (Z : State) (p1 : Int32) (p2 : Int32) (p3 : Int32) (q4 : Int64) (q5 : Int64) (N : Nat) (K : Nat) (I : Nat) (J : Nat) (Q : Nat) (h0 : Heap) (n0 : Nat) (v : Option Value) (h : Heap) (L : List Loc) : Prop := v = some (.int (1 : Int32)) ∧ Fr n0 L
set_option maxRecDepth 65536 in
set_option maxHeartbeats 40000000 in
theorem rm0_d (l : Launch) (Z : State) (a0 : Array Value) (hw : ∀ d ∈ tables_1, d.before a0 Z = true) (ws : List Jvm.Cond) (p1 : Int32) (p2 : Int32) (p3 : Int32) (q4 : Int64) (q5 : Int64) (N : Nat) (K : Nat) (I : Nat) (J : Nat) (Q : Nat) (h0 : Heap) (n0 : Nat) (Z0 : n0 ≤ h0.size) (hvN : ((1 : Int32) + (p1 &&& (15 : Int32))) = (Int32.ofNat N)) (hvK : ((p2 &&& (2147483647 : Int32)) % (5 : Int32)) = (Int32.ofNat K)) (hnz23 : ¬ ((Int32.ofNat N) = (0 : Int32))) (hvI : ((p3 &&& (255 : Int32)) % (Int32.ofNat N)) = (Int32.ofNat I)) (hnz36 : ¬ ((Int32.ofNat N) = (0 : Int32))) (hvJ : ((((p3.toUInt32 >>> ((8 : Int32) &&& 31).toUInt32).toInt32) &&& (255 : Int32)) % (Int32.ofNat N)) = (Int32.ofNat J)) (hnz49 : ¬ ((Int32.ofNat N) = (0 : Int32))) (hvQ : ((((p3.toUInt32 >>> ((16 : Int32) &&& 31).toUInt32).toInt32) &&& (255 : Int32)) % (Int32.ofNat N)) = (Int32.ofNat Q)) (hc109 : ¬ ((Int32.ofNat I) = (Int32.ofNat J))) (hc124 : ¬ ((Int32.ofNat Q) = (Int32.ofNat J))) (hc136 : (Int32.ofNat Q) = (Int32.ofNat I)) (hc148 : ¬ ((1 : Int32) = (0 : Int32))) (hN1 : 1 ≤ N) (hN : N ≤ 16) (hKK : K ≤ 4) (hI : I < N) (hJ : J < N) (hQ : Q < N) (hIJ : I ≠ J) (hQJ : Q ≠ J) (hQI : Q = I) :
    MetFree l x (head1 (Jvm.Cond.code x code maxLocals ret :: ws) room_1) (fun a U => a = #[(.int p1), (.int p2), (.int p3), (.long q4), (.long q5)] ∧ Z.Warmed39 U.vm ∧ U.heap = h0) (fun _ _ _ _ _ => True) (fun _ U o U' => ∃ v L, o = .returned v ∧ Q0_d Z p1 p2 p3 q4 q5 N K I J Q h0 n0 v U'.heap L ∧ FrameEnd U o U' L room_1.cells room_1.slots) := by
  refine MetFree.of_bodySF (plainFor_of_name pn_0) hisR ?_
  intro p e s m args below meth c s₁ Bd hml0 hP hK
  obtain ⟨rfl, hZ, hh⟩ := hP
  have hx := Bd.exec
  have hby := Bd.bytes
  have hml : c.maxLocals = 18 := hml0
  have hown : s.vm.findClass "com/example/cowbird/cowbird/table/WordsGetPinLaw" = some m.cls := findClass_of_methodNamed Bd.named
  have hnm := (name_of_methodNamed Bd.named Bd.method).1
  have X0 : Stand p l e room_1 s m #[(.int p1), (.int p2), (.int p3), (.long q4), (.long q5)] below meth c s₁ [] 0 0 := Stand.of_body Bd
  have e0 : s₁.heap = h0 := by rw [← hh, Bd.state]; rfl
  have N0 := Fr.nil n0
  have pre0 : ∀ t, Steps p.tables e below (s₁.setTop (mkF m 0 #[.val (.int p1), .val (.int p2), .val (.int p3), .val (.long q4), .second, .val (.long q5), .second, .unset, .unset, .unset, .unset, .unset, .unset, .unset, .unset, .unset, .unset, .unset] [])) t → Steps p.tables e below (s₁.setTop (entryFrame m #[(.int p1), (.int p2), (.int p3), (.long q4), (.long q5)] maxLocals)) t := fun t k => castTop (ef_0 m p1 p2 p3 q4 q5) k

  obtain ⟨T6, h6, X6, e6, E6, A6, D6, -, st6⟩ := newO X0 hx hZ hown (hw _ (List.mem_of_getElem? (i := 1) rfl)) (hw _ (List.mem_of_getElem? (i := 2) rfl)) (hw _ (List.mem_of_getElem? (i := 3) rfl)) e0 (g := (mkF m 52 #[.val (.int p1), .val (.int p2), .val (.int p3), .val (.long q4), .second, .val (.long q5), .second, .val (.int (Int32.ofNat N)), .val (.int (Int32.ofNat K)), .val (.int (Int32.ofNat I)), .val (.int (Int32.ofNat J)), .val (.int (Int32.ofNat Q)), .unset, .unset, .unset, .unset, .unset, .unset] [])) rfl (hb hby at_52) (by decide) (by decide)
  obtain ⟨b6, g6⟩ : ∃ z, z = h0.size := ⟨_, rfl⟩
  rw [← g6] at A6 D6 st6
  have F_pages_b6 : Fld Z h6 b6 "com/example/cowbird/cowbird/table/Words" "pages" "[[J" .null := D6 (Or.inr (hw _ (List.mem_of_getElem? (i := 19) rfl))) (ty := (.array (.array .long))) (by decide)
  have F_pageShift_b6 : Fld Z h6 b6 "com/example/cowbird/cowbird/table/Words" "pageShift" "I" (.int (0 : Int32)) := D6 (Or.inr (hw _ (List.mem_of_getElem? (i := 21) rfl))) (ty := .int) (by decide)
  have F_pageMask_b6 : Fld Z h6 b6 "com/example/cowbird/cowbird/table/Words" "pageMask" "J" (.long (0 : Int64)) := D6 (Or.inr (hw _ (List.mem_of_getElem? (i := 23) rfl))) (ty := .long) (by decide)
  have F_length_b6 : Fld Z h6 b6 "com/example/cowbird/cowbird/table/Words" "length" "J" (.long (0 : Int64)) := D6 (Or.inr (hw _ (List.mem_of_getElem? (i := 25) rfl))) (ty := .long) (by decide)
  have E_b6 := A6
  have g_b6 : n0 ≤ b6 := Nat.le_trans Z0 (Nat.le_of_eq g6.symm)
  have sz_b6 : h0.size ≤ b6 := (Nat.le_trans (Keep.refl h0 []).1 (Nat.le_of_eq g6.symm))
  have K6 : Keep h0 h6 [] := (Keep.refl h0 []).ext E6

  obtain ⟨_, _, ⟨T7, L7, k7, n7⟩, -, X7, ⟨Lc7, hQ7, l7, y7, z7⟩, st7⟩ := X6.specialBack hx (y := (⟨"com/example/cowbird/cowbird/table/Words", "<init>", "(JI)V"⟩ : MethodName)) rfl hown (mvT hZ (hw _ (List.mem_of_getElem? (i := 4) rfl))) (mvT hZ (hw _ (List.mem_of_getElem? (i := 5) rfl))) (mvT hZ (hw _ (List.mem_of_getElem? (i := 6) rfl))) (by decide) (backOf (W := 1) (rm1 l Z a0 hw [] b6 ((Int32.ofNat N).toInt64) (Int32.ofNat K) N K hN1 hN hKK (own_l hN rfl) rfl h6 n0 (Nat.le_trans Z0 E6.1) E_b6 F_pages_b6 F_pageShift_b6 F_pageMask_b6 F_length_b6 g_b6) hZ (hw _ (List.mem_of_getElem? (i := 6) rfl)) (hw _ (List.mem_of_getElem? (i := 3) rfl)) (by decide) (by decide)) (g := (mkF m 61 #[.val (.int p1), .val (.int p2), .val (.int p3), .val (.long q4), .second, .val (.long q5), .second, .val (.int (Int32.ofNat N)), .val (.int (Int32.ofNat K)), .val (.int (Int32.ofNat I)), .val (.int (Int32.ofNat J)), .val (.int (Int32.ofNat Q)), .unset, .unset, .unset, .unset, .unset, .unset] [(.int (Int32.ofNat K)), (.long ((Int32.ofNat N).toInt64)), (.ref b6), (.ref b6)])) rfl (by rw [hml]; rfl) (Steps.refl _) (a := b6) (argsL := [(.long ((Int32.ofNat N).toInt64)), (.int (Int32.ofNat K))]) (rest := [(.ref b6)]) (lenOf pd_0_0 rfl) rfl (by show 2 * 0 + _ ≤ _; exact Nat.le_of_eq rfl) (hb hby at_61) (fun _ _ => ⟨rfl, e6, (by decide : 1 + 17 ≤ _), (by decide : 4 + 32 ≤ _)⟩)
  dsimp only [Pt.U, Pt.locs, Pt.cells, Pt.slots] at X7 l7 y7 z7 st7 hQ7
  subst l7 y7 z7
  obtain ⟨rfl, N7q, P, pa, gP, W7⟩ := hQ7
  have zz7 : n0 ≤ T7.heap.size := Nat.le_trans gP (Nat.le_of_lt W7.lt)
  have N7 := Fr.app N0 N7q

  obtain ⟨cq8, kq8, q8a, q8b, q8c⟩ := isOf hZ rfl W7.1
  obtain ⟨_, _, ⟨T8, L8, k8, n8⟩, -, X8, ⟨Lc8, hQ8, l8, y8, z8⟩, st8⟩ := X7.virtualBack hx (y := (⟨"com/example/cowbird/cowbird/table/Words", "get", "(J)J"⟩ : MethodName)) (z := (⟨"com/example/cowbird/cowbird/table/Words", "get", "(J)J"⟩ : MethodName)) hown (mvT hZ (hw _ (List.mem_of_getElem? (i := 35) rfl))) (mvT hZ (hw _ (List.mem_of_getElem? (i := 36) rfl))) (notFace_of_selects (args := #[]) (mvT hZ (hw _ (List.mem_of_getElem? (i := 38) rfl)))) (mvT hZ (hw _ (List.mem_of_getElem? (i := 38) rfl))) (mvT hZ (hw _ (List.mem_of_getElem? (i := 37) rfl))) (by decide) (backOf (W := 0) (Wd.get l Z a0 hw hN hKK (zz7) W7 hQ (own_l (by omega) rfl)) hZ (hw _ (List.mem_of_getElem? (i := 39) rfl)) (hw _ (List.mem_of_getElem? (i := 3) rfl)) (by decide) (by decide)) q8a q8c (g := (mkF m 71 #[.val (.int p1), .val (.int p2), .val (.int p3), .val (.long q4), .second, .val (.long q5), .second, .val (.int (Int32.ofNat N)), .val (.int (Int32.ofNat K)), .val (.int (Int32.ofNat I)), .val (.int (Int32.ofNat J)), .val (.int (Int32.ofNat Q)), .val (.ref b6), .unset, .unset, .unset, .unset, .unset] [(.long ((Int32.ofNat Q).toInt64)), (.ref b6)])) rfl (by rw [hml]; rfl) (Steps.refl _) (argsL := [(.long ((Int32.ofNat Q).toInt64))]) (rest := []) (lenOf pd_0_6 rfl) rfl (by show 2 * 0 + _ ≤ _; exact Nat.le_of_eq rfl) (hb hby at_71) (fun _ _ => ⟨rfl, rfl, (by decide : 1 + 17 + 0 ≤ _), (by decide : 4 + 32 + 0 ≤ _)⟩)
  dsimp only [Pt.U, Pt.locs, Pt.cells, Pt.slots] at X8 l8 y8 z8 st8 hQ8
  subst l8 y8 z8
  obtain ⟨rfl, N8q, eQ8⟩ := hQ8
  have W8 : Wd Z T8.heap b6 P pa N K (np N K) (fun _ => (0 : Int64)) := by rw [eQ8]; exact W7
  have zz8 : n0 ≤ T8.heap.size := Nat.le_trans gP (Nat.le_of_lt W8.lt)
  have N8 := Fr.app N7 N8q

  obtain ⟨cq9, kq9, q9a, q9b, q9c⟩ := isOf hZ rfl W8.1
  obtain ⟨_, _, ⟨T9, L9, k9, n9⟩, -, X9, ⟨Lc9, hQ9, l9, y9, z9⟩, st9⟩ := X8.virtualBack hx (y := (⟨"com/example/cowbird/cowbird/table/Words", "set", "(JJ)V"⟩ : MethodName)) (z := (⟨"com/example/cowbird/cowbird/table/Words", "set", "(JJ)V"⟩ : MethodName)) hown (mvT hZ (hw _ (List.mem_of_getElem? (i := 40) rfl))) (mvT hZ (hw _ (List.mem_of_getElem? (i := 41) rfl))) (notFace_of_selects (args := #[]) (mvT hZ (hw _ (List.mem_of_getElem? (i := 43) rfl)))) (mvT hZ (hw _ (List.mem_of_getElem? (i := 43) rfl))) (mvT hZ (hw _ (List.mem_of_getElem? (i := 42) rfl))) (by decide) (backOf (W := 0) (Wd.put l Z a0 hw hN hKK (zz8) gP W8 hI (own_l (by omega) rfl) q4) hZ (hw _ (List.mem_of_getElem? (i := 44) rfl)) (hw _ (List.mem_of_getElem? (i := 3) rfl)) (by decide) (by decide)) q9a q9c (g := (mkF m 92 #[.val (.int p1), .val (.int p2), .val (.int p3), .val (.long q4), .second, .val (.long q5), .second, .val (.int (Int32.ofNat N)), .val (.int (Int32.ofNat K)), .val (.int (Int32.ofNat I)), .val (.int (Int32.ofNat J)), .val (.int (Int32.ofNat Q)), .val (.ref b6), .val (.int (1 : Int32)), .unset, .unset, .unset, .unset] [(.long q4), (.long ((Int32.ofNat I).toInt64)), (.ref b6)])) rfl (by rw [hml]; rfl) (Steps.refl _) (argsL := [(.long ((Int32.ofNat I).toInt64)), (.long q4)]) (rest := []) (lenOf pd_0_7 rfl) rfl (by show 2 * 0 + _ ≤ _; exact Nat.le_of_eq rfl) (hb hby at_92) (fun _ _ => ⟨rfl, rfl, (by decide : 1 + 17 + 0 ≤ _), (by decide : 4 + 32 + 0 ≤ _)⟩)
  dsimp only [Pt.U, Pt.locs, Pt.cells, Pt.slots] at X9 l9 y9 z9 st9 hQ9
  subst l9 y9 z9
  obtain ⟨rfl, N9q, w9⟩ := hQ9
  have W9 : Wd Z T9.heap b6 P pa N K (np N K) (upd (fun _ => (0 : Int64)) I q4) := Wd.set hN hKK W8 hI w9
  have zz9 : n0 ≤ T9.heap.size := Nat.le_trans gP (Nat.le_of_lt W9.lt)
  have N9 := Fr.app N8 N9q

  obtain ⟨cq10, kq10, q10a, q10b, q10c⟩ := isOf hZ rfl W9.1
  obtain ⟨_, _, ⟨T10, L10, k10, n10⟩, -, X10, ⟨Lc10, hQ10, l10, y10, z10⟩, st10⟩ := X9.virtualBack hx (y := (⟨"com/example/cowbird/cowbird/table/Words", "set", "(JJ)V"⟩ : MethodName)) (z := (⟨"com/example/cowbird/cowbird/table/Words", "set", "(JJ)V"⟩ : MethodName)) hown (mvT hZ (hw _ (List.mem_of_getElem? (i := 40) rfl))) (mvT hZ (hw _ (List.mem_of_getElem? (i := 41) rfl))) (notFace_of_selects (args := #[]) (mvT hZ (hw _ (List.mem_of_getElem? (i := 43) rfl)))) (mvT hZ (hw _ (List.mem_of_getElem? (i := 43) rfl))) (mvT hZ (hw _ (List.mem_of_getElem? (i := 42) rfl))) (by decide) (backOf (W := 0) (Wd.put l Z a0 hw hN hKK (zz9) gP W9 hJ (own_l (by omega) rfl) q5) hZ (hw _ (List.mem_of_getElem? (i := 44) rfl)) (hw _ (List.mem_of_getElem? (i := 3) rfl)) (by decide) (by decide)) q10a q10c (g := (mkF m 102 #[.val (.int p1), .val (.int p2), .val (.int p3), .val (.long q4), .second, .val (.long q5), .second, .val (.int (Int32.ofNat N)), .val (.int (Int32.ofNat K)), .val (.int (Int32.ofNat I)), .val (.int (Int32.ofNat J)), .val (.int (Int32.ofNat Q)), .val (.ref b6), .val (.int (1 : Int32)), .unset, .unset, .unset, .unset] [(.long q5), (.long ((Int32.ofNat J).toInt64)), (.ref b6)])) rfl (by rw [hml]; rfl) (Steps.refl _) (argsL := [(.long ((Int32.ofNat J).toInt64)), (.long q5)]) (rest := []) (lenOf pd_0_7 rfl) rfl (by show 2 * 0 + _ ≤ _; exact Nat.le_of_eq rfl) (hb hby at_102) (fun _ _ => ⟨rfl, rfl, (by decide : 1 + 17 + 0 ≤ _), (by decide : 4 + 32 + 0 ≤ _)⟩)
  dsimp only [Pt.U, Pt.locs, Pt.cells, Pt.slots] at X10 l10 y10 z10 st10 hQ10
  subst l10 y10 z10
  obtain ⟨rfl, N10q, w10⟩ := hQ10
  have W10 : Wd Z T10.heap b6 P pa N K (np N K) (upd (upd (fun _ => (0 : Int64)) I q4) J q5) := Wd.set hN hKK W9 hJ w10
  have zz10 : n0 ≤ T10.heap.size := Nat.le_trans gP (Nat.le_of_lt W10.lt)
  have N10 := Fr.app N9 N10q

  obtain ⟨cq11, kq11, q11a, q11b, q11c⟩ := isOf hZ rfl W10.1
  obtain ⟨_, _, ⟨T11, L11, k11, n11⟩, -, X11, ⟨Lc11, hQ11, l11, y11, z11⟩, st11⟩ := X10.virtualBack hx (y := (⟨"com/example/cowbird/cowbird/table/Words", "get", "(J)J"⟩ : MethodName)) (z := (⟨"com/example/cowbird/cowbird/table/Words", "get", "(J)J"⟩ : MethodName)) hown (mvT hZ (hw _ (List.mem_of_getElem? (i := 35) rfl))) (mvT hZ (hw _ (List.mem_of_getElem? (i := 36) rfl))) (notFace_of_selects (args := #[]) (mvT hZ (hw _ (List.mem_of_getElem? (i := 38) rfl)))) (mvT hZ (hw _ (List.mem_of_getElem? (i := 38) rfl))) (mvT hZ (hw _ (List.mem_of_getElem? (i := 37) rfl))) (by decide) (backOf (W := 0) (Wd.get l Z a0 hw hN hKK (zz10) W10 hI (own_l (by omega) rfl)) hZ (hw _ (List.mem_of_getElem? (i := 39) rfl)) (hw _ (List.mem_of_getElem? (i := 3) rfl)) (by decide) (by decide)) q11a q11c (g := (mkF m 156 #[.val (.int p1), .val (.int p2), .val (.int p3), .val (.long q4), .second, .val (.long q5), .second, .val (.int (Int32.ofNat N)), .val (.int (Int32.ofNat K)), .val (.int (Int32.ofNat I)), .val (.int (Int32.ofNat J)), .val (.int (Int32.ofNat Q)), .val (.ref b6), .val (.int (1 : Int32)), .val (.long q4), .second, .val (.long q4), .second] [(.long ((Int32.ofNat I).toInt64)), (.ref b6)])) rfl (by rw [hml]; rfl) (Steps.refl _) (argsL := [(.long ((Int32.ofNat I).toInt64))]) (rest := []) (lenOf pd_0_6 rfl) rfl (by show 2 * 0 + _ ≤ _; exact Nat.le_of_eq rfl) (hb hby at_156) (fun _ _ => ⟨rfl, rfl, (by decide : 1 + 17 + 0 ≤ _), (by decide : 4 + 32 + 0 ≤ _)⟩)
  dsimp only [Pt.U, Pt.locs, Pt.cells, Pt.slots] at X11 l11 y11 z11 st11 hQ11
  subst l11 y11 z11
  obtain ⟨rfl, N11q, eQ11⟩ := hQ11
  have W11 : Wd Z T11.heap b6 P pa N K (np N K) (upd (upd (fun _ => (0 : Int64)) I q4) J q5) := by rw [eQ11]; exact W10
  have zz11 : n0 ≤ T11.heap.size := Nat.le_trans gP (Nat.le_of_lt W11.lt)
  have N11 := Fr.app N10 N11q

  obtain ⟨cq12, kq12, q12a, q12b, q12c⟩ := isOf hZ rfl W11.1
  obtain ⟨_, _, ⟨T12, L12, k12, n12⟩, -, X12, ⟨Lc12, hQ12, l12, y12, z12⟩, st12⟩ := X11.virtualBack hx (y := (⟨"com/example/cowbird/cowbird/table/Words", "get", "(J)J"⟩ : MethodName)) (z := (⟨"com/example/cowbird/cowbird/table/Words", "get", "(J)J"⟩ : MethodName)) hown (mvT hZ (hw _ (List.mem_of_getElem? (i := 35) rfl))) (mvT hZ (hw _ (List.mem_of_getElem? (i := 36) rfl))) (notFace_of_selects (args := #[]) (mvT hZ (hw _ (List.mem_of_getElem? (i := 38) rfl)))) (mvT hZ (hw _ (List.mem_of_getElem? (i := 38) rfl))) (mvT hZ (hw _ (List.mem_of_getElem? (i := 37) rfl))) (by decide) (backOf (W := 0) (Wd.get l Z a0 hw hN hKK (zz11) W11 hJ (own_l (by omega) rfl)) hZ (hw _ (List.mem_of_getElem? (i := 39) rfl)) (hw _ (List.mem_of_getElem? (i := 3) rfl)) (by decide) (by decide)) q12a q12c (g := (mkF m 170 #[.val (.int p1), .val (.int p2), .val (.int p3), .val (.long q4), .second, .val (.long q5), .second, .val (.int (Int32.ofNat N)), .val (.int (Int32.ofNat K)), .val (.int (Int32.ofNat I)), .val (.int (Int32.ofNat J)), .val (.int (Int32.ofNat Q)), .val (.ref b6), .val (.int (1 : Int32)), .val (.long q4), .second, .val (.long q4), .second] [(.long ((Int32.ofNat J).toInt64)), (.ref b6)])) rfl (by rw [hml]; rfl) (Steps.refl _) (argsL := [(.long ((Int32.ofNat J).toInt64))]) (rest := []) (lenOf pd_0_6 rfl) rfl (by show 2 * 0 + _ ≤ _; exact Nat.le_of_eq rfl) (hb hby at_170) (fun _ _ => ⟨rfl, rfl, (by decide : 1 + 17 + 0 ≤ _), (by decide : 4 + 32 + 0 ≤ _)⟩)
  dsimp only [Pt.U, Pt.locs, Pt.cells, Pt.slots] at X12 l12 y12 z12 st12 hQ12
  subst l12 y12 z12
  obtain ⟨rfl, N12q, eQ12⟩ := hQ12
  have W12 : Wd Z T12.heap b6 P pa N K (np N K) (upd (upd (fun _ => (0 : Int64)) I q4) J q5) := by rw [eQ12]; exact W11
  have zz12 : n0 ≤ T12.heap.size := Nat.le_trans gP (Nat.le_of_lt W12.lt)
  have N12 := Fr.app N11 N12q

  obtain ⟨cq13, kq13, q13a, q13b, q13c⟩ := isOf hZ rfl W12.1
  obtain ⟨_, _, ⟨T13, L13, k13, n13⟩, -, X13, ⟨Lc13, hQ13, l13, y13, z13⟩, st13⟩ := X12.virtualBack hx (y := (⟨"com/example/cowbird/cowbird/table/Words", "get", "(J)J"⟩ : MethodName)) (z := (⟨"com/example/cowbird/cowbird/table/Words", "get", "(J)J"⟩ : MethodName)) hown (mvT hZ (hw _ (List.mem_of_getElem? (i := 35) rfl))) (mvT hZ (hw _ (List.mem_of_getElem? (i := 36) rfl))) (notFace_of_selects (args := #[]) (mvT hZ (hw _ (List.mem_of_getElem? (i := 38) rfl)))) (mvT hZ (hw _ (List.mem_of_getElem? (i := 38) rfl))) (mvT hZ (hw _ (List.mem_of_getElem? (i := 37) rfl))) (by decide) (backOf (W := 0) (Wd.get l Z a0 hw hN hKK (zz12) W12 hQ (own_l (by omega) rfl)) hZ (hw _ (List.mem_of_getElem? (i := 39) rfl)) (hw _ (List.mem_of_getElem? (i := 3) rfl)) (by decide) (by decide)) q13a q13c (g := (mkF m 184 #[.val (.int p1), .val (.int p2), .val (.int p3), .val (.long q4), .second, .val (.long q5), .second, .val (.int (Int32.ofNat N)), .val (.int (Int32.ofNat K)), .val (.int (Int32.ofNat I)), .val (.int (Int32.ofNat J)), .val (.int (Int32.ofNat Q)), .val (.ref b6), .val (.int (1 : Int32)), .val (.long q4), .second, .val (.long q4), .second] [(.long ((Int32.ofNat Q).toInt64)), (.ref b6)])) rfl (by rw [hml]; rfl) (Steps.refl _) (argsL := [(.long ((Int32.ofNat Q).toInt64))]) (rest := []) (lenOf pd_0_6 rfl) rfl (by show 2 * 0 + _ ≤ _; exact Nat.le_of_eq rfl) (hb hby at_184) (fun _ _ => ⟨rfl, rfl, (by decide : 1 + 17 + 0 ≤ _), (by decide : 4 + 32 + 0 ≤ _)⟩)
  dsimp only [Pt.U, Pt.locs, Pt.cells, Pt.slots] at X13 l13 y13 z13 st13 hQ13
  subst l13 y13 z13
  obtain ⟨rfl, N13q, eQ13⟩ := hQ13
  have W13 : Wd Z T13.heap b6 P pa N K (np N K) (upd (upd (fun _ => (0 : Int64)) I q4) J q5) := by rw [eQ13]; exact W12
  have zz13 : n0 ≤ T13.heap.size := Nat.le_trans gP (Nat.le_of_lt W13.lt)
  have N13 := Fr.app N12 N13q

  obtain ⟨cq14, kq14, q14a, q14b, q14c⟩ := isOf hZ rfl W13.1
  obtain ⟨_, _, ⟨T14, L14, k14, n14⟩, -, X14, ⟨Lc14, hQ14, l14, y14, z14⟩, st14⟩ := X13.virtualBack hx (y := (⟨"com/example/cowbird/cowbird/table/Words", "length", "()J"⟩ : MethodName)) (z := (⟨"com/example/cowbird/cowbird/table/Words", "length", "()J"⟩ : MethodName)) hown (mvT hZ (hw _ (List.mem_of_getElem? (i := 45) rfl))) (mvT hZ (hw _ (List.mem_of_getElem? (i := 46) rfl))) (notFace_of_selects (args := #[]) (mvT hZ (hw _ (List.mem_of_getElem? (i := 48) rfl)))) (mvT hZ (hw _ (List.mem_of_getElem? (i := 48) rfl))) (mvT hZ (hw _ (List.mem_of_getElem? (i := 47) rfl))) (by decide) (backOf (W := 0) (Wd.len l Z a0 hw (zz13) W13) hZ (hw _ (List.mem_of_getElem? (i := 49) rfl)) (hw _ (List.mem_of_getElem? (i := 3) rfl)) (by decide) (by decide)) q14a q14c (g := (mkF m 195 #[.val (.int p1), .val (.int p2), .val (.int p3), .val (.long q4), .second, .val (.long q5), .second, .val (.int (Int32.ofNat N)), .val (.int (Int32.ofNat K)), .val (.int (Int32.ofNat I)), .val (.int (Int32.ofNat J)), .val (.int (Int32.ofNat Q)), .val (.ref b6), .val (.int (1 : Int32)), .val (.long q4), .second, .val (.long q4), .second] [(.ref b6)])) rfl (by rw [hml]; rfl) (Steps.refl _) (argsL := []) (rest := []) (lenOf pd_0_8 rfl) rfl (by show 2 * 0 + _ ≤ _; exact Nat.le_of_eq rfl) (hb hby at_195) (fun _ _ => ⟨rfl, rfl, (by decide : 1 + 17 + 0 ≤ _), (by decide : 4 + 32 + 0 ≤ _)⟩)
  dsimp only [Pt.U, Pt.locs, Pt.cells, Pt.slots] at X14 l14 y14 z14 st14 hQ14
  subst l14 y14 z14
  obtain ⟨rfl, N14q, eQ14⟩ := hQ14
  have W14 : Wd Z T14.heap b6 P pa N K (np N K) (upd (upd (fun _ => (0 : Int64)) I q4) J q5) := by rw [eQ14]; exact W13
  have zz14 : n0 ≤ T14.heap.size := Nat.le_trans gP (Nat.le_of_lt W14.lt)
  have N14 := Fr.app N13 N14q
  obtain ⟨fs, hr, hrun, hended, hW, hsame⟩ := X14.leave (v := some (.int (1 : Int32))) (fun h => by rw [Bd.returns] at h; cases h)
  refine ⟨_, _, pre0 _ ?_, hrun, hended, _, _, rfl, ?_, ⟨_, rfl⟩, hW, hsame.mono (by decide) (by decide)⟩

  · show Steps p.tables e below (s₁.setTop (mkF m 0 #[.val (.int p1), .val (.int p2), .val (.int p3), .val (.long q4), .second, .val (.long q5), .second, .unset, .unset, .unset, .unset, .unset, .unset, .unset, .unset, .unset, .unset, .unset] [])) _
    refine XS.iconst X0.here hx rfl (hb hby at_0) ?_
    show Steps p.tables e below (s₁.setTop (mkF m 1 #[.val (.int p1), .val (.int p2), .val (.int p3), .val (.long q4), .second, .val (.long q5), .second, .unset, .unset, .unset, .unset, .unset, .unset, .unset, .unset, .unset, .unset, .unset] [(.int (1 : Int32))])) _
    refine XS.iloadN X0.here hx rfl (hb hby at_1) rfl ?_
    show Steps p.tables e below (s₁.setTop (mkF m 2 #[.val (.int p1), .val (.int p2), .val (.int p3), .val (.long q4), .second, .val (.long q5), .second, .unset, .unset, .unset, .unset, .unset, .unset, .unset, .unset, .unset, .unset, .unset] [(.int p1), (.int (1 : Int32))])) _
    refine XS.bipush X0.here hx rfl (hb hby at_2) ?_
    show Steps p.tables e below (s₁.setTop (mkF m 4 #[.val (.int p1), .val (.int p2), .val (.int p3), .val (.long q4), .second, .val (.long q5), .second, .unset, .unset, .unset, .unset, .unset, .unset, .unset, .unset, .unset, .unset, .unset] [(.int (15 : Int32)), (.int p1), (.int (1 : Int32))])) _
    refine XS.iand X0.here hx rfl (hb hby at_4) rfl ?_
    show Steps p.tables e below (s₁.setTop (mkF m 5 #[.val (.int p1), .val (.int p2), .val (.int p3), .val (.long q4), .second, .val (.long q5), .second, .unset, .unset, .unset, .unset, .unset, .unset, .unset, .unset, .unset, .unset, .unset] [(.int (p1 &&& (15 : Int32))), (.int (1 : Int32))])) _
    refine XS.iadd X0.here hx rfl (hb hby at_5) rfl ?_
    show Steps p.tables e below (s₁.setTop (mkF m 6 #[.val (.int p1), .val (.int p2), .val (.int p3), .val (.long q4), .second, .val (.long q5), .second, .unset, .unset, .unset, .unset, .unset, .unset, .unset, .unset, .unset, .unset, .unset] [(.int ((1 : Int32) + (p1 &&& (15 : Int32))))])) _
    rw [hvN]
    show Steps p.tables e below (s₁.setTop (mkF m 6 #[.val (.int p1), .val (.int p2), .val (.int p3), .val (.long q4), .second, .val (.long q5), .second, .unset, .unset, .unset, .unset, .unset, .unset, .unset, .unset, .unset, .unset, .unset] [(.int (Int32.ofNat N))])) _
    refine XS.istore X0.here hx rfl (hb hby at_6) rfl (l' := #[.val (.int p1), .val (.int p2), .val (.int p3), .val (.long q4), .second, .val (.long q5), .second, .val (.int (Int32.ofNat N)), .unset, .unset, .unset, .unset, .unset, .unset, .unset, .unset, .unset, .unset]) rfl ?_
    show Steps p.tables e below (s₁.setTop (mkF m 8 #[.val (.int p1), .val (.int p2), .val (.int p3), .val (.long q4), .second, .val (.long q5), .second, .val (.int (Int32.ofNat N)), .unset, .unset, .unset, .unset, .unset, .unset, .unset, .unset, .unset, .unset] [])) _
    refine XS.iloadN X0.here hx rfl (hb hby at_8) rfl ?_
    show Steps p.tables e below (s₁.setTop (mkF m 9 #[.val (.int p1), .val (.int p2), .val (.int p3), .val (.long q4), .second, .val (.long q5), .second, .val (.int (Int32.ofNat N)), .unset, .unset, .unset, .unset, .unset, .unset, .unset, .unset, .unset, .unset] [(.int p2)])) _
    refine X0.ldcInt hx hown (mvT hZ (hw _ (List.mem_of_getElem? (i := 0) rfl))) (g := (mkF m 9 #[.val (.int p1), .val (.int p2), .val (.int p3), .val (.long q4), .second, .val (.long q5), .second, .val (.int (Int32.ofNat N)), .unset, .unset, .unset, .unset, .unset, .unset, .unset, .unset, .unset, .unset] [(.int p2)])) rfl (hb hby at_9) _ ?_
    show Steps p.tables e below (s₁.setTop (mkF m 11 #[.val (.int p1), .val (.int p2), .val (.int p3), .val (.long q4), .second, .val (.long q5), .second, .val (.int (Int32.ofNat N)), .unset, .unset, .unset, .unset, .unset, .unset, .unset, .unset, .unset, .unset] [(.int (2147483647 : Int32)), (.int p2)])) _
    refine XS.iand X0.here hx rfl (hb hby at_11) rfl ?_
    show Steps p.tables e below (s₁.setTop (mkF m 12 #[.val (.int p1), .val (.int p2), .val (.int p3), .val (.long q4), .second, .val (.long q5), .second, .val (.int (Int32.ofNat N)), .unset, .unset, .unset, .unset, .unset, .unset, .unset, .unset, .unset, .unset] [(.int (p2 &&& (2147483647 : Int32)))])) _
    refine XS.iconst X0.here hx rfl (hb hby at_12) ?_
    show Steps p.tables e below (s₁.setTop (mkF m 13 #[.val (.int p1), .val (.int p2), .val (.int p3), .val (.long q4), .second, .val (.long q5), .second, .val (.int (Int32.ofNat N)), .unset, .unset, .unset, .unset, .unset, .unset, .unset, .unset, .unset, .unset] [(.int (5 : Int32)), (.int (p2 &&& (2147483647 : Int32)))])) _
    refine Jvm.RoadKit.iremM X0 hx rfl (hb hby at_13) rfl (by decide) ?_
    show Steps p.tables e below (s₁.setTop (mkF m 14 #[.val (.int p1), .val (.int p2), .val (.int p3), .val (.long q4), .second, .val (.long q5), .second, .val (.int (Int32.ofNat N)), .unset, .unset, .unset, .unset, .unset, .unset, .unset, .unset, .unset, .unset] [(.int ((p2 &&& (2147483647 : Int32)) % (5 : Int32)))])) _
    rw [hvK]
    show Steps p.tables e below (s₁.setTop (mkF m 14 #[.val (.int p1), .val (.int p2), .val (.int p3), .val (.long q4), .second, .val (.long q5), .second, .val (.int (Int32.ofNat N)), .unset, .unset, .unset, .unset, .unset, .unset, .unset, .unset, .unset, .unset] [(.int (Int32.ofNat K))])) _
    refine XS.istore X0.here hx rfl (hb hby at_14) rfl (l' := #[.val (.int p1), .val (.int p2), .val (.int p3), .val (.long q4), .second, .val (.long q5), .second, .val (.int (Int32.ofNat N)), .val (.int (Int32.ofNat K)), .unset, .unset, .unset, .unset, .unset, .unset, .unset, .unset, .unset]) rfl ?_
    show Steps p.tables e below (s₁.setTop (mkF m 16 #[.val (.int p1), .val (.int p2), .val (.int p3), .val (.long q4), .second, .val (.long q5), .second, .val (.int (Int32.ofNat N)), .val (.int (Int32.ofNat K)), .unset, .unset, .unset, .unset, .unset, .unset, .unset, .unset, .unset] [])) _
    refine XS.iloadN X0.here hx rfl (hb hby at_16) rfl ?_
    show Steps p.tables e below (s₁.setTop (mkF m 17 #[.val (.int p1), .val (.int p2), .val (.int p3), .val (.long q4), .second, .val (.long q5), .second, .val (.int (Int32.ofNat N)), .val (.int (Int32.ofNat K)), .unset, .unset, .unset, .unset, .unset, .unset, .unset, .unset, .unset] [(.int p3)])) _
    refine XS.sipush X0.here hx rfl (hb hby at_17) ?_
    show Steps p.tables e below (s₁.setTop (mkF m 20 #[.val (.int p1), .val (.int p2), .val (.int p3), .val (.long q4), .second, .val (.long q5), .second, .val (.int (Int32.ofNat N)), .val (.int (Int32.ofNat K)), .unset, .unset, .unset, .unset, .unset, .unset, .unset, .unset, .unset] [(.int (255 : Int32)), (.int p3)])) _
    refine XS.iand X0.here hx rfl (hb hby at_20) rfl ?_
    show Steps p.tables e below (s₁.setTop (mkF m 21 #[.val (.int p1), .val (.int p2), .val (.int p3), .val (.long q4), .second, .val (.long q5), .second, .val (.int (Int32.ofNat N)), .val (.int (Int32.ofNat K)), .unset, .unset, .unset, .unset, .unset, .unset, .unset, .unset, .unset] [(.int (p3 &&& (255 : Int32)))])) _
    refine XS.iload X0.here hx rfl (hb hby at_21) rfl ?_
    show Steps p.tables e below (s₁.setTop (mkF m 23 #[.val (.int p1), .val (.int p2), .val (.int p3), .val (.long q4), .second, .val (.long q5), .second, .val (.int (Int32.ofNat N)), .val (.int (Int32.ofNat K)), .unset, .unset, .unset, .unset, .unset, .unset, .unset, .unset, .unset] [(.int (Int32.ofNat N)), (.int (p3 &&& (255 : Int32)))])) _
    refine Jvm.RoadKit.iremM X0 hx rfl (hb hby at_23) rfl hnz23 ?_
    show Steps p.tables e below (s₁.setTop (mkF m 24 #[.val (.int p1), .val (.int p2), .val (.int p3), .val (.long q4), .second, .val (.long q5), .second, .val (.int (Int32.ofNat N)), .val (.int (Int32.ofNat K)), .unset, .unset, .unset, .unset, .unset, .unset, .unset, .unset, .unset] [(.int ((p3 &&& (255 : Int32)) % (Int32.ofNat N)))])) _
    rw [hvI]
    show Steps p.tables e below (s₁.setTop (mkF m 24 #[.val (.int p1), .val (.int p2), .val (.int p3), .val (.long q4), .second, .val (.long q5), .second, .val (.int (Int32.ofNat N)), .val (.int (Int32.ofNat K)), .unset, .unset, .unset, .unset, .unset, .unset, .unset, .unset, .unset] [(.int (Int32.ofNat I))])) _
    refine XS.istore X0.here hx rfl (hb hby at_24) rfl (l' := #[.val (.int p1), .val (.int p2), .val (.int p3), .val (.long q4), .second, .val (.long q5), .second, .val (.int (Int32.ofNat N)), .val (.int (Int32.ofNat K)), .val (.int (Int32.ofNat I)), .unset, .unset, .unset, .unset, .unset, .unset, .unset, .unset]) rfl ?_
    show Steps p.tables e below (s₁.setTop (mkF m 26 #[.val (.int p1), .val (.int p2), .val (.int p3), .val (.long q4), .second, .val (.long q5), .second, .val (.int (Int32.ofNat N)), .val (.int (Int32.ofNat K)), .val (.int (Int32.ofNat I)), .unset, .unset, .unset, .unset, .unset, .unset, .unset, .unset] [])) _
    refine XS.iloadN X0.here hx rfl (hb hby at_26) rfl ?_
    show Steps p.tables e below (s₁.setTop (mkF m 27 #[.val (.int p1), .val (.int p2), .val (.int p3), .val (.long q4), .second, .val (.long q5), .second, .val (.int (Int32.ofNat N)), .val (.int (Int32.ofNat K)), .val (.int (Int32.ofNat I)), .unset, .unset, .unset, .unset, .unset, .unset, .unset, .unset] [(.int p3)])) _
    refine XS.bipush X0.here hx rfl (hb hby at_27) ?_
    show Steps p.tables e below (s₁.setTop (mkF m 29 #[.val (.int p1), .val (.int p2), .val (.int p3), .val (.long q4), .second, .val (.long q5), .second, .val (.int (Int32.ofNat N)), .val (.int (Int32.ofNat K)), .val (.int (Int32.ofNat I)), .unset, .unset, .unset, .unset, .unset, .unset, .unset, .unset] [(.int (8 : Int32)), (.int p3)])) _
    refine XS.iushr X0.here hx rfl (hb hby at_29) rfl ?_
    show Steps p.tables e below (s₁.setTop (mkF m 30 #[.val (.int p1), .val (.int p2), .val (.int p3), .val (.long q4), .second, .val (.long q5), .second, .val (.int (Int32.ofNat N)), .val (.int (Int32.ofNat K)), .val (.int (Int32.ofNat I)), .unset, .unset, .unset, .unset, .unset, .unset, .unset, .unset] [(.int ((p3.toUInt32 >>> ((8 : Int32) &&& 31).toUInt32).toInt32))])) _
    refine XS.sipush X0.here hx rfl (hb hby at_30) ?_
    show Steps p.tables e below (s₁.setTop (mkF m 33 #[.val (.int p1), .val (.int p2), .val (.int p3), .val (.long q4), .second, .val (.long q5), .second, .val (.int (Int32.ofNat N)), .val (.int (Int32.ofNat K)), .val (.int (Int32.ofNat I)), .unset, .unset, .unset, .unset, .unset, .unset, .unset, .unset] [(.int (255 : Int32)), (.int ((p3.toUInt32 >>> ((8 : Int32) &&& 31).toUInt32).toInt32))])) _
    refine XS.iand X0.here hx rfl (hb hby at_33) rfl ?_
    show Steps p.tables e below (s₁.setTop (mkF m 34 #[.val (.int p1), .val (.int p2), .val (.int p3), .val (.long q4), .second, .val (.long q5), .second, .val (.int (Int32.ofNat N)), .val (.int (Int32.ofNat K)), .val (.int (Int32.ofNat I)), .unset, .unset, .unset, .unset, .unset, .unset, .unset, .unset] [(.int (((p3.toUInt32 >>> ((8 : Int32) &&& 31).toUInt32).toInt32) &&& (255 : Int32)))])) _
    refine XS.iload X0.here hx rfl (hb hby at_34) rfl ?_
    show Steps p.tables e below (s₁.setTop (mkF m 36 #[.val (.int p1), .val (.int p2), .val (.int p3), .val (.long q4), .second, .val (.long q5), .second, .val (.int (Int32.ofNat N)), .val (.int (Int32.ofNat K)), .val (.int (Int32.ofNat I)), .unset, .unset, .unset, .unset, .unset, .unset, .unset, .unset] [(.int (Int32.ofNat N)), (.int (((p3.toUInt32 >>> ((8 : Int32) &&& 31).toUInt32).toInt32) &&& (255 : Int32)))])) _
    refine Jvm.RoadKit.iremM X0 hx rfl (hb hby at_36) rfl hnz36 ?_
    show Steps p.tables e below (s₁.setTop (mkF m 37 #[.val (.int p1), .val (.int p2), .val (.int p3), .val (.long q4), .second, .val (.long q5), .second, .val (.int (Int32.ofNat N)), .val (.int (Int32.ofNat K)), .val (.int (Int32.ofNat I)), .unset, .unset, .unset, .unset, .unset, .unset, .unset, .unset] [(.int ((((p3.toUInt32 >>> ((8 : Int32) &&& 31).toUInt32).toInt32) &&& (255 : Int32)) % (Int32.ofNat N)))])) _
    rw [hvJ]
    show Steps p.tables e below (s₁.setTop (mkF m 37 #[.val (.int p1), .val (.int p2), .val (.int p3), .val (.long q4), .second, .val (.long q5), .second, .val (.int (Int32.ofNat N)), .val (.int (Int32.ofNat K)), .val (.int (Int32.ofNat I)), .unset, .unset, .unset, .unset, .unset, .unset, .unset, .unset] [(.int (Int32.ofNat J))])) _
    refine XS.istore X0.here hx rfl (hb hby at_37) rfl (l' := #[.val (.int p1), .val (.int p2), .val (.int p3), .val (.long q4), .second, .val (.long q5), .second, .val (.int (Int32.ofNat N)), .val (.int (Int32.ofNat K)), .val (.int (Int32.ofNat I)), .val (.int (Int32.ofNat J)), .unset, .unset, .unset, .unset, .unset, .unset, .unset]) rfl ?_
    show Steps p.tables e below (s₁.setTop (mkF m 39 #[.val (.int p1), .val (.int p2), .val (.int p3), .val (.long q4), .second, .val (.long q5), .second, .val (.int (Int32.ofNat N)), .val (.int (Int32.ofNat K)), .val (.int (Int32.ofNat I)), .val (.int (Int32.ofNat J)), .unset, .unset, .unset, .unset, .unset, .unset, .unset] [])) _
    refine XS.iloadN X0.here hx rfl (hb hby at_39) rfl ?_
    show Steps p.tables e below (s₁.setTop (mkF m 40 #[.val (.int p1), .val (.int p2), .val (.int p3), .val (.long q4), .second, .val (.long q5), .second, .val (.int (Int32.ofNat N)), .val (.int (Int32.ofNat K)), .val (.int (Int32.ofNat I)), .val (.int (Int32.ofNat J)), .unset, .unset, .unset, .unset, .unset, .unset, .unset] [(.int p3)])) _
    refine XS.bipush X0.here hx rfl (hb hby at_40) ?_
    show Steps p.tables e below (s₁.setTop (mkF m 42 #[.val (.int p1), .val (.int p2), .val (.int p3), .val (.long q4), .second, .val (.long q5), .second, .val (.int (Int32.ofNat N)), .val (.int (Int32.ofNat K)), .val (.int (Int32.ofNat I)), .val (.int (Int32.ofNat J)), .unset, .unset, .unset, .unset, .unset, .unset, .unset] [(.int (16 : Int32)), (.int p3)])) _
    refine XS.iushr X0.here hx rfl (hb hby at_42) rfl ?_
    show Steps p.tables e below (s₁.setTop (mkF m 43 #[.val (.int p1), .val (.int p2), .val (.int p3), .val (.long q4), .second, .val (.long q5), .second, .val (.int (Int32.ofNat N)), .val (.int (Int32.ofNat K)), .val (.int (Int32.ofNat I)), .val (.int (Int32.ofNat J)), .unset, .unset, .unset, .unset, .unset, .unset, .unset] [(.int ((p3.toUInt32 >>> ((16 : Int32) &&& 31).toUInt32).toInt32))])) _
    refine XS.sipush X0.here hx rfl (hb hby at_43) ?_
    show Steps p.tables e below (s₁.setTop (mkF m 46 #[.val (.int p1), .val (.int p2), .val (.int p3), .val (.long q4), .second, .val (.long q5), .second, .val (.int (Int32.ofNat N)), .val (.int (Int32.ofNat K)), .val (.int (Int32.ofNat I)), .val (.int (Int32.ofNat J)), .unset, .unset, .unset, .unset, .unset, .unset, .unset] [(.int (255 : Int32)), (.int ((p3.toUInt32 >>> ((16 : Int32) &&& 31).toUInt32).toInt32))])) _
    refine XS.iand X0.here hx rfl (hb hby at_46) rfl ?_
    show Steps p.tables e below (s₁.setTop (mkF m 47 #[.val (.int p1), .val (.int p2), .val (.int p3), .val (.long q4), .second, .val (.long q5), .second, .val (.int (Int32.ofNat N)), .val (.int (Int32.ofNat K)), .val (.int (Int32.ofNat I)), .val (.int (Int32.ofNat J)), .unset, .unset, .unset, .unset, .unset, .unset, .unset] [(.int (((p3.toUInt32 >>> ((16 : Int32) &&& 31).toUInt32).toInt32) &&& (255 : Int32)))])) _
    refine XS.iload X0.here hx rfl (hb hby at_47) rfl ?_
    show Steps p.tables e below (s₁.setTop (mkF m 49 #[.val (.int p1), .val (.int p2), .val (.int p3), .val (.long q4), .second, .val (.long q5), .second, .val (.int (Int32.ofNat N)), .val (.int (Int32.ofNat K)), .val (.int (Int32.ofNat I)), .val (.int (Int32.ofNat J)), .unset, .unset, .unset, .unset, .unset, .unset, .unset] [(.int (Int32.ofNat N)), (.int (((p3.toUInt32 >>> ((16 : Int32) &&& 31).toUInt32).toInt32) &&& (255 : Int32)))])) _
    refine Jvm.RoadKit.iremM X0 hx rfl (hb hby at_49) rfl hnz49 ?_
    show Steps p.tables e below (s₁.setTop (mkF m 50 #[.val (.int p1), .val (.int p2), .val (.int p3), .val (.long q4), .second, .val (.long q5), .second, .val (.int (Int32.ofNat N)), .val (.int (Int32.ofNat K)), .val (.int (Int32.ofNat I)), .val (.int (Int32.ofNat J)), .unset, .unset, .unset, .unset, .unset, .unset, .unset] [(.int ((((p3.toUInt32 >>> ((16 : Int32) &&& 31).toUInt32).toInt32) &&& (255 : Int32)) % (Int32.ofNat N)))])) _
    rw [hvQ]
    show Steps p.tables e below (s₁.setTop (mkF m 50 #[.val (.int p1), .val (.int p2), .val (.int p3), .val (.long q4), .second, .val (.long q5), .second, .val (.int (Int32.ofNat N)), .val (.int (Int32.ofNat K)), .val (.int (Int32.ofNat I)), .val (.int (Int32.ofNat J)), .unset, .unset, .unset, .unset, .unset, .unset, .unset] [(.int (Int32.ofNat Q))])) _
    refine XS.istore X0.here hx rfl (hb hby at_50) rfl (l' := #[.val (.int p1), .val (.int p2), .val (.int p3), .val (.long q4), .second, .val (.long q5), .second, .val (.int (Int32.ofNat N)), .val (.int (Int32.ofNat K)), .val (.int (Int32.ofNat I)), .val (.int (Int32.ofNat J)), .val (.int (Int32.ofNat Q)), .unset, .unset, .unset, .unset, .unset, .unset]) rfl ?_
    show Steps p.tables e below (s₁.setTop (mkF m 52 #[.val (.int p1), .val (.int p2), .val (.int p3), .val (.long q4), .second, .val (.long q5), .second, .val (.int (Int32.ofNat N)), .val (.int (Int32.ofNat K)), .val (.int (Int32.ofNat I)), .val (.int (Int32.ofNat J)), .val (.int (Int32.ofNat Q)), .unset, .unset, .unset, .unset, .unset, .unset] [])) _
    refine st6 _ ?_
    show Steps p.tables e below (T6.setTop (mkF m 55 #[.val (.int p1), .val (.int p2), .val (.int p3), .val (.long q4), .second, .val (.long q5), .second, .val (.int (Int32.ofNat N)), .val (.int (Int32.ofNat K)), .val (.int (Int32.ofNat I)), .val (.int (Int32.ofNat J)), .val (.int (Int32.ofNat Q)), .unset, .unset, .unset, .unset, .unset, .unset] [(.ref b6)])) _
    refine XS.dup X6.here hx rfl (hb hby at_55) rfl rfl ?_
    show Steps p.tables e below (T6.setTop (mkF m 56 #[.val (.int p1), .val (.int p2), .val (.int p3), .val (.long q4), .second, .val (.long q5), .second, .val (.int (Int32.ofNat N)), .val (.int (Int32.ofNat K)), .val (.int (Int32.ofNat I)), .val (.int (Int32.ofNat J)), .val (.int (Int32.ofNat Q)), .unset, .unset, .unset, .unset, .unset, .unset] [(.ref b6), (.ref b6)])) _
    refine XS.iload X6.here hx rfl (hb hby at_56) rfl ?_
    show Steps p.tables e below (T6.setTop (mkF m 58 #[.val (.int p1), .val (.int p2), .val (.int p3), .val (.long q4), .second, .val (.long q5), .second, .val (.int (Int32.ofNat N)), .val (.int (Int32.ofNat K)), .val (.int (Int32.ofNat I)), .val (.int (Int32.ofNat J)), .val (.int (Int32.ofNat Q)), .unset, .unset, .unset, .unset, .unset, .unset] [(.int (Int32.ofNat N)), (.ref b6), (.ref b6)])) _
    refine XS.i2l X6.here hx rfl (hb hby at_58) rfl ?_
    show Steps p.tables e below (T6.setTop (mkF m 59 #[.val (.int p1), .val (.int p2), .val (.int p3), .val (.long q4), .second, .val (.long q5), .second, .val (.int (Int32.ofNat N)), .val (.int (Int32.ofNat K)), .val (.int (Int32.ofNat I)), .val (.int (Int32.ofNat J)), .val (.int (Int32.ofNat Q)), .unset, .unset, .unset, .unset, .unset, .unset] [(.long ((Int32.ofNat N).toInt64)), (.ref b6), (.ref b6)])) _
    refine XS.iload X6.here hx rfl (hb hby at_59) rfl ?_
    show Steps p.tables e below (T6.setTop (mkF m 61 #[.val (.int p1), .val (.int p2), .val (.int p3), .val (.long q4), .second, .val (.long q5), .second, .val (.int (Int32.ofNat N)), .val (.int (Int32.ofNat K)), .val (.int (Int32.ofNat I)), .val (.int (Int32.ofNat J)), .val (.int (Int32.ofNat Q)), .unset, .unset, .unset, .unset, .unset, .unset] [(.int (Int32.ofNat K)), (.long ((Int32.ofNat N).toInt64)), (.ref b6), (.ref b6)])) _
    refine st7.trans ?_
    show Steps p.tables e below (T7.setTop (mkF m 64 #[.val (.int p1), .val (.int p2), .val (.int p3), .val (.long q4), .second, .val (.long q5), .second, .val (.int (Int32.ofNat N)), .val (.int (Int32.ofNat K)), .val (.int (Int32.ofNat I)), .val (.int (Int32.ofNat J)), .val (.int (Int32.ofNat Q)), .unset, .unset, .unset, .unset, .unset, .unset] [(.ref b6)])) _
    refine XS.astore X7.here hx rfl (hb hby at_64) rfl rfl (l' := #[.val (.int p1), .val (.int p2), .val (.int p3), .val (.long q4), .second, .val (.long q5), .second, .val (.int (Int32.ofNat N)), .val (.int (Int32.ofNat K)), .val (.int (Int32.ofNat I)), .val (.int (Int32.ofNat J)), .val (.int (Int32.ofNat Q)), .val (.ref b6), .unset, .unset, .unset, .unset, .unset]) rfl ?_
    show Steps p.tables e below (T7.setTop (mkF m 66 #[.val (.int p1), .val (.int p2), .val (.int p3), .val (.long q4), .second, .val (.long q5), .second, .val (.int (Int32.ofNat N)), .val (.int (Int32.ofNat K)), .val (.int (Int32.ofNat I)), .val (.int (Int32.ofNat J)), .val (.int (Int32.ofNat Q)), .val (.ref b6), .unset, .unset, .unset, .unset, .unset] [])) _
    refine XS.aload X7.here hx rfl (hb hby at_66) rfl rfl ?_
    show Steps p.tables e below (T7.setTop (mkF m 68 #[.val (.int p1), .val (.int p2), .val (.int p3), .val (.long q4), .second, .val (.long q5), .second, .val (.int (Int32.ofNat N)), .val (.int (Int32.ofNat K)), .val (.int (Int32.ofNat I)), .val (.int (Int32.ofNat J)), .val (.int (Int32.ofNat Q)), .val (.ref b6), .unset, .unset, .unset, .unset, .unset] [(.ref b6)])) _
    refine XS.iload X7.here hx rfl (hb hby at_68) rfl ?_
    show Steps p.tables e below (T7.setTop (mkF m 70 #[.val (.int p1), .val (.int p2), .val (.int p3), .val (.long q4), .second, .val (.long q5), .second, .val (.int (Int32.ofNat N)), .val (.int (Int32.ofNat K)), .val (.int (Int32.ofNat I)), .val (.int (Int32.ofNat J)), .val (.int (Int32.ofNat Q)), .val (.ref b6), .unset, .unset, .unset, .unset, .unset] [(.int (Int32.ofNat Q)), (.ref b6)])) _
    refine XS.i2l X7.here hx rfl (hb hby at_70) rfl ?_
    show Steps p.tables e below (T7.setTop (mkF m 71 #[.val (.int p1), .val (.int p2), .val (.int p3), .val (.long q4), .second, .val (.long q5), .second, .val (.int (Int32.ofNat N)), .val (.int (Int32.ofNat K)), .val (.int (Int32.ofNat I)), .val (.int (Int32.ofNat J)), .val (.int (Int32.ofNat Q)), .val (.ref b6), .unset, .unset, .unset, .unset, .unset] [(.long ((Int32.ofNat Q).toInt64)), (.ref b6)])) _
    refine st8.trans ?_
    show Steps p.tables e below (T8.setTop (mkF m 74 #[.val (.int p1), .val (.int p2), .val (.int p3), .val (.long q4), .second, .val (.long q5), .second, .val (.int (Int32.ofNat N)), .val (.int (Int32.ofNat K)), .val (.int (Int32.ofNat I)), .val (.int (Int32.ofNat J)), .val (.int (Int32.ofNat Q)), .val (.ref b6), .unset, .unset, .unset, .unset, .unset] [(.long ((fun _ => (0 : Int64)) Q))])) _
    refine XS.lconst X8.here hx rfl (hb hby at_74) ?_
    show Steps p.tables e below (T8.setTop (mkF m 75 #[.val (.int p1), .val (.int p2), .val (.int p3), .val (.long q4), .second, .val (.long q5), .second, .val (.int (Int32.ofNat N)), .val (.int (Int32.ofNat K)), .val (.int (Int32.ofNat I)), .val (.int (Int32.ofNat J)), .val (.int (Int32.ofNat Q)), .val (.ref b6), .unset, .unset, .unset, .unset, .unset] [(.long (0 : Int64)), (.long ((fun _ => (0 : Int64)) Q))])) _
    refine XS.lcmp X8.here hx rfl (hb hby at_75) rfl ?_
    show Steps p.tables e below (T8.setTop (mkF m 76 #[.val (.int p1), .val (.int p2), .val (.int p3), .val (.long q4), .second, .val (.long q5), .second, .val (.int (Int32.ofNat N)), .val (.int (Int32.ofNat K)), .val (.int (Int32.ofNat I)), .val (.int (Int32.ofNat J)), .val (.int (Int32.ofNat Q)), .val (.ref b6), .unset, .unset, .unset, .unset, .unset] [(.int (lcmpW ((fun _ => (0 : Int64)) Q) (0 : Int64)))])) _
    refine XS.ifNo X8.here hx rfl (hb hby at_76) rfl ((if0 _ _).trans (teq (own_lc rfl : (lcmpW ((fun _ => (0 : Int64)) Q) (0 : Int64)) = (0 : Int32))).2) ?_
    show Steps p.tables e below (T8.setTop (mkF m 79 #[.val (.int p1), .val (.int p2), .val (.int p3), .val (.long q4), .second, .val (.long q5), .second, .val (.int (Int32.ofNat N)), .val (.int (Int32.ofNat K)), .val (.int (Int32.ofNat I)), .val (.int (Int32.ofNat J)), .val (.int (Int32.ofNat Q)), .val (.ref b6), .unset, .unset, .unset, .unset, .unset] [])) _
    refine XS.iconst X8.here hx rfl (hb hby at_79) ?_
    show Steps p.tables e below (T8.setTop (mkF m 80 #[.val (.int p1), .val (.int p2), .val (.int p3), .val (.long q4), .second, .val (.long q5), .second, .val (.int (Int32.ofNat N)), .val (.int (Int32.ofNat K)), .val (.int (Int32.ofNat I)), .val (.int (Int32.ofNat J)), .val (.int (Int32.ofNat Q)), .val (.ref b6), .unset, .unset, .unset, .unset, .unset] [(.int (1 : Int32))])) _
    refine XS.goto X8.here hx rfl (pc0 := 80) (pc' := 84) rfl (hb hby at_80) (by decide) (by decide) ?_
    show Steps p.tables e below (T8.setTop (mkF m 84 #[.val (.int p1), .val (.int p2), .val (.int p3), .val (.long q4), .second, .val (.long q5), .second, .val (.int (Int32.ofNat N)), .val (.int (Int32.ofNat K)), .val (.int (Int32.ofNat I)), .val (.int (Int32.ofNat J)), .val (.int (Int32.ofNat Q)), .val (.ref b6), .unset, .unset, .unset, .unset, .unset] [(.int (1 : Int32))])) _
    refine XS.istore X8.here hx rfl (hb hby at_84) rfl (l' := #[.val (.int p1), .val (.int p2), .val (.int p3), .val (.long q4), .second, .val (.long q5), .second, .val (.int (Int32.ofNat N)), .val (.int (Int32.ofNat K)), .val (.int (Int32.ofNat I)), .val (.int (Int32.ofNat J)), .val (.int (Int32.ofNat Q)), .val (.ref b6), .val (.int (1 : Int32)), .unset, .unset, .unset, .unset]) rfl ?_
    show Steps p.tables e below (T8.setTop (mkF m 86 #[.val (.int p1), .val (.int p2), .val (.int p3), .val (.long q4), .second, .val (.long q5), .second, .val (.int (Int32.ofNat N)), .val (.int (Int32.ofNat K)), .val (.int (Int32.ofNat I)), .val (.int (Int32.ofNat J)), .val (.int (Int32.ofNat Q)), .val (.ref b6), .val (.int (1 : Int32)), .unset, .unset, .unset, .unset] [])) _
    refine XS.aload X8.here hx rfl (hb hby at_86) rfl rfl ?_
    show Steps p.tables e below (T8.setTop (mkF m 88 #[.val (.int p1), .val (.int p2), .val (.int p3), .val (.long q4), .second, .val (.long q5), .second, .val (.int (Int32.ofNat N)), .val (.int (Int32.ofNat K)), .val (.int (Int32.ofNat I)), .val (.int (Int32.ofNat J)), .val (.int (Int32.ofNat Q)), .val (.ref b6), .val (.int (1 : Int32)), .unset, .unset, .unset, .unset] [(.ref b6)])) _
    refine XS.iload X8.here hx rfl (hb hby at_88) rfl ?_
    show Steps p.tables e below (T8.setTop (mkF m 90 #[.val (.int p1), .val (.int p2), .val (.int p3), .val (.long q4), .second, .val (.long q5), .second, .val (.int (Int32.ofNat N)), .val (.int (Int32.ofNat K)), .val (.int (Int32.ofNat I)), .val (.int (Int32.ofNat J)), .val (.int (Int32.ofNat Q)), .val (.ref b6), .val (.int (1 : Int32)), .unset, .unset, .unset, .unset] [(.int (Int32.ofNat I)), (.ref b6)])) _
    refine XS.i2l X8.here hx rfl (hb hby at_90) rfl ?_
    show Steps p.tables e below (T8.setTop (mkF m 91 #[.val (.int p1), .val (.int p2), .val (.int p3), .val (.long q4), .second, .val (.long q5), .second, .val (.int (Int32.ofNat N)), .val (.int (Int32.ofNat K)), .val (.int (Int32.ofNat I)), .val (.int (Int32.ofNat J)), .val (.int (Int32.ofNat Q)), .val (.ref b6), .val (.int (1 : Int32)), .unset, .unset, .unset, .unset] [(.long ((Int32.ofNat I).toInt64)), (.ref b6)])) _
    refine XS.lloadN X8.here hx rfl (hb hby at_91) rfl ?_
    show Steps p.tables e below (T8.setTop (mkF m 92 #[.val (.int p1), .val (.int p2), .val (.int p3), .val (.long q4), .second, .val (.long q5), .second, .val (.int (Int32.ofNat N)), .val (.int (Int32.ofNat K)), .val (.int (Int32.ofNat I)), .val (.int (Int32.ofNat J)), .val (.int (Int32.ofNat Q)), .val (.ref b6), .val (.int (1 : Int32)), .unset, .unset, .unset, .unset] [(.long q4), (.long ((Int32.ofNat I).toInt64)), (.ref b6)])) _
    refine st9.trans ?_
    show Steps p.tables e below (T9.setTop (mkF m 95 #[.val (.int p1), .val (.int p2), .val (.int p3), .val (.long q4), .second, .val (.long q5), .second, .val (.int (Int32.ofNat N)), .val (.int (Int32.ofNat K)), .val (.int (Int32.ofNat I)), .val (.int (Int32.ofNat J)), .val (.int (Int32.ofNat Q)), .val (.ref b6), .val (.int (1 : Int32)), .unset, .unset, .unset, .unset] [])) _
    refine XS.aload X9.here hx rfl (hb hby at_95) rfl rfl ?_
    show Steps p.tables e below (T9.setTop (mkF m 97 #[.val (.int p1), .val (.int p2), .val (.int p3), .val (.long q4), .second, .val (.long q5), .second, .val (.int (Int32.ofNat N)), .val (.int (Int32.ofNat K)), .val (.int (Int32.ofNat I)), .val (.int (Int32.ofNat J)), .val (.int (Int32.ofNat Q)), .val (.ref b6), .val (.int (1 : Int32)), .unset, .unset, .unset, .unset] [(.ref b6)])) _
    refine XS.iload X9.here hx rfl (hb hby at_97) rfl ?_
    show Steps p.tables e below (T9.setTop (mkF m 99 #[.val (.int p1), .val (.int p2), .val (.int p3), .val (.long q4), .second, .val (.long q5), .second, .val (.int (Int32.ofNat N)), .val (.int (Int32.ofNat K)), .val (.int (Int32.ofNat I)), .val (.int (Int32.ofNat J)), .val (.int (Int32.ofNat Q)), .val (.ref b6), .val (.int (1 : Int32)), .unset, .unset, .unset, .unset] [(.int (Int32.ofNat J)), (.ref b6)])) _
    refine XS.i2l X9.here hx rfl (hb hby at_99) rfl ?_
    show Steps p.tables e below (T9.setTop (mkF m 100 #[.val (.int p1), .val (.int p2), .val (.int p3), .val (.long q4), .second, .val (.long q5), .second, .val (.int (Int32.ofNat N)), .val (.int (Int32.ofNat K)), .val (.int (Int32.ofNat I)), .val (.int (Int32.ofNat J)), .val (.int (Int32.ofNat Q)), .val (.ref b6), .val (.int (1 : Int32)), .unset, .unset, .unset, .unset] [(.long ((Int32.ofNat J).toInt64)), (.ref b6)])) _
    refine XS.lload X9.here hx rfl (hb hby at_100) rfl ?_
    show Steps p.tables e below (T9.setTop (mkF m 102 #[.val (.int p1), .val (.int p2), .val (.int p3), .val (.long q4), .second, .val (.long q5), .second, .val (.int (Int32.ofNat N)), .val (.int (Int32.ofNat K)), .val (.int (Int32.ofNat I)), .val (.int (Int32.ofNat J)), .val (.int (Int32.ofNat Q)), .val (.ref b6), .val (.int (1 : Int32)), .unset, .unset, .unset, .unset] [(.long q5), (.long ((Int32.ofNat J).toInt64)), (.ref b6)])) _
    refine st10.trans ?_
    show Steps p.tables e below (T10.setTop (mkF m 105 #[.val (.int p1), .val (.int p2), .val (.int p3), .val (.long q4), .second, .val (.long q5), .second, .val (.int (Int32.ofNat N)), .val (.int (Int32.ofNat K)), .val (.int (Int32.ofNat I)), .val (.int (Int32.ofNat J)), .val (.int (Int32.ofNat Q)), .val (.ref b6), .val (.int (1 : Int32)), .unset, .unset, .unset, .unset] [])) _
    refine XS.iload X10.here hx rfl (hb hby at_105) rfl ?_
    show Steps p.tables e below (T10.setTop (mkF m 107 #[.val (.int p1), .val (.int p2), .val (.int p3), .val (.long q4), .second, .val (.long q5), .second, .val (.int (Int32.ofNat N)), .val (.int (Int32.ofNat K)), .val (.int (Int32.ofNat I)), .val (.int (Int32.ofNat J)), .val (.int (Int32.ofNat Q)), .val (.ref b6), .val (.int (1 : Int32)), .unset, .unset, .unset, .unset] [(.int (Int32.ofNat I))])) _
    refine XS.iload X10.here hx rfl (hb hby at_107) rfl ?_
    show Steps p.tables e below (T10.setTop (mkF m 109 #[.val (.int p1), .val (.int p2), .val (.int p3), .val (.long q4), .second, .val (.long q5), .second, .val (.int (Int32.ofNat N)), .val (.int (Int32.ofNat K)), .val (.int (Int32.ofNat I)), .val (.int (Int32.ofNat J)), .val (.int (Int32.ofNat Q)), .val (.ref b6), .val (.int (1 : Int32)), .unset, .unset, .unset, .unset] [(.int (Int32.ofNat J)), (.int (Int32.ofNat I))])) _
    refine XS.icmpYes X10.here hx rfl (pc0 := 109) (pc' := 117) rfl (hb hby at_109) rfl (feq hc109).2 (by decide) (by decide) ?_
    show Steps p.tables e below (T10.setTop (mkF m 117 #[.val (.int p1), .val (.int p2), .val (.int p3), .val (.long q4), .second, .val (.long q5), .second, .val (.int (Int32.ofNat N)), .val (.int (Int32.ofNat K)), .val (.int (Int32.ofNat I)), .val (.int (Int32.ofNat J)), .val (.int (Int32.ofNat Q)), .val (.ref b6), .val (.int (1 : Int32)), .unset, .unset, .unset, .unset] [])) _
    refine XS.lloadN X10.here hx rfl (hb hby at_117) rfl ?_
    show Steps p.tables e below (T10.setTop (mkF m 118 #[.val (.int p1), .val (.int p2), .val (.int p3), .val (.long q4), .second, .val (.long q5), .second, .val (.int (Int32.ofNat N)), .val (.int (Int32.ofNat K)), .val (.int (Int32.ofNat I)), .val (.int (Int32.ofNat J)), .val (.int (Int32.ofNat Q)), .val (.ref b6), .val (.int (1 : Int32)), .unset, .unset, .unset, .unset] [(.long q4)])) _
    refine XS.lstore X10.here hx rfl (hb hby at_118) rfl (l' := #[.val (.int p1), .val (.int p2), .val (.int p3), .val (.long q4), .second, .val (.long q5), .second, .val (.int (Int32.ofNat N)), .val (.int (Int32.ofNat K)), .val (.int (Int32.ofNat I)), .val (.int (Int32.ofNat J)), .val (.int (Int32.ofNat Q)), .val (.ref b6), .val (.int (1 : Int32)), .val (.long q4), .second, .unset, .unset]) rfl ?_
    show Steps p.tables e below (T10.setTop (mkF m 120 #[.val (.int p1), .val (.int p2), .val (.int p3), .val (.long q4), .second, .val (.long q5), .second, .val (.int (Int32.ofNat N)), .val (.int (Int32.ofNat K)), .val (.int (Int32.ofNat I)), .val (.int (Int32.ofNat J)), .val (.int (Int32.ofNat Q)), .val (.ref b6), .val (.int (1 : Int32)), .val (.long q4), .second, .unset, .unset] [])) _
    refine XS.iload X10.here hx rfl (hb hby at_120) rfl ?_
    show Steps p.tables e below (T10.setTop (mkF m 122 #[.val (.int p1), .val (.int p2), .val (.int p3), .val (.long q4), .second, .val (.long q5), .second, .val (.int (Int32.ofNat N)), .val (.int (Int32.ofNat K)), .val (.int (Int32.ofNat I)), .val (.int (Int32.ofNat J)), .val (.int (Int32.ofNat Q)), .val (.ref b6), .val (.int (1 : Int32)), .val (.long q4), .second, .unset, .unset] [(.int (Int32.ofNat Q))])) _
    refine XS.iload X10.here hx rfl (hb hby at_122) rfl ?_
    show Steps p.tables e below (T10.setTop (mkF m 124 #[.val (.int p1), .val (.int p2), .val (.int p3), .val (.long q4), .second, .val (.long q5), .second, .val (.int (Int32.ofNat N)), .val (.int (Int32.ofNat K)), .val (.int (Int32.ofNat I)), .val (.int (Int32.ofNat J)), .val (.int (Int32.ofNat Q)), .val (.ref b6), .val (.int (1 : Int32)), .val (.long q4), .second, .unset, .unset] [(.int (Int32.ofNat J)), (.int (Int32.ofNat Q))])) _
    refine XS.icmpYes X10.here hx rfl (pc0 := 124) (pc' := 132) rfl (hb hby at_124) rfl (feq hc124).2 (by decide) (by decide) ?_
    show Steps p.tables e below (T10.setTop (mkF m 132 #[.val (.int p1), .val (.int p2), .val (.int p3), .val (.long q4), .second, .val (.long q5), .second, .val (.int (Int32.ofNat N)), .val (.int (Int32.ofNat K)), .val (.int (Int32.ofNat I)), .val (.int (Int32.ofNat J)), .val (.int (Int32.ofNat Q)), .val (.ref b6), .val (.int (1 : Int32)), .val (.long q4), .second, .unset, .unset] [])) _
    refine XS.iload X10.here hx rfl (hb hby at_132) rfl ?_
    show Steps p.tables e below (T10.setTop (mkF m 134 #[.val (.int p1), .val (.int p2), .val (.int p3), .val (.long q4), .second, .val (.long q5), .second, .val (.int (Int32.ofNat N)), .val (.int (Int32.ofNat K)), .val (.int (Int32.ofNat I)), .val (.int (Int32.ofNat J)), .val (.int (Int32.ofNat Q)), .val (.ref b6), .val (.int (1 : Int32)), .val (.long q4), .second, .unset, .unset] [(.int (Int32.ofNat Q))])) _
    refine XS.iload X10.here hx rfl (hb hby at_134) rfl ?_
    show Steps p.tables e below (T10.setTop (mkF m 136 #[.val (.int p1), .val (.int p2), .val (.int p3), .val (.long q4), .second, .val (.long q5), .second, .val (.int (Int32.ofNat N)), .val (.int (Int32.ofNat K)), .val (.int (Int32.ofNat I)), .val (.int (Int32.ofNat J)), .val (.int (Int32.ofNat Q)), .val (.ref b6), .val (.int (1 : Int32)), .val (.long q4), .second, .unset, .unset] [(.int (Int32.ofNat I)), (.int (Int32.ofNat Q))])) _
    refine XS.icmpNo X10.here hx rfl (hb hby at_136) rfl (teq hc136).2 ?_
    show Steps p.tables e below (T10.setTop (mkF m 139 #[.val (.int p1), .val (.int p2), .val (.int p3), .val (.long q4), .second, .val (.long q5), .second, .val (.int (Int32.ofNat N)), .val (.int (Int32.ofNat K)), .val (.int (Int32.ofNat I)), .val (.int (Int32.ofNat J)), .val (.int (Int32.ofNat Q)), .val (.ref b6), .val (.int (1 : Int32)), .val (.long q4), .second, .unset, .unset] [])) _
    refine XS.lloadN X10.here hx rfl (hb hby at_139) rfl ?_
    show Steps p.tables e below (T10.setTop (mkF m 140 #[.val (.int p1), .val (.int p2), .val (.int p3), .val (.long q4), .second, .val (.long q5), .second, .val (.int (Int32.ofNat N)), .val (.int (Int32.ofNat K)), .val (.int (Int32.ofNat I)), .val (.int (Int32.ofNat J)), .val (.int (Int32.ofNat Q)), .val (.ref b6), .val (.int (1 : Int32)), .val (.long q4), .second, .unset, .unset] [(.long q4)])) _
    refine XS.goto X10.here hx rfl (pc0 := 140) (pc' := 144) rfl (hb hby at_140) (by decide) (by decide) ?_
    show Steps p.tables e below (T10.setTop (mkF m 144 #[.val (.int p1), .val (.int p2), .val (.int p3), .val (.long q4), .second, .val (.long q5), .second, .val (.int (Int32.ofNat N)), .val (.int (Int32.ofNat K)), .val (.int (Int32.ofNat I)), .val (.int (Int32.ofNat J)), .val (.int (Int32.ofNat Q)), .val (.ref b6), .val (.int (1 : Int32)), .val (.long q4), .second, .unset, .unset] [(.long q4)])) _
    refine XS.lstore X10.here hx rfl (hb hby at_144) rfl (l' := #[.val (.int p1), .val (.int p2), .val (.int p3), .val (.long q4), .second, .val (.long q5), .second, .val (.int (Int32.ofNat N)), .val (.int (Int32.ofNat K)), .val (.int (Int32.ofNat I)), .val (.int (Int32.ofNat J)), .val (.int (Int32.ofNat Q)), .val (.ref b6), .val (.int (1 : Int32)), .val (.long q4), .second, .val (.long q4), .second]) rfl ?_
    show Steps p.tables e below (T10.setTop (mkF m 146 #[.val (.int p1), .val (.int p2), .val (.int p3), .val (.long q4), .second, .val (.long q5), .second, .val (.int (Int32.ofNat N)), .val (.int (Int32.ofNat K)), .val (.int (Int32.ofNat I)), .val (.int (Int32.ofNat J)), .val (.int (Int32.ofNat Q)), .val (.ref b6), .val (.int (1 : Int32)), .val (.long q4), .second, .val (.long q4), .second] [])) _
    refine XS.iload X10.here hx rfl (hb hby at_146) rfl ?_
    show Steps p.tables e below (T10.setTop (mkF m 148 #[.val (.int p1), .val (.int p2), .val (.int p3), .val (.long q4), .second, .val (.long q5), .second, .val (.int (Int32.ofNat N)), .val (.int (Int32.ofNat K)), .val (.int (Int32.ofNat I)), .val (.int (Int32.ofNat J)), .val (.int (Int32.ofNat Q)), .val (.ref b6), .val (.int (1 : Int32)), .val (.long q4), .second, .val (.long q4), .second] [(.int (1 : Int32))])) _
    refine XS.ifNo X10.here hx rfl (hb hby at_148) rfl ((if0 _ _).trans (feq hc148).1) ?_
    show Steps p.tables e below (T10.setTop (mkF m 151 #[.val (.int p1), .val (.int p2), .val (.int p3), .val (.long q4), .second, .val (.long q5), .second, .val (.int (Int32.ofNat N)), .val (.int (Int32.ofNat K)), .val (.int (Int32.ofNat I)), .val (.int (Int32.ofNat J)), .val (.int (Int32.ofNat Q)), .val (.ref b6), .val (.int (1 : Int32)), .val (.long q4), .second, .val (.long q4), .second] [])) _
    refine XS.aload X10.here hx rfl (hb hby at_151) rfl rfl ?_
    show Steps p.tables e below (T10.setTop (mkF m 153 #[.val (.int p1), .val (.int p2), .val (.int p3), .val (.long q4), .second, .val (.long q5), .second, .val (.int (Int32.ofNat N)), .val (.int (Int32.ofNat K)), .val (.int (Int32.ofNat I)), .val (.int (Int32.ofNat J)), .val (.int (Int32.ofNat Q)), .val (.ref b6), .val (.int (1 : Int32)), .val (.long q4), .second, .val (.long q4), .second] [(.ref b6)])) _
    refine XS.iload X10.here hx rfl (hb hby at_153) rfl ?_
    show Steps p.tables e below (T10.setTop (mkF m 155 #[.val (.int p1), .val (.int p2), .val (.int p3), .val (.long q4), .second, .val (.long q5), .second, .val (.int (Int32.ofNat N)), .val (.int (Int32.ofNat K)), .val (.int (Int32.ofNat I)), .val (.int (Int32.ofNat J)), .val (.int (Int32.ofNat Q)), .val (.ref b6), .val (.int (1 : Int32)), .val (.long q4), .second, .val (.long q4), .second] [(.int (Int32.ofNat I)), (.ref b6)])) _
    refine XS.i2l X10.here hx rfl (hb hby at_155) rfl ?_
    show Steps p.tables e below (T10.setTop (mkF m 156 #[.val (.int p1), .val (.int p2), .val (.int p3), .val (.long q4), .second, .val (.long q5), .second, .val (.int (Int32.ofNat N)), .val (.int (Int32.ofNat K)), .val (.int (Int32.ofNat I)), .val (.int (Int32.ofNat J)), .val (.int (Int32.ofNat Q)), .val (.ref b6), .val (.int (1 : Int32)), .val (.long q4), .second, .val (.long q4), .second] [(.long ((Int32.ofNat I).toInt64)), (.ref b6)])) _
    refine st11.trans ?_
    show Steps p.tables e below (T11.setTop (mkF m 159 #[.val (.int p1), .val (.int p2), .val (.int p3), .val (.long q4), .second, .val (.long q5), .second, .val (.int (Int32.ofNat N)), .val (.int (Int32.ofNat K)), .val (.int (Int32.ofNat I)), .val (.int (Int32.ofNat J)), .val (.int (Int32.ofNat Q)), .val (.ref b6), .val (.int (1 : Int32)), .val (.long q4), .second, .val (.long q4), .second] [(.long ((upd (upd (fun _ => (0 : Int64)) I q4) J q5) I))])) _
    refine XS.lload X11.here hx rfl (hb hby at_159) rfl ?_
    show Steps p.tables e below (T11.setTop (mkF m 161 #[.val (.int p1), .val (.int p2), .val (.int p3), .val (.long q4), .second, .val (.long q5), .second, .val (.int (Int32.ofNat N)), .val (.int (Int32.ofNat K)), .val (.int (Int32.ofNat I)), .val (.int (Int32.ofNat J)), .val (.int (Int32.ofNat Q)), .val (.ref b6), .val (.int (1 : Int32)), .val (.long q4), .second, .val (.long q4), .second] [(.long q4), (.long ((upd (upd (fun _ => (0 : Int64)) I q4) J q5) I))])) _
    refine XS.lcmp X11.here hx rfl (hb hby at_161) rfl ?_
    show Steps p.tables e below (T11.setTop (mkF m 162 #[.val (.int p1), .val (.int p2), .val (.int p3), .val (.long q4), .second, .val (.long q5), .second, .val (.int (Int32.ofNat N)), .val (.int (Int32.ofNat K)), .val (.int (Int32.ofNat I)), .val (.int (Int32.ofNat J)), .val (.int (Int32.ofNat Q)), .val (.ref b6), .val (.int (1 : Int32)), .val (.long q4), .second, .val (.long q4), .second] [(.int (lcmpW ((upd (upd (fun _ => (0 : Int64)) I q4) J q5) I) q4))])) _
    refine XS.ifNo X11.here hx rfl (hb hby at_162) rfl ((if0 _ _).trans (teq (own_lc (by simp [upd, hIJ]) : (lcmpW ((upd (upd (fun _ => (0 : Int64)) I q4) J q5) I) q4) = (0 : Int32))).2) ?_
    show Steps p.tables e below (T11.setTop (mkF m 165 #[.val (.int p1), .val (.int p2), .val (.int p3), .val (.long q4), .second, .val (.long q5), .second, .val (.int (Int32.ofNat N)), .val (.int (Int32.ofNat K)), .val (.int (Int32.ofNat I)), .val (.int (Int32.ofNat J)), .val (.int (Int32.ofNat Q)), .val (.ref b6), .val (.int (1 : Int32)), .val (.long q4), .second, .val (.long q4), .second] [])) _
    refine XS.aload X11.here hx rfl (hb hby at_165) rfl rfl ?_
    show Steps p.tables e below (T11.setTop (mkF m 167 #[.val (.int p1), .val (.int p2), .val (.int p3), .val (.long q4), .second, .val (.long q5), .second, .val (.int (Int32.ofNat N)), .val (.int (Int32.ofNat K)), .val (.int (Int32.ofNat I)), .val (.int (Int32.ofNat J)), .val (.int (Int32.ofNat Q)), .val (.ref b6), .val (.int (1 : Int32)), .val (.long q4), .second, .val (.long q4), .second] [(.ref b6)])) _
    refine XS.iload X11.here hx rfl (hb hby at_167) rfl ?_
    show Steps p.tables e below (T11.setTop (mkF m 169 #[.val (.int p1), .val (.int p2), .val (.int p3), .val (.long q4), .second, .val (.long q5), .second, .val (.int (Int32.ofNat N)), .val (.int (Int32.ofNat K)), .val (.int (Int32.ofNat I)), .val (.int (Int32.ofNat J)), .val (.int (Int32.ofNat Q)), .val (.ref b6), .val (.int (1 : Int32)), .val (.long q4), .second, .val (.long q4), .second] [(.int (Int32.ofNat J)), (.ref b6)])) _
    refine XS.i2l X11.here hx rfl (hb hby at_169) rfl ?_
    show Steps p.tables e below (T11.setTop (mkF m 170 #[.val (.int p1), .val (.int p2), .val (.int p3), .val (.long q4), .second, .val (.long q5), .second, .val (.int (Int32.ofNat N)), .val (.int (Int32.ofNat K)), .val (.int (Int32.ofNat I)), .val (.int (Int32.ofNat J)), .val (.int (Int32.ofNat Q)), .val (.ref b6), .val (.int (1 : Int32)), .val (.long q4), .second, .val (.long q4), .second] [(.long ((Int32.ofNat J).toInt64)), (.ref b6)])) _
    refine st12.trans ?_
    show Steps p.tables e below (T12.setTop (mkF m 173 #[.val (.int p1), .val (.int p2), .val (.int p3), .val (.long q4), .second, .val (.long q5), .second, .val (.int (Int32.ofNat N)), .val (.int (Int32.ofNat K)), .val (.int (Int32.ofNat I)), .val (.int (Int32.ofNat J)), .val (.int (Int32.ofNat Q)), .val (.ref b6), .val (.int (1 : Int32)), .val (.long q4), .second, .val (.long q4), .second] [(.long ((upd (upd (fun _ => (0 : Int64)) I q4) J q5) J))])) _
    refine XS.lload X12.here hx rfl (hb hby at_173) rfl ?_
    show Steps p.tables e below (T12.setTop (mkF m 175 #[.val (.int p1), .val (.int p2), .val (.int p3), .val (.long q4), .second, .val (.long q5), .second, .val (.int (Int32.ofNat N)), .val (.int (Int32.ofNat K)), .val (.int (Int32.ofNat I)), .val (.int (Int32.ofNat J)), .val (.int (Int32.ofNat Q)), .val (.ref b6), .val (.int (1 : Int32)), .val (.long q4), .second, .val (.long q4), .second] [(.long q5), (.long ((upd (upd (fun _ => (0 : Int64)) I q4) J q5) J))])) _
    refine XS.lcmp X12.here hx rfl (hb hby at_175) rfl ?_
    show Steps p.tables e below (T12.setTop (mkF m 176 #[.val (.int p1), .val (.int p2), .val (.int p3), .val (.long q4), .second, .val (.long q5), .second, .val (.int (Int32.ofNat N)), .val (.int (Int32.ofNat K)), .val (.int (Int32.ofNat I)), .val (.int (Int32.ofNat J)), .val (.int (Int32.ofNat Q)), .val (.ref b6), .val (.int (1 : Int32)), .val (.long q4), .second, .val (.long q4), .second] [(.int (lcmpW ((upd (upd (fun _ => (0 : Int64)) I q4) J q5) J) q5))])) _
    refine XS.ifNo X12.here hx rfl (hb hby at_176) rfl ((if0 _ _).trans (teq (own_lc (by simp [upd]) : (lcmpW ((upd (upd (fun _ => (0 : Int64)) I q4) J q5) J) q5) = (0 : Int32))).2) ?_
    show Steps p.tables e below (T12.setTop (mkF m 179 #[.val (.int p1), .val (.int p2), .val (.int p3), .val (.long q4), .second, .val (.long q5), .second, .val (.int (Int32.ofNat N)), .val (.int (Int32.ofNat K)), .val (.int (Int32.ofNat I)), .val (.int (Int32.ofNat J)), .val (.int (Int32.ofNat Q)), .val (.ref b6), .val (.int (1 : Int32)), .val (.long q4), .second, .val (.long q4), .second] [])) _
    refine XS.aload X12.here hx rfl (hb hby at_179) rfl rfl ?_
    show Steps p.tables e below (T12.setTop (mkF m 181 #[.val (.int p1), .val (.int p2), .val (.int p3), .val (.long q4), .second, .val (.long q5), .second, .val (.int (Int32.ofNat N)), .val (.int (Int32.ofNat K)), .val (.int (Int32.ofNat I)), .val (.int (Int32.ofNat J)), .val (.int (Int32.ofNat Q)), .val (.ref b6), .val (.int (1 : Int32)), .val (.long q4), .second, .val (.long q4), .second] [(.ref b6)])) _
    refine XS.iload X12.here hx rfl (hb hby at_181) rfl ?_
    show Steps p.tables e below (T12.setTop (mkF m 183 #[.val (.int p1), .val (.int p2), .val (.int p3), .val (.long q4), .second, .val (.long q5), .second, .val (.int (Int32.ofNat N)), .val (.int (Int32.ofNat K)), .val (.int (Int32.ofNat I)), .val (.int (Int32.ofNat J)), .val (.int (Int32.ofNat Q)), .val (.ref b6), .val (.int (1 : Int32)), .val (.long q4), .second, .val (.long q4), .second] [(.int (Int32.ofNat Q)), (.ref b6)])) _
    refine XS.i2l X12.here hx rfl (hb hby at_183) rfl ?_
    show Steps p.tables e below (T12.setTop (mkF m 184 #[.val (.int p1), .val (.int p2), .val (.int p3), .val (.long q4), .second, .val (.long q5), .second, .val (.int (Int32.ofNat N)), .val (.int (Int32.ofNat K)), .val (.int (Int32.ofNat I)), .val (.int (Int32.ofNat J)), .val (.int (Int32.ofNat Q)), .val (.ref b6), .val (.int (1 : Int32)), .val (.long q4), .second, .val (.long q4), .second] [(.long ((Int32.ofNat Q).toInt64)), (.ref b6)])) _
    refine st13.trans ?_
    show Steps p.tables e below (T13.setTop (mkF m 187 #[.val (.int p1), .val (.int p2), .val (.int p3), .val (.long q4), .second, .val (.long q5), .second, .val (.int (Int32.ofNat N)), .val (.int (Int32.ofNat K)), .val (.int (Int32.ofNat I)), .val (.int (Int32.ofNat J)), .val (.int (Int32.ofNat Q)), .val (.ref b6), .val (.int (1 : Int32)), .val (.long q4), .second, .val (.long q4), .second] [(.long ((upd (upd (fun _ => (0 : Int64)) I q4) J q5) Q))])) _
    refine XS.lload X13.here hx rfl (hb hby at_187) rfl ?_
    show Steps p.tables e below (T13.setTop (mkF m 189 #[.val (.int p1), .val (.int p2), .val (.int p3), .val (.long q4), .second, .val (.long q5), .second, .val (.int (Int32.ofNat N)), .val (.int (Int32.ofNat K)), .val (.int (Int32.ofNat I)), .val (.int (Int32.ofNat J)), .val (.int (Int32.ofNat Q)), .val (.ref b6), .val (.int (1 : Int32)), .val (.long q4), .second, .val (.long q4), .second] [(.long q4), (.long ((upd (upd (fun _ => (0 : Int64)) I q4) J q5) Q))])) _
    refine XS.lcmp X13.here hx rfl (hb hby at_189) rfl ?_
    show Steps p.tables e below (T13.setTop (mkF m 190 #[.val (.int p1), .val (.int p2), .val (.int p3), .val (.long q4), .second, .val (.long q5), .second, .val (.int (Int32.ofNat N)), .val (.int (Int32.ofNat K)), .val (.int (Int32.ofNat I)), .val (.int (Int32.ofNat J)), .val (.int (Int32.ofNat Q)), .val (.ref b6), .val (.int (1 : Int32)), .val (.long q4), .second, .val (.long q4), .second] [(.int (lcmpW ((upd (upd (fun _ => (0 : Int64)) I q4) J q5) Q) q4))])) _
    refine XS.ifNo X13.here hx rfl (hb hby at_190) rfl ((if0 _ _).trans (teq (own_lc (by subst hQI; simp [upd, hQJ]) : (lcmpW ((upd (upd (fun _ => (0 : Int64)) I q4) J q5) Q) q4) = (0 : Int32))).2) ?_
    show Steps p.tables e below (T13.setTop (mkF m 193 #[.val (.int p1), .val (.int p2), .val (.int p3), .val (.long q4), .second, .val (.long q5), .second, .val (.int (Int32.ofNat N)), .val (.int (Int32.ofNat K)), .val (.int (Int32.ofNat I)), .val (.int (Int32.ofNat J)), .val (.int (Int32.ofNat Q)), .val (.ref b6), .val (.int (1 : Int32)), .val (.long q4), .second, .val (.long q4), .second] [])) _
    refine XS.aload X13.here hx rfl (hb hby at_193) rfl rfl ?_
    show Steps p.tables e below (T13.setTop (mkF m 195 #[.val (.int p1), .val (.int p2), .val (.int p3), .val (.long q4), .second, .val (.long q5), .second, .val (.int (Int32.ofNat N)), .val (.int (Int32.ofNat K)), .val (.int (Int32.ofNat I)), .val (.int (Int32.ofNat J)), .val (.int (Int32.ofNat Q)), .val (.ref b6), .val (.int (1 : Int32)), .val (.long q4), .second, .val (.long q4), .second] [(.ref b6)])) _
    refine st14.trans ?_
    show Steps p.tables e below (T14.setTop (mkF m 198 #[.val (.int p1), .val (.int p2), .val (.int p3), .val (.long q4), .second, .val (.long q5), .second, .val (.int (Int32.ofNat N)), .val (.int (Int32.ofNat K)), .val (.int (Int32.ofNat I)), .val (.int (Int32.ofNat J)), .val (.int (Int32.ofNat Q)), .val (.ref b6), .val (.int (1 : Int32)), .val (.long q4), .second, .val (.long q4), .second] [(.long (Int64.ofNat N))])) _
    refine XS.iload X14.here hx rfl (hb hby at_198) rfl ?_
    show Steps p.tables e below (T14.setTop (mkF m 200 #[.val (.int p1), .val (.int p2), .val (.int p3), .val (.long q4), .second, .val (.long q5), .second, .val (.int (Int32.ofNat N)), .val (.int (Int32.ofNat K)), .val (.int (Int32.ofNat I)), .val (.int (Int32.ofNat J)), .val (.int (Int32.ofNat Q)), .val (.ref b6), .val (.int (1 : Int32)), .val (.long q4), .second, .val (.long q4), .second] [(.int (Int32.ofNat N)), (.long (Int64.ofNat N))])) _
    refine XS.i2l X14.here hx rfl (hb hby at_200) rfl ?_
    show Steps p.tables e below (T14.setTop (mkF m 201 #[.val (.int p1), .val (.int p2), .val (.int p3), .val (.long q4), .second, .val (.long q5), .second, .val (.int (Int32.ofNat N)), .val (.int (Int32.ofNat K)), .val (.int (Int32.ofNat I)), .val (.int (Int32.ofNat J)), .val (.int (Int32.ofNat Q)), .val (.ref b6), .val (.int (1 : Int32)), .val (.long q4), .second, .val (.long q4), .second] [(.long ((Int32.ofNat N).toInt64)), (.long (Int64.ofNat N))])) _
    refine XS.lcmp X14.here hx rfl (hb hby at_201) rfl ?_
    show Steps p.tables e below (T14.setTop (mkF m 202 #[.val (.int p1), .val (.int p2), .val (.int p3), .val (.long q4), .second, .val (.long q5), .second, .val (.int (Int32.ofNat N)), .val (.int (Int32.ofNat K)), .val (.int (Int32.ofNat I)), .val (.int (Int32.ofNat J)), .val (.int (Int32.ofNat Q)), .val (.ref b6), .val (.int (1 : Int32)), .val (.long q4), .second, .val (.long q4), .second] [(.int (lcmpW (Int64.ofNat N) ((Int32.ofNat N).toInt64)))])) _
    refine XS.ifNo X14.here hx rfl (hb hby at_202) rfl ((if0 _ _).trans (teq (own_lc (own_l hN rfl).symm : (lcmpW (Int64.ofNat N) ((Int32.ofNat N).toInt64)) = (0 : Int32))).2) ?_
    show Steps p.tables e below (T14.setTop (mkF m 205 #[.val (.int p1), .val (.int p2), .val (.int p3), .val (.long q4), .second, .val (.long q5), .second, .val (.int (Int32.ofNat N)), .val (.int (Int32.ofNat K)), .val (.int (Int32.ofNat I)), .val (.int (Int32.ofNat J)), .val (.int (Int32.ofNat Q)), .val (.ref b6), .val (.int (1 : Int32)), .val (.long q4), .second, .val (.long q4), .second] [])) _
    refine XS.iconst X14.here hx rfl (hb hby at_205) ?_
    show Steps p.tables e below (T14.setTop (mkF m 206 #[.val (.int p1), .val (.int p2), .val (.int p3), .val (.long q4), .second, .val (.long q5), .second, .val (.int (Int32.ofNat N)), .val (.int (Int32.ofNat K)), .val (.int (Int32.ofNat I)), .val (.int (Int32.ofNat J)), .val (.int (Int32.ofNat Q)), .val (.ref b6), .val (.int (1 : Int32)), .val (.long q4), .second, .val (.long q4), .second] [(.int (1 : Int32))])) _
    refine XS.goto X14.here hx rfl (pc0 := 206) (pc' := 210) rfl (hb hby at_206) (by decide) (by decide) ?_
    show Steps p.tables e below (T14.setTop (mkF m 210 #[.val (.int p1), .val (.int p2), .val (.int p3), .val (.long q4), .second, .val (.long q5), .second, .val (.int (Int32.ofNat N)), .val (.int (Int32.ofNat K)), .val (.int (Int32.ofNat I)), .val (.int (Int32.ofNat J)), .val (.int (Int32.ofNat Q)), .val (.ref b6), .val (.int (1 : Int32)), .val (.long q4), .second, .val (.long q4), .second] [(.int (1 : Int32))])) _
    exact retN X14 hx (t := .boolean) Bd.returns (by simp) (hb hby at_210) hr
  · show Q0_d Z p1 p2 p3 q4 q5 N K I J Q h0 n0 _ T14.heap _
    exact ⟨rfl, N14⟩
def Q0_e (Z : State) (p1 : Int32) (p2 : Int32) (p3 : Int32) (q4 : Int64) (q5 : Int64) (N : Nat) (K : Nat) (I : Nat) (J : Nat) (Q : Nat) (h0 : Heap) (n0 : Nat) (v : Option Value) (h : Heap) (L : List Loc) : Prop := v = some (.int (1 : Int32)) ∧ Fr n0 L
set_option maxRecDepth 65536 in
set_option maxHeartbeats 40000000 in
theorem rm0_e (l : Launch) (Z : State) (a0 : Array Value) (hw : ∀ d ∈ tables_1, d.before a0 Z = true) (ws : List Jvm.Cond) (p1 : Int32) (p2 : Int32) (p3 : Int32) (q4 : Int64) (q5 : Int64) (N : Nat) (K : Nat) (I : Nat) (J : Nat) (Q : Nat) (h0 : Heap) (n0 : Nat) (Z0 : n0 ≤ h0.size) (hvN : ((1 : Int32) + (p1 &&& (15 : Int32))) = (Int32.ofNat N)) (hvK : ((p2 &&& (2147483647 : Int32)) % (5 : Int32)) = (Int32.ofNat K)) (hnz23 : ¬ ((Int32.ofNat N) = (0 : Int32))) (hvI : ((p3 &&& (255 : Int32)) % (Int32.ofNat N)) = (Int32.ofNat I)) (hnz36 : ¬ ((Int32.ofNat N) = (0 : Int32))) (hvJ : ((((p3.toUInt32 >>> ((8 : Int32) &&& 31).toUInt32).toInt32) &&& (255 : Int32)) % (Int32.ofNat N)) = (Int32.ofNat J)) (hnz49 : ¬ ((Int32.ofNat N) = (0 : Int32))) (hvQ : ((((p3.toUInt32 >>> ((16 : Int32) &&& 31).toUInt32).toInt32) &&& (255 : Int32)) % (Int32.ofNat N)) = (Int32.ofNat Q)) (hc109 : ¬ ((Int32.ofNat I) = (Int32.ofNat J))) (hc124 : ¬ ((Int32.ofNat Q) = (Int32.ofNat J))) (hc136 : ¬ ((Int32.ofNat Q) = (Int32.ofNat I))) (hc148 : ¬ ((1 : Int32) = (0 : Int32))) (hN1 : 1 ≤ N) (hN : N ≤ 16) (hKK : K ≤ 4) (hI : I < N) (hJ : J < N) (hQ : Q < N) (hIJ : I ≠ J) (hQJ : Q ≠ J) (hQI : Q ≠ I) :
    MetFree l x (head1 (Jvm.Cond.code x code maxLocals ret :: ws) room_1) (fun a U => a = #[(.int p1), (.int p2), (.int p3), (.long q4), (.long q5)] ∧ Z.Warmed39 U.vm ∧ U.heap = h0) (fun _ _ _ _ _ => True) (fun _ U o U' => ∃ v L, o = .returned v ∧ Q0_e Z p1 p2 p3 q4 q5 N K I J Q h0 n0 v U'.heap L ∧ FrameEnd U o U' L room_1.cells room_1.slots) := by
  refine MetFree.of_bodySF (plainFor_of_name pn_0) hisR ?_
  intro p e s m args below meth c s₁ Bd hml0 hP hK
  obtain ⟨rfl, hZ, hh⟩ := hP
  have hx := Bd.exec
  have hby := Bd.bytes
  have hml : c.maxLocals = 18 := hml0
  have hown : s.vm.findClass "com/example/cowbird/cowbird/table/WordsGetPinLaw" = some m.cls := findClass_of_methodNamed Bd.named
  have hnm := (name_of_methodNamed Bd.named Bd.method).1
  have X0 : Stand p l e room_1 s m #[(.int p1), (.int p2), (.int p3), (.long q4), (.long q5)] below meth c s₁ [] 0 0 := Stand.of_body Bd
  have e0 : s₁.heap = h0 := by rw [← hh, Bd.state]; rfl
  have N0 := Fr.nil n0
  have pre0 : ∀ t, Steps p.tables e below (s₁.setTop (mkF m 0 #[.val (.int p1), .val (.int p2), .val (.int p3), .val (.long q4), .second, .val (.long q5), .second, .unset, .unset, .unset, .unset, .unset, .unset, .unset, .unset, .unset, .unset, .unset] [])) t → Steps p.tables e below (s₁.setTop (entryFrame m #[(.int p1), (.int p2), (.int p3), (.long q4), (.long q5)] maxLocals)) t := fun t k => castTop (ef_0 m p1 p2 p3 q4 q5) k

  obtain ⟨T6, h6, X6, e6, E6, A6, D6, -, st6⟩ := newO X0 hx hZ hown (hw _ (List.mem_of_getElem? (i := 1) rfl)) (hw _ (List.mem_of_getElem? (i := 2) rfl)) (hw _ (List.mem_of_getElem? (i := 3) rfl)) e0 (g := (mkF m 52 #[.val (.int p1), .val (.int p2), .val (.int p3), .val (.long q4), .second, .val (.long q5), .second, .val (.int (Int32.ofNat N)), .val (.int (Int32.ofNat K)), .val (.int (Int32.ofNat I)), .val (.int (Int32.ofNat J)), .val (.int (Int32.ofNat Q)), .unset, .unset, .unset, .unset, .unset, .unset] [])) rfl (hb hby at_52) (by decide) (by decide)
  obtain ⟨b6, g6⟩ : ∃ z, z = h0.size := ⟨_, rfl⟩
  rw [← g6] at A6 D6 st6
  have F_pages_b6 : Fld Z h6 b6 "com/example/cowbird/cowbird/table/Words" "pages" "[[J" .null := D6 (Or.inr (hw _ (List.mem_of_getElem? (i := 19) rfl))) (ty := (.array (.array .long))) (by decide)
  have F_pageShift_b6 : Fld Z h6 b6 "com/example/cowbird/cowbird/table/Words" "pageShift" "I" (.int (0 : Int32)) := D6 (Or.inr (hw _ (List.mem_of_getElem? (i := 21) rfl))) (ty := .int) (by decide)
  have F_pageMask_b6 : Fld Z h6 b6 "com/example/cowbird/cowbird/table/Words" "pageMask" "J" (.long (0 : Int64)) := D6 (Or.inr (hw _ (List.mem_of_getElem? (i := 23) rfl))) (ty := .long) (by decide)
  have F_length_b6 : Fld Z h6 b6 "com/example/cowbird/cowbird/table/Words" "length" "J" (.long (0 : Int64)) := D6 (Or.inr (hw _ (List.mem_of_getElem? (i := 25) rfl))) (ty := .long) (by decide)
  have E_b6 := A6
  have g_b6 : n0 ≤ b6 := Nat.le_trans Z0 (Nat.le_of_eq g6.symm)
  have sz_b6 : h0.size ≤ b6 := (Nat.le_trans (Keep.refl h0 []).1 (Nat.le_of_eq g6.symm))
  have K6 : Keep h0 h6 [] := (Keep.refl h0 []).ext E6

  obtain ⟨_, _, ⟨T7, L7, k7, n7⟩, -, X7, ⟨Lc7, hQ7, l7, y7, z7⟩, st7⟩ := X6.specialBack hx (y := (⟨"com/example/cowbird/cowbird/table/Words", "<init>", "(JI)V"⟩ : MethodName)) rfl hown (mvT hZ (hw _ (List.mem_of_getElem? (i := 4) rfl))) (mvT hZ (hw _ (List.mem_of_getElem? (i := 5) rfl))) (mvT hZ (hw _ (List.mem_of_getElem? (i := 6) rfl))) (by decide) (backOf (W := 1) (rm1 l Z a0 hw [] b6 ((Int32.ofNat N).toInt64) (Int32.ofNat K) N K hN1 hN hKK (own_l hN rfl) rfl h6 n0 (Nat.le_trans Z0 E6.1) E_b6 F_pages_b6 F_pageShift_b6 F_pageMask_b6 F_length_b6 g_b6) hZ (hw _ (List.mem_of_getElem? (i := 6) rfl)) (hw _ (List.mem_of_getElem? (i := 3) rfl)) (by decide) (by decide)) (g := (mkF m 61 #[.val (.int p1), .val (.int p2), .val (.int p3), .val (.long q4), .second, .val (.long q5), .second, .val (.int (Int32.ofNat N)), .val (.int (Int32.ofNat K)), .val (.int (Int32.ofNat I)), .val (.int (Int32.ofNat J)), .val (.int (Int32.ofNat Q)), .unset, .unset, .unset, .unset, .unset, .unset] [(.int (Int32.ofNat K)), (.long ((Int32.ofNat N).toInt64)), (.ref b6), (.ref b6)])) rfl (by rw [hml]; rfl) (Steps.refl _) (a := b6) (argsL := [(.long ((Int32.ofNat N).toInt64)), (.int (Int32.ofNat K))]) (rest := [(.ref b6)]) (lenOf pd_0_0 rfl) rfl (by show 2 * 0 + _ ≤ _; exact Nat.le_of_eq rfl) (hb hby at_61) (fun _ _ => ⟨rfl, e6, (by decide : 1 + 17 ≤ _), (by decide : 4 + 32 ≤ _)⟩)
  dsimp only [Pt.U, Pt.locs, Pt.cells, Pt.slots] at X7 l7 y7 z7 st7 hQ7
  subst l7 y7 z7
  obtain ⟨rfl, N7q, P, pa, gP, W7⟩ := hQ7
  have zz7 : n0 ≤ T7.heap.size := Nat.le_trans gP (Nat.le_of_lt W7.lt)
  have N7 := Fr.app N0 N7q

  obtain ⟨cq8, kq8, q8a, q8b, q8c⟩ := isOf hZ rfl W7.1
  obtain ⟨_, _, ⟨T8, L8, k8, n8⟩, -, X8, ⟨Lc8, hQ8, l8, y8, z8⟩, st8⟩ := X7.virtualBack hx (y := (⟨"com/example/cowbird/cowbird/table/Words", "get", "(J)J"⟩ : MethodName)) (z := (⟨"com/example/cowbird/cowbird/table/Words", "get", "(J)J"⟩ : MethodName)) hown (mvT hZ (hw _ (List.mem_of_getElem? (i := 35) rfl))) (mvT hZ (hw _ (List.mem_of_getElem? (i := 36) rfl))) (notFace_of_selects (args := #[]) (mvT hZ (hw _ (List.mem_of_getElem? (i := 38) rfl)))) (mvT hZ (hw _ (List.mem_of_getElem? (i := 38) rfl))) (mvT hZ (hw _ (List.mem_of_getElem? (i := 37) rfl))) (by decide) (backOf (W := 0) (Wd.get l Z a0 hw hN hKK (zz7) W7 hQ (own_l (by omega) rfl)) hZ (hw _ (List.mem_of_getElem? (i := 39) rfl)) (hw _ (List.mem_of_getElem? (i := 3) rfl)) (by decide) (by decide)) q8a q8c (g := (mkF m 71 #[.val (.int p1), .val (.int p2), .val (.int p3), .val (.long q4), .second, .val (.long q5), .second, .val (.int (Int32.ofNat N)), .val (.int (Int32.ofNat K)), .val (.int (Int32.ofNat I)), .val (.int (Int32.ofNat J)), .val (.int (Int32.ofNat Q)), .val (.ref b6), .unset, .unset, .unset, .unset, .unset] [(.long ((Int32.ofNat Q).toInt64)), (.ref b6)])) rfl (by rw [hml]; rfl) (Steps.refl _) (argsL := [(.long ((Int32.ofNat Q).toInt64))]) (rest := []) (lenOf pd_0_6 rfl) rfl (by show 2 * 0 + _ ≤ _; exact Nat.le_of_eq rfl) (hb hby at_71) (fun _ _ => ⟨rfl, rfl, (by decide : 1 + 17 + 0 ≤ _), (by decide : 4 + 32 + 0 ≤ _)⟩)
  dsimp only [Pt.U, Pt.locs, Pt.cells, Pt.slots] at X8 l8 y8 z8 st8 hQ8
  subst l8 y8 z8
  obtain ⟨rfl, N8q, eQ8⟩ := hQ8
  have W8 : Wd Z T8.heap b6 P pa N K (np N K) (fun _ => (0 : Int64)) := by rw [eQ8]; exact W7
  have zz8 : n0 ≤ T8.heap.size := Nat.le_trans gP (Nat.le_of_lt W8.lt)
  have N8 := Fr.app N7 N8q

  obtain ⟨cq9, kq9, q9a, q9b, q9c⟩ := isOf hZ rfl W8.1
  obtain ⟨_, _, ⟨T9, L9, k9, n9⟩, -, X9, ⟨Lc9, hQ9, l9, y9, z9⟩, st9⟩ := X8.virtualBack hx (y := (⟨"com/example/cowbird/cowbird/table/Words", "set", "(JJ)V"⟩ : MethodName)) (z := (⟨"com/example/cowbird/cowbird/table/Words", "set", "(JJ)V"⟩ : MethodName)) hown (mvT hZ (hw _ (List.mem_of_getElem? (i := 40) rfl))) (mvT hZ (hw _ (List.mem_of_getElem? (i := 41) rfl))) (notFace_of_selects (args := #[]) (mvT hZ (hw _ (List.mem_of_getElem? (i := 43) rfl)))) (mvT hZ (hw _ (List.mem_of_getElem? (i := 43) rfl))) (mvT hZ (hw _ (List.mem_of_getElem? (i := 42) rfl))) (by decide) (backOf (W := 0) (Wd.put l Z a0 hw hN hKK (zz8) gP W8 hI (own_l (by omega) rfl) q4) hZ (hw _ (List.mem_of_getElem? (i := 44) rfl)) (hw _ (List.mem_of_getElem? (i := 3) rfl)) (by decide) (by decide)) q9a q9c (g := (mkF m 92 #[.val (.int p1), .val (.int p2), .val (.int p3), .val (.long q4), .second, .val (.long q5), .second, .val (.int (Int32.ofNat N)), .val (.int (Int32.ofNat K)), .val (.int (Int32.ofNat I)), .val (.int (Int32.ofNat J)), .val (.int (Int32.ofNat Q)), .val (.ref b6), .val (.int (1 : Int32)), .unset, .unset, .unset, .unset] [(.long q4), (.long ((Int32.ofNat I).toInt64)), (.ref b6)])) rfl (by rw [hml]; rfl) (Steps.refl _) (argsL := [(.long ((Int32.ofNat I).toInt64)), (.long q4)]) (rest := []) (lenOf pd_0_7 rfl) rfl (by show 2 * 0 + _ ≤ _; exact Nat.le_of_eq rfl) (hb hby at_92) (fun _ _ => ⟨rfl, rfl, (by decide : 1 + 17 + 0 ≤ _), (by decide : 4 + 32 + 0 ≤ _)⟩)
  dsimp only [Pt.U, Pt.locs, Pt.cells, Pt.slots] at X9 l9 y9 z9 st9 hQ9
  subst l9 y9 z9
  obtain ⟨rfl, N9q, w9⟩ := hQ9
  have W9 : Wd Z T9.heap b6 P pa N K (np N K) (upd (fun _ => (0 : Int64)) I q4) := Wd.set hN hKK W8 hI w9
  have zz9 : n0 ≤ T9.heap.size := Nat.le_trans gP (Nat.le_of_lt W9.lt)
  have N9 := Fr.app N8 N9q

  obtain ⟨cq10, kq10, q10a, q10b, q10c⟩ := isOf hZ rfl W9.1
  obtain ⟨_, _, ⟨T10, L10, k10, n10⟩, -, X10, ⟨Lc10, hQ10, l10, y10, z10⟩, st10⟩ := X9.virtualBack hx (y := (⟨"com/example/cowbird/cowbird/table/Words", "set", "(JJ)V"⟩ : MethodName)) (z := (⟨"com/example/cowbird/cowbird/table/Words", "set", "(JJ)V"⟩ : MethodName)) hown (mvT hZ (hw _ (List.mem_of_getElem? (i := 40) rfl))) (mvT hZ (hw _ (List.mem_of_getElem? (i := 41) rfl))) (notFace_of_selects (args := #[]) (mvT hZ (hw _ (List.mem_of_getElem? (i := 43) rfl)))) (mvT hZ (hw _ (List.mem_of_getElem? (i := 43) rfl))) (mvT hZ (hw _ (List.mem_of_getElem? (i := 42) rfl))) (by decide) (backOf (W := 0) (Wd.put l Z a0 hw hN hKK (zz9) gP W9 hJ (own_l (by omega) rfl) q5) hZ (hw _ (List.mem_of_getElem? (i := 44) rfl)) (hw _ (List.mem_of_getElem? (i := 3) rfl)) (by decide) (by decide)) q10a q10c (g := (mkF m 102 #[.val (.int p1), .val (.int p2), .val (.int p3), .val (.long q4), .second, .val (.long q5), .second, .val (.int (Int32.ofNat N)), .val (.int (Int32.ofNat K)), .val (.int (Int32.ofNat I)), .val (.int (Int32.ofNat J)), .val (.int (Int32.ofNat Q)), .val (.ref b6), .val (.int (1 : Int32)), .unset, .unset, .unset, .unset] [(.long q5), (.long ((Int32.ofNat J).toInt64)), (.ref b6)])) rfl (by rw [hml]; rfl) (Steps.refl _) (argsL := [(.long ((Int32.ofNat J).toInt64)), (.long q5)]) (rest := []) (lenOf pd_0_7 rfl) rfl (by show 2 * 0 + _ ≤ _; exact Nat.le_of_eq rfl) (hb hby at_102) (fun _ _ => ⟨rfl, rfl, (by decide : 1 + 17 + 0 ≤ _), (by decide : 4 + 32 + 0 ≤ _)⟩)
  dsimp only [Pt.U, Pt.locs, Pt.cells, Pt.slots] at X10 l10 y10 z10 st10 hQ10
  subst l10 y10 z10
  obtain ⟨rfl, N10q, w10⟩ := hQ10
  have W10 : Wd Z T10.heap b6 P pa N K (np N K) (upd (upd (fun _ => (0 : Int64)) I q4) J q5) := Wd.set hN hKK W9 hJ w10
  have zz10 : n0 ≤ T10.heap.size := Nat.le_trans gP (Nat.le_of_lt W10.lt)
  have N10 := Fr.app N9 N10q

  obtain ⟨cq11, kq11, q11a, q11b, q11c⟩ := isOf hZ rfl W10.1
  obtain ⟨_, _, ⟨T11, L11, k11, n11⟩, -, X11, ⟨Lc11, hQ11, l11, y11, z11⟩, st11⟩ := X10.virtualBack hx (y := (⟨"com/example/cowbird/cowbird/table/Words", "get", "(J)J"⟩ : MethodName)) (z := (⟨"com/example/cowbird/cowbird/table/Words", "get", "(J)J"⟩ : MethodName)) hown (mvT hZ (hw _ (List.mem_of_getElem? (i := 35) rfl))) (mvT hZ (hw _ (List.mem_of_getElem? (i := 36) rfl))) (notFace_of_selects (args := #[]) (mvT hZ (hw _ (List.mem_of_getElem? (i := 38) rfl)))) (mvT hZ (hw _ (List.mem_of_getElem? (i := 38) rfl))) (mvT hZ (hw _ (List.mem_of_getElem? (i := 37) rfl))) (by decide) (backOf (W := 0) (Wd.get l Z a0 hw hN hKK (zz10) W10 hI (own_l (by omega) rfl)) hZ (hw _ (List.mem_of_getElem? (i := 39) rfl)) (hw _ (List.mem_of_getElem? (i := 3) rfl)) (by decide) (by decide)) q11a q11c (g := (mkF m 156 #[.val (.int p1), .val (.int p2), .val (.int p3), .val (.long q4), .second, .val (.long q5), .second, .val (.int (Int32.ofNat N)), .val (.int (Int32.ofNat K)), .val (.int (Int32.ofNat I)), .val (.int (Int32.ofNat J)), .val (.int (Int32.ofNat Q)), .val (.ref b6), .val (.int (1 : Int32)), .val (.long q4), .second, .val (.long (0 : Int64)), .second] [(.long ((Int32.ofNat I).toInt64)), (.ref b6)])) rfl (by rw [hml]; rfl) (Steps.refl _) (argsL := [(.long ((Int32.ofNat I).toInt64))]) (rest := []) (lenOf pd_0_6 rfl) rfl (by show 2 * 0 + _ ≤ _; exact Nat.le_of_eq rfl) (hb hby at_156) (fun _ _ => ⟨rfl, rfl, (by decide : 1 + 17 + 0 ≤ _), (by decide : 4 + 32 + 0 ≤ _)⟩)
  dsimp only [Pt.U, Pt.locs, Pt.cells, Pt.slots] at X11 l11 y11 z11 st11 hQ11
  subst l11 y11 z11
  obtain ⟨rfl, N11q, eQ11⟩ := hQ11
  have W11 : Wd Z T11.heap b6 P pa N K (np N K) (upd (upd (fun _ => (0 : Int64)) I q4) J q5) := by rw [eQ11]; exact W10
  have zz11 : n0 ≤ T11.heap.size := Nat.le_trans gP (Nat.le_of_lt W11.lt)
  have N11 := Fr.app N10 N11q

  obtain ⟨cq12, kq12, q12a, q12b, q12c⟩ := isOf hZ rfl W11.1
  obtain ⟨_, _, ⟨T12, L12, k12, n12⟩, -, X12, ⟨Lc12, hQ12, l12, y12, z12⟩, st12⟩ := X11.virtualBack hx (y := (⟨"com/example/cowbird/cowbird/table/Words", "get", "(J)J"⟩ : MethodName)) (z := (⟨"com/example/cowbird/cowbird/table/Words", "get", "(J)J"⟩ : MethodName)) hown (mvT hZ (hw _ (List.mem_of_getElem? (i := 35) rfl))) (mvT hZ (hw _ (List.mem_of_getElem? (i := 36) rfl))) (notFace_of_selects (args := #[]) (mvT hZ (hw _ (List.mem_of_getElem? (i := 38) rfl)))) (mvT hZ (hw _ (List.mem_of_getElem? (i := 38) rfl))) (mvT hZ (hw _ (List.mem_of_getElem? (i := 37) rfl))) (by decide) (backOf (W := 0) (Wd.get l Z a0 hw hN hKK (zz11) W11 hJ (own_l (by omega) rfl)) hZ (hw _ (List.mem_of_getElem? (i := 39) rfl)) (hw _ (List.mem_of_getElem? (i := 3) rfl)) (by decide) (by decide)) q12a q12c (g := (mkF m 170 #[.val (.int p1), .val (.int p2), .val (.int p3), .val (.long q4), .second, .val (.long q5), .second, .val (.int (Int32.ofNat N)), .val (.int (Int32.ofNat K)), .val (.int (Int32.ofNat I)), .val (.int (Int32.ofNat J)), .val (.int (Int32.ofNat Q)), .val (.ref b6), .val (.int (1 : Int32)), .val (.long q4), .second, .val (.long (0 : Int64)), .second] [(.long ((Int32.ofNat J).toInt64)), (.ref b6)])) rfl (by rw [hml]; rfl) (Steps.refl _) (argsL := [(.long ((Int32.ofNat J).toInt64))]) (rest := []) (lenOf pd_0_6 rfl) rfl (by show 2 * 0 + _ ≤ _; exact Nat.le_of_eq rfl) (hb hby at_170) (fun _ _ => ⟨rfl, rfl, (by decide : 1 + 17 + 0 ≤ _), (by decide : 4 + 32 + 0 ≤ _)⟩)
  dsimp only [Pt.U, Pt.locs, Pt.cells, Pt.slots] at X12 l12 y12 z12 st12 hQ12
  subst l12 y12 z12
  obtain ⟨rfl, N12q, eQ12⟩ := hQ12
  have W12 : Wd Z T12.heap b6 P pa N K (np N K) (upd (upd (fun _ => (0 : Int64)) I q4) J q5) := by rw [eQ12]; exact W11
  have zz12 : n0 ≤ T12.heap.size := Nat.le_trans gP (Nat.le_of_lt W12.lt)
  have N12 := Fr.app N11 N12q

  obtain ⟨cq13, kq13, q13a, q13b, q13c⟩ := isOf hZ rfl W12.1
  obtain ⟨_, _, ⟨T13, L13, k13, n13⟩, -, X13, ⟨Lc13, hQ13, l13, y13, z13⟩, st13⟩ := X12.virtualBack hx (y := (⟨"com/example/cowbird/cowbird/table/Words", "get", "(J)J"⟩ : MethodName)) (z := (⟨"com/example/cowbird/cowbird/table/Words", "get", "(J)J"⟩ : MethodName)) hown (mvT hZ (hw _ (List.mem_of_getElem? (i := 35) rfl))) (mvT hZ (hw _ (List.mem_of_getElem? (i := 36) rfl))) (notFace_of_selects (args := #[]) (mvT hZ (hw _ (List.mem_of_getElem? (i := 38) rfl)))) (mvT hZ (hw _ (List.mem_of_getElem? (i := 38) rfl))) (mvT hZ (hw _ (List.mem_of_getElem? (i := 37) rfl))) (by decide) (backOf (W := 0) (Wd.get l Z a0 hw hN hKK (zz12) W12 hQ (own_l (by omega) rfl)) hZ (hw _ (List.mem_of_getElem? (i := 39) rfl)) (hw _ (List.mem_of_getElem? (i := 3) rfl)) (by decide) (by decide)) q13a q13c (g := (mkF m 184 #[.val (.int p1), .val (.int p2), .val (.int p3), .val (.long q4), .second, .val (.long q5), .second, .val (.int (Int32.ofNat N)), .val (.int (Int32.ofNat K)), .val (.int (Int32.ofNat I)), .val (.int (Int32.ofNat J)), .val (.int (Int32.ofNat Q)), .val (.ref b6), .val (.int (1 : Int32)), .val (.long q4), .second, .val (.long (0 : Int64)), .second] [(.long ((Int32.ofNat Q).toInt64)), (.ref b6)])) rfl (by rw [hml]; rfl) (Steps.refl _) (argsL := [(.long ((Int32.ofNat Q).toInt64))]) (rest := []) (lenOf pd_0_6 rfl) rfl (by show 2 * 0 + _ ≤ _; exact Nat.le_of_eq rfl) (hb hby at_184) (fun _ _ => ⟨rfl, rfl, (by decide : 1 + 17 + 0 ≤ _), (by decide : 4 + 32 + 0 ≤ _)⟩)
  dsimp only [Pt.U, Pt.locs, Pt.cells, Pt.slots] at X13 l13 y13 z13 st13 hQ13
  subst l13 y13 z13
  obtain ⟨rfl, N13q, eQ13⟩ := hQ13
  have W13 : Wd Z T13.heap b6 P pa N K (np N K) (upd (upd (fun _ => (0 : Int64)) I q4) J q5) := by rw [eQ13]; exact W12
  have zz13 : n0 ≤ T13.heap.size := Nat.le_trans gP (Nat.le_of_lt W13.lt)
  have N13 := Fr.app N12 N13q

  obtain ⟨cq14, kq14, q14a, q14b, q14c⟩ := isOf hZ rfl W13.1
  obtain ⟨_, _, ⟨T14, L14, k14, n14⟩, -, X14, ⟨Lc14, hQ14, l14, y14, z14⟩, st14⟩ := X13.virtualBack hx (y := (⟨"com/example/cowbird/cowbird/table/Words", "length", "()J"⟩ : MethodName)) (z := (⟨"com/example/cowbird/cowbird/table/Words", "length", "()J"⟩ : MethodName)) hown (mvT hZ (hw _ (List.mem_of_getElem? (i := 45) rfl))) (mvT hZ (hw _ (List.mem_of_getElem? (i := 46) rfl))) (notFace_of_selects (args := #[]) (mvT hZ (hw _ (List.mem_of_getElem? (i := 48) rfl)))) (mvT hZ (hw _ (List.mem_of_getElem? (i := 48) rfl))) (mvT hZ (hw _ (List.mem_of_getElem? (i := 47) rfl))) (by decide) (backOf (W := 0) (Wd.len l Z a0 hw (zz13) W13) hZ (hw _ (List.mem_of_getElem? (i := 49) rfl)) (hw _ (List.mem_of_getElem? (i := 3) rfl)) (by decide) (by decide)) q14a q14c (g := (mkF m 195 #[.val (.int p1), .val (.int p2), .val (.int p3), .val (.long q4), .second, .val (.long q5), .second, .val (.int (Int32.ofNat N)), .val (.int (Int32.ofNat K)), .val (.int (Int32.ofNat I)), .val (.int (Int32.ofNat J)), .val (.int (Int32.ofNat Q)), .val (.ref b6), .val (.int (1 : Int32)), .val (.long q4), .second, .val (.long (0 : Int64)), .second] [(.ref b6)])) rfl (by rw [hml]; rfl) (Steps.refl _) (argsL := []) (rest := []) (lenOf pd_0_8 rfl) rfl (by show 2 * 0 + _ ≤ _; exact Nat.le_of_eq rfl) (hb hby at_195) (fun _ _ => ⟨rfl, rfl, (by decide : 1 + 17 + 0 ≤ _), (by decide : 4 + 32 + 0 ≤ _)⟩)
  dsimp only [Pt.U, Pt.locs, Pt.cells, Pt.slots] at X14 l14 y14 z14 st14 hQ14
  subst l14 y14 z14
  obtain ⟨rfl, N14q, eQ14⟩ := hQ14
  have W14 : Wd Z T14.heap b6 P pa N K (np N K) (upd (upd (fun _ => (0 : Int64)) I q4) J q5) := by rw [eQ14]; exact W13
  have zz14 : n0 ≤ T14.heap.size := Nat.le_trans gP (Nat.le_of_lt W14.lt)
  have N14 := Fr.app N13 N14q
  obtain ⟨fs, hr, hrun, hended, hW, hsame⟩ := X14.leave (v := some (.int (1 : Int32))) (fun h => by rw [Bd.returns] at h; cases h)
  refine ⟨_, _, pre0 _ ?_, hrun, hended, _, _, rfl, ?_, ⟨_, rfl⟩, hW, hsame.mono (by decide) (by decide)⟩

  · show Steps p.tables e below (s₁.setTop (mkF m 0 #[.val (.int p1), .val (.int p2), .val (.int p3), .val (.long q4), .second, .val (.long q5), .second, .unset, .unset, .unset, .unset, .unset, .unset, .unset, .unset, .unset, .unset, .unset] [])) _
    refine XS.iconst X0.here hx rfl (hb hby at_0) ?_
    show Steps p.tables e below (s₁.setTop (mkF m 1 #[.val (.int p1), .val (.int p2), .val (.int p3), .val (.long q4), .second, .val (.long q5), .second, .unset, .unset, .unset, .unset, .unset, .unset, .unset, .unset, .unset, .unset, .unset] [(.int (1 : Int32))])) _
    refine XS.iloadN X0.here hx rfl (hb hby at_1) rfl ?_
    show Steps p.tables e below (s₁.setTop (mkF m 2 #[.val (.int p1), .val (.int p2), .val (.int p3), .val (.long q4), .second, .val (.long q5), .second, .unset, .unset, .unset, .unset, .unset, .unset, .unset, .unset, .unset, .unset, .unset] [(.int p1), (.int (1 : Int32))])) _
    refine XS.bipush X0.here hx rfl (hb hby at_2) ?_
    show Steps p.tables e below (s₁.setTop (mkF m 4 #[.val (.int p1), .val (.int p2), .val (.int p3), .val (.long q4), .second, .val (.long q5), .second, .unset, .unset, .unset, .unset, .unset, .unset, .unset, .unset, .unset, .unset, .unset] [(.int (15 : Int32)), (.int p1), (.int (1 : Int32))])) _
    refine XS.iand X0.here hx rfl (hb hby at_4) rfl ?_
    show Steps p.tables e below (s₁.setTop (mkF m 5 #[.val (.int p1), .val (.int p2), .val (.int p3), .val (.long q4), .second, .val (.long q5), .second, .unset, .unset, .unset, .unset, .unset, .unset, .unset, .unset, .unset, .unset, .unset] [(.int (p1 &&& (15 : Int32))), (.int (1 : Int32))])) _
    refine XS.iadd X0.here hx rfl (hb hby at_5) rfl ?_
    show Steps p.tables e below (s₁.setTop (mkF m 6 #[.val (.int p1), .val (.int p2), .val (.int p3), .val (.long q4), .second, .val (.long q5), .second, .unset, .unset, .unset, .unset, .unset, .unset, .unset, .unset, .unset, .unset, .unset] [(.int ((1 : Int32) + (p1 &&& (15 : Int32))))])) _
    rw [hvN]
    show Steps p.tables e below (s₁.setTop (mkF m 6 #[.val (.int p1), .val (.int p2), .val (.int p3), .val (.long q4), .second, .val (.long q5), .second, .unset, .unset, .unset, .unset, .unset, .unset, .unset, .unset, .unset, .unset, .unset] [(.int (Int32.ofNat N))])) _
    refine XS.istore X0.here hx rfl (hb hby at_6) rfl (l' := #[.val (.int p1), .val (.int p2), .val (.int p3), .val (.long q4), .second, .val (.long q5), .second, .val (.int (Int32.ofNat N)), .unset, .unset, .unset, .unset, .unset, .unset, .unset, .unset, .unset, .unset]) rfl ?_
    show Steps p.tables e below (s₁.setTop (mkF m 8 #[.val (.int p1), .val (.int p2), .val (.int p3), .val (.long q4), .second, .val (.long q5), .second, .val (.int (Int32.ofNat N)), .unset, .unset, .unset, .unset, .unset, .unset, .unset, .unset, .unset, .unset] [])) _
    refine XS.iloadN X0.here hx rfl (hb hby at_8) rfl ?_
    show Steps p.tables e below (s₁.setTop (mkF m 9 #[.val (.int p1), .val (.int p2), .val (.int p3), .val (.long q4), .second, .val (.long q5), .second, .val (.int (Int32.ofNat N)), .unset, .unset, .unset, .unset, .unset, .unset, .unset, .unset, .unset, .unset] [(.int p2)])) _
    refine X0.ldcInt hx hown (mvT hZ (hw _ (List.mem_of_getElem? (i := 0) rfl))) (g := (mkF m 9 #[.val (.int p1), .val (.int p2), .val (.int p3), .val (.long q4), .second, .val (.long q5), .second, .val (.int (Int32.ofNat N)), .unset, .unset, .unset, .unset, .unset, .unset, .unset, .unset, .unset, .unset] [(.int p2)])) rfl (hb hby at_9) _ ?_
    show Steps p.tables e below (s₁.setTop (mkF m 11 #[.val (.int p1), .val (.int p2), .val (.int p3), .val (.long q4), .second, .val (.long q5), .second, .val (.int (Int32.ofNat N)), .unset, .unset, .unset, .unset, .unset, .unset, .unset, .unset, .unset, .unset] [(.int (2147483647 : Int32)), (.int p2)])) _
    refine XS.iand X0.here hx rfl (hb hby at_11) rfl ?_
    show Steps p.tables e below (s₁.setTop (mkF m 12 #[.val (.int p1), .val (.int p2), .val (.int p3), .val (.long q4), .second, .val (.long q5), .second, .val (.int (Int32.ofNat N)), .unset, .unset, .unset, .unset, .unset, .unset, .unset, .unset, .unset, .unset] [(.int (p2 &&& (2147483647 : Int32)))])) _
    refine XS.iconst X0.here hx rfl (hb hby at_12) ?_
    show Steps p.tables e below (s₁.setTop (mkF m 13 #[.val (.int p1), .val (.int p2), .val (.int p3), .val (.long q4), .second, .val (.long q5), .second, .val (.int (Int32.ofNat N)), .unset, .unset, .unset, .unset, .unset, .unset, .unset, .unset, .unset, .unset] [(.int (5 : Int32)), (.int (p2 &&& (2147483647 : Int32)))])) _
    refine Jvm.RoadKit.iremM X0 hx rfl (hb hby at_13) rfl (by decide) ?_
    show Steps p.tables e below (s₁.setTop (mkF m 14 #[.val (.int p1), .val (.int p2), .val (.int p3), .val (.long q4), .second, .val (.long q5), .second, .val (.int (Int32.ofNat N)), .unset, .unset, .unset, .unset, .unset, .unset, .unset, .unset, .unset, .unset] [(.int ((p2 &&& (2147483647 : Int32)) % (5 : Int32)))])) _
    rw [hvK]
    show Steps p.tables e below (s₁.setTop (mkF m 14 #[.val (.int p1), .val (.int p2), .val (.int p3), .val (.long q4), .second, .val (.long q5), .second, .val (.int (Int32.ofNat N)), .unset, .unset, .unset, .unset, .unset, .unset, .unset, .unset, .unset, .unset] [(.int (Int32.ofNat K))])) _
    refine XS.istore X0.here hx rfl (hb hby at_14) rfl (l' := #[.val (.int p1), .val (.int p2), .val (.int p3), .val (.long q4), .second, .val (.long q5), .second, .val (.int (Int32.ofNat N)), .val (.int (Int32.ofNat K)), .unset, .unset, .unset, .unset, .unset, .unset, .unset, .unset, .unset]) rfl ?_
    show Steps p.tables e below (s₁.setTop (mkF m 16 #[.val (.int p1), .val (.int p2), .val (.int p3), .val (.long q4), .second, .val (.long q5), .second, .val (.int (Int32.ofNat N)), .val (.int (Int32.ofNat K)), .unset, .unset, .unset, .unset, .unset, .unset, .unset, .unset, .unset] [])) _
    refine XS.iloadN X0.here hx rfl (hb hby at_16) rfl ?_
    show Steps p.tables e below (s₁.setTop (mkF m 17 #[.val (.int p1), .val (.int p2), .val (.int p3), .val (.long q4), .second, .val (.long q5), .second, .val (.int (Int32.ofNat N)), .val (.int (Int32.ofNat K)), .unset, .unset, .unset, .unset, .unset, .unset, .unset, .unset, .unset] [(.int p3)])) _
    refine XS.sipush X0.here hx rfl (hb hby at_17) ?_
    show Steps p.tables e below (s₁.setTop (mkF m 20 #[.val (.int p1), .val (.int p2), .val (.int p3), .val (.long q4), .second, .val (.long q5), .second, .val (.int (Int32.ofNat N)), .val (.int (Int32.ofNat K)), .unset, .unset, .unset, .unset, .unset, .unset, .unset, .unset, .unset] [(.int (255 : Int32)), (.int p3)])) _
    refine XS.iand X0.here hx rfl (hb hby at_20) rfl ?_
    show Steps p.tables e below (s₁.setTop (mkF m 21 #[.val (.int p1), .val (.int p2), .val (.int p3), .val (.long q4), .second, .val (.long q5), .second, .val (.int (Int32.ofNat N)), .val (.int (Int32.ofNat K)), .unset, .unset, .unset, .unset, .unset, .unset, .unset, .unset, .unset] [(.int (p3 &&& (255 : Int32)))])) _
    refine XS.iload X0.here hx rfl (hb hby at_21) rfl ?_
    show Steps p.tables e below (s₁.setTop (mkF m 23 #[.val (.int p1), .val (.int p2), .val (.int p3), .val (.long q4), .second, .val (.long q5), .second, .val (.int (Int32.ofNat N)), .val (.int (Int32.ofNat K)), .unset, .unset, .unset, .unset, .unset, .unset, .unset, .unset, .unset] [(.int (Int32.ofNat N)), (.int (p3 &&& (255 : Int32)))])) _
    refine Jvm.RoadKit.iremM X0 hx rfl (hb hby at_23) rfl hnz23 ?_
    show Steps p.tables e below (s₁.setTop (mkF m 24 #[.val (.int p1), .val (.int p2), .val (.int p3), .val (.long q4), .second, .val (.long q5), .second, .val (.int (Int32.ofNat N)), .val (.int (Int32.ofNat K)), .unset, .unset, .unset, .unset, .unset, .unset, .unset, .unset, .unset] [(.int ((p3 &&& (255 : Int32)) % (Int32.ofNat N)))])) _
    rw [hvI]
    show Steps p.tables e below (s₁.setTop (mkF m 24 #[.val (.int p1), .val (.int p2), .val (.int p3), .val (.long q4), .second, .val (.long q5), .second, .val (.int (Int32.ofNat N)), .val (.int (Int32.ofNat K)), .unset, .unset, .unset, .unset, .unset, .unset, .unset, .unset, .unset] [(.int (Int32.ofNat I))])) _
    refine XS.istore X0.here hx rfl (hb hby at_24) rfl (l' := #[.val (.int p1), .val (.int p2), .val (.int p3), .val (.long q4), .second, .val (.long q5), .second, .val (.int (Int32.ofNat N)), .val (.int (Int32.ofNat K)), .val (.int (Int32.ofNat I)), .unset, .unset, .unset, .unset, .unset, .unset, .unset, .unset]) rfl ?_
    show Steps p.tables e below (s₁.setTop (mkF m 26 #[.val (.int p1), .val (.int p2), .val (.int p3), .val (.long q4), .second, .val (.long q5), .second, .val (.int (Int32.ofNat N)), .val (.int (Int32.ofNat K)), .val (.int (Int32.ofNat I)), .unset, .unset, .unset, .unset, .unset, .unset, .unset, .unset] [])) _
    refine XS.iloadN X0.here hx rfl (hb hby at_26) rfl ?_
    show Steps p.tables e below (s₁.setTop (mkF m 27 #[.val (.int p1), .val (.int p2), .val (.int p3), .val (.long q4), .second, .val (.long q5), .second, .val (.int (Int32.ofNat N)), .val (.int (Int32.ofNat K)), .val (.int (Int32.ofNat I)), .unset, .unset, .unset, .unset, .unset, .unset, .unset, .unset] [(.int p3)])) _
    refine XS.bipush X0.here hx rfl (hb hby at_27) ?_
    show Steps p.tables e below (s₁.setTop (mkF m 29 #[.val (.int p1), .val (.int p2), .val (.int p3), .val (.long q4), .second, .val (.long q5), .second, .val (.int (Int32.ofNat N)), .val (.int (Int32.ofNat K)), .val (.int (Int32.ofNat I)), .unset, .unset, .unset, .unset, .unset, .unset, .unset, .unset] [(.int (8 : Int32)), (.int p3)])) _
    refine XS.iushr X0.here hx rfl (hb hby at_29) rfl ?_
    show Steps p.tables e below (s₁.setTop (mkF m 30 #[.val (.int p1), .val (.int p2), .val (.int p3), .val (.long q4), .second, .val (.long q5), .second, .val (.int (Int32.ofNat N)), .val (.int (Int32.ofNat K)), .val (.int (Int32.ofNat I)), .unset, .unset, .unset, .unset, .unset, .unset, .unset, .unset] [(.int ((p3.toUInt32 >>> ((8 : Int32) &&& 31).toUInt32).toInt32))])) _
    refine XS.sipush X0.here hx rfl (hb hby at_30) ?_
    show Steps p.tables e below (s₁.setTop (mkF m 33 #[.val (.int p1), .val (.int p2), .val (.int p3), .val (.long q4), .second, .val (.long q5), .second, .val (.int (Int32.ofNat N)), .val (.int (Int32.ofNat K)), .val (.int (Int32.ofNat I)), .unset, .unset, .unset, .unset, .unset, .unset, .unset, .unset] [(.int (255 : Int32)), (.int ((p3.toUInt32 >>> ((8 : Int32) &&& 31).toUInt32).toInt32))])) _
    refine XS.iand X0.here hx rfl (hb hby at_33) rfl ?_
    show Steps p.tables e below (s₁.setTop (mkF m 34 #[.val (.int p1), .val (.int p2), .val (.int p3), .val (.long q4), .second, .val (.long q5), .second, .val (.int (Int32.ofNat N)), .val (.int (Int32.ofNat K)), .val (.int (Int32.ofNat I)), .unset, .unset, .unset, .unset, .unset, .unset, .unset, .unset] [(.int (((p3.toUInt32 >>> ((8 : Int32) &&& 31).toUInt32).toInt32) &&& (255 : Int32)))])) _
    refine XS.iload X0.here hx rfl (hb hby at_34) rfl ?_
    show Steps p.tables e below (s₁.setTop (mkF m 36 #[.val (.int p1), .val (.int p2), .val (.int p3), .val (.long q4), .second, .val (.long q5), .second, .val (.int (Int32.ofNat N)), .val (.int (Int32.ofNat K)), .val (.int (Int32.ofNat I)), .unset, .unset, .unset, .unset, .unset, .unset, .unset, .unset] [(.int (Int32.ofNat N)), (.int (((p3.toUInt32 >>> ((8 : Int32) &&& 31).toUInt32).toInt32) &&& (255 : Int32)))])) _
    refine Jvm.RoadKit.iremM X0 hx rfl (hb hby at_36) rfl hnz36 ?_
    show Steps p.tables e below (s₁.setTop (mkF m 37 #[.val (.int p1), .val (.int p2), .val (.int p3), .val (.long q4), .second, .val (.long q5), .second, .val (.int (Int32.ofNat N)), .val (.int (Int32.ofNat K)), .val (.int (Int32.ofNat I)), .unset, .unset, .unset, .unset, .unset, .unset, .unset, .unset] [(.int ((((p3.toUInt32 >>> ((8 : Int32) &&& 31).toUInt32).toInt32) &&& (255 : Int32)) % (Int32.ofNat N)))])) _
    rw [hvJ]
    show Steps p.tables e below (s₁.setTop (mkF m 37 #[.val (.int p1), .val (.int p2), .val (.int p3), .val (.long q4), .second, .val (.long q5), .second, .val (.int (Int32.ofNat N)), .val (.int (Int32.ofNat K)), .val (.int (Int32.ofNat I)), .unset, .unset, .unset, .unset, .unset, .unset, .unset, .unset] [(.int (Int32.ofNat J))])) _
    refine XS.istore X0.here hx rfl (hb hby at_37) rfl (l' := #[.val (.int p1), .val (.int p2), .val (.int p3), .val (.long q4), .second, .val (.long q5), .second, .val (.int (Int32.ofNat N)), .val (.int (Int32.ofNat K)), .val (.int (Int32.ofNat I)), .val (.int (Int32.ofNat J)), .unset, .unset, .unset, .unset, .unset, .unset, .unset]) rfl ?_
    show Steps p.tables e below (s₁.setTop (mkF m 39 #[.val (.int p1), .val (.int p2), .val (.int p3), .val (.long q4), .second, .val (.long q5), .second, .val (.int (Int32.ofNat N)), .val (.int (Int32.ofNat K)), .val (.int (Int32.ofNat I)), .val (.int (Int32.ofNat J)), .unset, .unset, .unset, .unset, .unset, .unset, .unset] [])) _
    refine XS.iloadN X0.here hx rfl (hb hby at_39) rfl ?_
    show Steps p.tables e below (s₁.setTop (mkF m 40 #[.val (.int p1), .val (.int p2), .val (.int p3), .val (.long q4), .second, .val (.long q5), .second, .val (.int (Int32.ofNat N)), .val (.int (Int32.ofNat K)), .val (.int (Int32.ofNat I)), .val (.int (Int32.ofNat J)), .unset, .unset, .unset, .unset, .unset, .unset, .unset] [(.int p3)])) _
    refine XS.bipush X0.here hx rfl (hb hby at_40) ?_
    show Steps p.tables e below (s₁.setTop (mkF m 42 #[.val (.int p1), .val (.int p2), .val (.int p3), .val (.long q4), .second, .val (.long q5), .second, .val (.int (Int32.ofNat N)), .val (.int (Int32.ofNat K)), .val (.int (Int32.ofNat I)), .val (.int (Int32.ofNat J)), .unset, .unset, .unset, .unset, .unset, .unset, .unset] [(.int (16 : Int32)), (.int p3)])) _
    refine XS.iushr X0.here hx rfl (hb hby at_42) rfl ?_
    show Steps p.tables e below (s₁.setTop (mkF m 43 #[.val (.int p1), .val (.int p2), .val (.int p3), .val (.long q4), .second, .val (.long q5), .second, .val (.int (Int32.ofNat N)), .val (.int (Int32.ofNat K)), .val (.int (Int32.ofNat I)), .val (.int (Int32.ofNat J)), .unset, .unset, .unset, .unset, .unset, .unset, .unset] [(.int ((p3.toUInt32 >>> ((16 : Int32) &&& 31).toUInt32).toInt32))])) _
    refine XS.sipush X0.here hx rfl (hb hby at_43) ?_
    show Steps p.tables e below (s₁.setTop (mkF m 46 #[.val (.int p1), .val (.int p2), .val (.int p3), .val (.long q4), .second, .val (.long q5), .second, .val (.int (Int32.ofNat N)), .val (.int (Int32.ofNat K)), .val (.int (Int32.ofNat I)), .val (.int (Int32.ofNat J)), .unset, .unset, .unset, .unset, .unset, .unset, .unset] [(.int (255 : Int32)), (.int ((p3.toUInt32 >>> ((16 : Int32) &&& 31).toUInt32).toInt32))])) _
    refine XS.iand X0.here hx rfl (hb hby at_46) rfl ?_
    show Steps p.tables e below (s₁.setTop (mkF m 47 #[.val (.int p1), .val (.int p2), .val (.int p3), .val (.long q4), .second, .val (.long q5), .second, .val (.int (Int32.ofNat N)), .val (.int (Int32.ofNat K)), .val (.int (Int32.ofNat I)), .val (.int (Int32.ofNat J)), .unset, .unset, .unset, .unset, .unset, .unset, .unset] [(.int (((p3.toUInt32 >>> ((16 : Int32) &&& 31).toUInt32).toInt32) &&& (255 : Int32)))])) _
    refine XS.iload X0.here hx rfl (hb hby at_47) rfl ?_
    show Steps p.tables e below (s₁.setTop (mkF m 49 #[.val (.int p1), .val (.int p2), .val (.int p3), .val (.long q4), .second, .val (.long q5), .second, .val (.int (Int32.ofNat N)), .val (.int (Int32.ofNat K)), .val (.int (Int32.ofNat I)), .val (.int (Int32.ofNat J)), .unset, .unset, .unset, .unset, .unset, .unset, .unset] [(.int (Int32.ofNat N)), (.int (((p3.toUInt32 >>> ((16 : Int32) &&& 31).toUInt32).toInt32) &&& (255 : Int32)))])) _
    refine Jvm.RoadKit.iremM X0 hx rfl (hb hby at_49) rfl hnz49 ?_
    show Steps p.tables e below (s₁.setTop (mkF m 50 #[.val (.int p1), .val (.int p2), .val (.int p3), .val (.long q4), .second, .val (.long q5), .second, .val (.int (Int32.ofNat N)), .val (.int (Int32.ofNat K)), .val (.int (Int32.ofNat I)), .val (.int (Int32.ofNat J)), .unset, .unset, .unset, .unset, .unset, .unset, .unset] [(.int ((((p3.toUInt32 >>> ((16 : Int32) &&& 31).toUInt32).toInt32) &&& (255 : Int32)) % (Int32.ofNat N)))])) _
    rw [hvQ]
    show Steps p.tables e below (s₁.setTop (mkF m 50 #[.val (.int p1), .val (.int p2), .val (.int p3), .val (.long q4), .second, .val (.long q5), .second, .val (.int (Int32.ofNat N)), .val (.int (Int32.ofNat K)), .val (.int (Int32.ofNat I)), .val (.int (Int32.ofNat J)), .unset, .unset, .unset, .unset, .unset, .unset, .unset] [(.int (Int32.ofNat Q))])) _
    refine XS.istore X0.here hx rfl (hb hby at_50) rfl (l' := #[.val (.int p1), .val (.int p2), .val (.int p3), .val (.long q4), .second, .val (.long q5), .second, .val (.int (Int32.ofNat N)), .val (.int (Int32.ofNat K)), .val (.int (Int32.ofNat I)), .val (.int (Int32.ofNat J)), .val (.int (Int32.ofNat Q)), .unset, .unset, .unset, .unset, .unset, .unset]) rfl ?_
    show Steps p.tables e below (s₁.setTop (mkF m 52 #[.val (.int p1), .val (.int p2), .val (.int p3), .val (.long q4), .second, .val (.long q5), .second, .val (.int (Int32.ofNat N)), .val (.int (Int32.ofNat K)), .val (.int (Int32.ofNat I)), .val (.int (Int32.ofNat J)), .val (.int (Int32.ofNat Q)), .unset, .unset, .unset, .unset, .unset, .unset] [])) _
    refine st6 _ ?_
    show Steps p.tables e below (T6.setTop (mkF m 55 #[.val (.int p1), .val (.int p2), .val (.int p3), .val (.long q4), .second, .val (.long q5), .second, .val (.int (Int32.ofNat N)), .val (.int (Int32.ofNat K)), .val (.int (Int32.ofNat I)), .val (.int (Int32.ofNat J)), .val (.int (Int32.ofNat Q)), .unset, .unset, .unset, .unset, .unset, .unset] [(.ref b6)])) _
    refine XS.dup X6.here hx rfl (hb hby at_55) rfl rfl ?_
    show Steps p.tables e below (T6.setTop (mkF m 56 #[.val (.int p1), .val (.int p2), .val (.int p3), .val (.long q4), .second, .val (.long q5), .second, .val (.int (Int32.ofNat N)), .val (.int (Int32.ofNat K)), .val (.int (Int32.ofNat I)), .val (.int (Int32.ofNat J)), .val (.int (Int32.ofNat Q)), .unset, .unset, .unset, .unset, .unset, .unset] [(.ref b6), (.ref b6)])) _
    refine XS.iload X6.here hx rfl (hb hby at_56) rfl ?_
    show Steps p.tables e below (T6.setTop (mkF m 58 #[.val (.int p1), .val (.int p2), .val (.int p3), .val (.long q4), .second, .val (.long q5), .second, .val (.int (Int32.ofNat N)), .val (.int (Int32.ofNat K)), .val (.int (Int32.ofNat I)), .val (.int (Int32.ofNat J)), .val (.int (Int32.ofNat Q)), .unset, .unset, .unset, .unset, .unset, .unset] [(.int (Int32.ofNat N)), (.ref b6), (.ref b6)])) _
    refine XS.i2l X6.here hx rfl (hb hby at_58) rfl ?_
    show Steps p.tables e below (T6.setTop (mkF m 59 #[.val (.int p1), .val (.int p2), .val (.int p3), .val (.long q4), .second, .val (.long q5), .second, .val (.int (Int32.ofNat N)), .val (.int (Int32.ofNat K)), .val (.int (Int32.ofNat I)), .val (.int (Int32.ofNat J)), .val (.int (Int32.ofNat Q)), .unset, .unset, .unset, .unset, .unset, .unset] [(.long ((Int32.ofNat N).toInt64)), (.ref b6), (.ref b6)])) _
    refine XS.iload X6.here hx rfl (hb hby at_59) rfl ?_
    show Steps p.tables e below (T6.setTop (mkF m 61 #[.val (.int p1), .val (.int p2), .val (.int p3), .val (.long q4), .second, .val (.long q5), .second, .val (.int (Int32.ofNat N)), .val (.int (Int32.ofNat K)), .val (.int (Int32.ofNat I)), .val (.int (Int32.ofNat J)), .val (.int (Int32.ofNat Q)), .unset, .unset, .unset, .unset, .unset, .unset] [(.int (Int32.ofNat K)), (.long ((Int32.ofNat N).toInt64)), (.ref b6), (.ref b6)])) _
    refine st7.trans ?_
    show Steps p.tables e below (T7.setTop (mkF m 64 #[.val (.int p1), .val (.int p2), .val (.int p3), .val (.long q4), .second, .val (.long q5), .second, .val (.int (Int32.ofNat N)), .val (.int (Int32.ofNat K)), .val (.int (Int32.ofNat I)), .val (.int (Int32.ofNat J)), .val (.int (Int32.ofNat Q)), .unset, .unset, .unset, .unset, .unset, .unset] [(.ref b6)])) _
    refine XS.astore X7.here hx rfl (hb hby at_64) rfl rfl (l' := #[.val (.int p1), .val (.int p2), .val (.int p3), .val (.long q4), .second, .val (.long q5), .second, .val (.int (Int32.ofNat N)), .val (.int (Int32.ofNat K)), .val (.int (Int32.ofNat I)), .val (.int (Int32.ofNat J)), .val (.int (Int32.ofNat Q)), .val (.ref b6), .unset, .unset, .unset, .unset, .unset]) rfl ?_
    show Steps p.tables e below (T7.setTop (mkF m 66 #[.val (.int p1), .val (.int p2), .val (.int p3), .val (.long q4), .second, .val (.long q5), .second, .val (.int (Int32.ofNat N)), .val (.int (Int32.ofNat K)), .val (.int (Int32.ofNat I)), .val (.int (Int32.ofNat J)), .val (.int (Int32.ofNat Q)), .val (.ref b6), .unset, .unset, .unset, .unset, .unset] [])) _
    refine XS.aload X7.here hx rfl (hb hby at_66) rfl rfl ?_
    show Steps p.tables e below (T7.setTop (mkF m 68 #[.val (.int p1), .val (.int p2), .val (.int p3), .val (.long q4), .second, .val (.long q5), .second, .val (.int (Int32.ofNat N)), .val (.int (Int32.ofNat K)), .val (.int (Int32.ofNat I)), .val (.int (Int32.ofNat J)), .val (.int (Int32.ofNat Q)), .val (.ref b6), .unset, .unset, .unset, .unset, .unset] [(.ref b6)])) _
    refine XS.iload X7.here hx rfl (hb hby at_68) rfl ?_
    show Steps p.tables e below (T7.setTop (mkF m 70 #[.val (.int p1), .val (.int p2), .val (.int p3), .val (.long q4), .second, .val (.long q5), .second, .val (.int (Int32.ofNat N)), .val (.int (Int32.ofNat K)), .val (.int (Int32.ofNat I)), .val (.int (Int32.ofNat J)), .val (.int (Int32.ofNat Q)), .val (.ref b6), .unset, .unset, .unset, .unset, .unset] [(.int (Int32.ofNat Q)), (.ref b6)])) _
    refine XS.i2l X7.here hx rfl (hb hby at_70) rfl ?_
    show Steps p.tables e below (T7.setTop (mkF m 71 #[.val (.int p1), .val (.int p2), .val (.int p3), .val (.long q4), .second, .val (.long q5), .second, .val (.int (Int32.ofNat N)), .val (.int (Int32.ofNat K)), .val (.int (Int32.ofNat I)), .val (.int (Int32.ofNat J)), .val (.int (Int32.ofNat Q)), .val (.ref b6), .unset, .unset, .unset, .unset, .unset] [(.long ((Int32.ofNat Q).toInt64)), (.ref b6)])) _
    refine st8.trans ?_
    show Steps p.tables e below (T8.setTop (mkF m 74 #[.val (.int p1), .val (.int p2), .val (.int p3), .val (.long q4), .second, .val (.long q5), .second, .val (.int (Int32.ofNat N)), .val (.int (Int32.ofNat K)), .val (.int (Int32.ofNat I)), .val (.int (Int32.ofNat J)), .val (.int (Int32.ofNat Q)), .val (.ref b6), .unset, .unset, .unset, .unset, .unset] [(.long ((fun _ => (0 : Int64)) Q))])) _
    refine XS.lconst X8.here hx rfl (hb hby at_74) ?_
    show Steps p.tables e below (T8.setTop (mkF m 75 #[.val (.int p1), .val (.int p2), .val (.int p3), .val (.long q4), .second, .val (.long q5), .second, .val (.int (Int32.ofNat N)), .val (.int (Int32.ofNat K)), .val (.int (Int32.ofNat I)), .val (.int (Int32.ofNat J)), .val (.int (Int32.ofNat Q)), .val (.ref b6), .unset, .unset, .unset, .unset, .unset] [(.long (0 : Int64)), (.long ((fun _ => (0 : Int64)) Q))])) _
    refine XS.lcmp X8.here hx rfl (hb hby at_75) rfl ?_
    show Steps p.tables e below (T8.setTop (mkF m 76 #[.val (.int p1), .val (.int p2), .val (.int p3), .val (.long q4), .second, .val (.long q5), .second, .val (.int (Int32.ofNat N)), .val (.int (Int32.ofNat K)), .val (.int (Int32.ofNat I)), .val (.int (Int32.ofNat J)), .val (.int (Int32.ofNat Q)), .val (.ref b6), .unset, .unset, .unset, .unset, .unset] [(.int (lcmpW ((fun _ => (0 : Int64)) Q) (0 : Int64)))])) _
    refine XS.ifNo X8.here hx rfl (hb hby at_76) rfl ((if0 _ _).trans (teq (own_lc rfl : (lcmpW ((fun _ => (0 : Int64)) Q) (0 : Int64)) = (0 : Int32))).2) ?_
    show Steps p.tables e below (T8.setTop (mkF m 79 #[.val (.int p1), .val (.int p2), .val (.int p3), .val (.long q4), .second, .val (.long q5), .second, .val (.int (Int32.ofNat N)), .val (.int (Int32.ofNat K)), .val (.int (Int32.ofNat I)), .val (.int (Int32.ofNat J)), .val (.int (Int32.ofNat Q)), .val (.ref b6), .unset, .unset, .unset, .unset, .unset] [])) _
    refine XS.iconst X8.here hx rfl (hb hby at_79) ?_
    show Steps p.tables e below (T8.setTop (mkF m 80 #[.val (.int p1), .val (.int p2), .val (.int p3), .val (.long q4), .second, .val (.long q5), .second, .val (.int (Int32.ofNat N)), .val (.int (Int32.ofNat K)), .val (.int (Int32.ofNat I)), .val (.int (Int32.ofNat J)), .val (.int (Int32.ofNat Q)), .val (.ref b6), .unset, .unset, .unset, .unset, .unset] [(.int (1 : Int32))])) _
    refine XS.goto X8.here hx rfl (pc0 := 80) (pc' := 84) rfl (hb hby at_80) (by decide) (by decide) ?_
    show Steps p.tables e below (T8.setTop (mkF m 84 #[.val (.int p1), .val (.int p2), .val (.int p3), .val (.long q4), .second, .val (.long q5), .second, .val (.int (Int32.ofNat N)), .val (.int (Int32.ofNat K)), .val (.int (Int32.ofNat I)), .val (.int (Int32.ofNat J)), .val (.int (Int32.ofNat Q)), .val (.ref b6), .unset, .unset, .unset, .unset, .unset] [(.int (1 : Int32))])) _
    refine XS.istore X8.here hx rfl (hb hby at_84) rfl (l' := #[.val (.int p1), .val (.int p2), .val (.int p3), .val (.long q4), .second, .val (.long q5), .second, .val (.int (Int32.ofNat N)), .val (.int (Int32.ofNat K)), .val (.int (Int32.ofNat I)), .val (.int (Int32.ofNat J)), .val (.int (Int32.ofNat Q)), .val (.ref b6), .val (.int (1 : Int32)), .unset, .unset, .unset, .unset]) rfl ?_
    show Steps p.tables e below (T8.setTop (mkF m 86 #[.val (.int p1), .val (.int p2), .val (.int p3), .val (.long q4), .second, .val (.long q5), .second, .val (.int (Int32.ofNat N)), .val (.int (Int32.ofNat K)), .val (.int (Int32.ofNat I)), .val (.int (Int32.ofNat J)), .val (.int (Int32.ofNat Q)), .val (.ref b6), .val (.int (1 : Int32)), .unset, .unset, .unset, .unset] [])) _
    refine XS.aload X8.here hx rfl (hb hby at_86) rfl rfl ?_
    show Steps p.tables e below (T8.setTop (mkF m 88 #[.val (.int p1), .val (.int p2), .val (.int p3), .val (.long q4), .second, .val (.long q5), .second, .val (.int (Int32.ofNat N)), .val (.int (Int32.ofNat K)), .val (.int (Int32.ofNat I)), .val (.int (Int32.ofNat J)), .val (.int (Int32.ofNat Q)), .val (.ref b6), .val (.int (1 : Int32)), .unset, .unset, .unset, .unset] [(.ref b6)])) _
    refine XS.iload X8.here hx rfl (hb hby at_88) rfl ?_
    show Steps p.tables e below (T8.setTop (mkF m 90 #[.val (.int p1), .val (.int p2), .val (.int p3), .val (.long q4), .second, .val (.long q5), .second, .val (.int (Int32.ofNat N)), .val (.int (Int32.ofNat K)), .val (.int (Int32.ofNat I)), .val (.int (Int32.ofNat J)), .val (.int (Int32.ofNat Q)), .val (.ref b6), .val (.int (1 : Int32)), .unset, .unset, .unset, .unset] [(.int (Int32.ofNat I)), (.ref b6)])) _
    refine XS.i2l X8.here hx rfl (hb hby at_90) rfl ?_
    show Steps p.tables e below (T8.setTop (mkF m 91 #[.val (.int p1), .val (.int p2), .val (.int p3), .val (.long q4), .second, .val (.long q5), .second, .val (.int (Int32.ofNat N)), .val (.int (Int32.ofNat K)), .val (.int (Int32.ofNat I)), .val (.int (Int32.ofNat J)), .val (.int (Int32.ofNat Q)), .val (.ref b6), .val (.int (1 : Int32)), .unset, .unset, .unset, .unset] [(.long ((Int32.ofNat I).toInt64)), (.ref b6)])) _
    refine XS.lloadN X8.here hx rfl (hb hby at_91) rfl ?_
    show Steps p.tables e below (T8.setTop (mkF m 92 #[.val (.int p1), .val (.int p2), .val (.int p3), .val (.long q4), .second, .val (.long q5), .second, .val (.int (Int32.ofNat N)), .val (.int (Int32.ofNat K)), .val (.int (Int32.ofNat I)), .val (.int (Int32.ofNat J)), .val (.int (Int32.ofNat Q)), .val (.ref b6), .val (.int (1 : Int32)), .unset, .unset, .unset, .unset] [(.long q4), (.long ((Int32.ofNat I).toInt64)), (.ref b6)])) _
    refine st9.trans ?_
    show Steps p.tables e below (T9.setTop (mkF m 95 #[.val (.int p1), .val (.int p2), .val (.int p3), .val (.long q4), .second, .val (.long q5), .second, .val (.int (Int32.ofNat N)), .val (.int (Int32.ofNat K)), .val (.int (Int32.ofNat I)), .val (.int (Int32.ofNat J)), .val (.int (Int32.ofNat Q)), .val (.ref b6), .val (.int (1 : Int32)), .unset, .unset, .unset, .unset] [])) _
    refine XS.aload X9.here hx rfl (hb hby at_95) rfl rfl ?_
    show Steps p.tables e below (T9.setTop (mkF m 97 #[.val (.int p1), .val (.int p2), .val (.int p3), .val (.long q4), .second, .val (.long q5), .second, .val (.int (Int32.ofNat N)), .val (.int (Int32.ofNat K)), .val (.int (Int32.ofNat I)), .val (.int (Int32.ofNat J)), .val (.int (Int32.ofNat Q)), .val (.ref b6), .val (.int (1 : Int32)), .unset, .unset, .unset, .unset] [(.ref b6)])) _
    refine XS.iload X9.here hx rfl (hb hby at_97) rfl ?_
    show Steps p.tables e below (T9.setTop (mkF m 99 #[.val (.int p1), .val (.int p2), .val (.int p3), .val (.long q4), .second, .val (.long q5), .second, .val (.int (Int32.ofNat N)), .val (.int (Int32.ofNat K)), .val (.int (Int32.ofNat I)), .val (.int (Int32.ofNat J)), .val (.int (Int32.ofNat Q)), .val (.ref b6), .val (.int (1 : Int32)), .unset, .unset, .unset, .unset] [(.int (Int32.ofNat J)), (.ref b6)])) _
    refine XS.i2l X9.here hx rfl (hb hby at_99) rfl ?_
    show Steps p.tables e below (T9.setTop (mkF m 100 #[.val (.int p1), .val (.int p2), .val (.int p3), .val (.long q4), .second, .val (.long q5), .second, .val (.int (Int32.ofNat N)), .val (.int (Int32.ofNat K)), .val (.int (Int32.ofNat I)), .val (.int (Int32.ofNat J)), .val (.int (Int32.ofNat Q)), .val (.ref b6), .val (.int (1 : Int32)), .unset, .unset, .unset, .unset] [(.long ((Int32.ofNat J).toInt64)), (.ref b6)])) _
    refine XS.lload X9.here hx rfl (hb hby at_100) rfl ?_
    show Steps p.tables e below (T9.setTop (mkF m 102 #[.val (.int p1), .val (.int p2), .val (.int p3), .val (.long q4), .second, .val (.long q5), .second, .val (.int (Int32.ofNat N)), .val (.int (Int32.ofNat K)), .val (.int (Int32.ofNat I)), .val (.int (Int32.ofNat J)), .val (.int (Int32.ofNat Q)), .val (.ref b6), .val (.int (1 : Int32)), .unset, .unset, .unset, .unset] [(.long q5), (.long ((Int32.ofNat J).toInt64)), (.ref b6)])) _
    refine st10.trans ?_
    show Steps p.tables e below (T10.setTop (mkF m 105 #[.val (.int p1), .val (.int p2), .val (.int p3), .val (.long q4), .second, .val (.long q5), .second, .val (.int (Int32.ofNat N)), .val (.int (Int32.ofNat K)), .val (.int (Int32.ofNat I)), .val (.int (Int32.ofNat J)), .val (.int (Int32.ofNat Q)), .val (.ref b6), .val (.int (1 : Int32)), .unset, .unset, .unset, .unset] [])) _
    refine XS.iload X10.here hx rfl (hb hby at_105) rfl ?_
    show Steps p.tables e below (T10.setTop (mkF m 107 #[.val (.int p1), .val (.int p2), .val (.int p3), .val (.long q4), .second, .val (.long q5), .second, .val (.int (Int32.ofNat N)), .val (.int (Int32.ofNat K)), .val (.int (Int32.ofNat I)), .val (.int (Int32.ofNat J)), .val (.int (Int32.ofNat Q)), .val (.ref b6), .val (.int (1 : Int32)), .unset, .unset, .unset, .unset] [(.int (Int32.ofNat I))])) _
    refine XS.iload X10.here hx rfl (hb hby at_107) rfl ?_
    show Steps p.tables e below (T10.setTop (mkF m 109 #[.val (.int p1), .val (.int p2), .val (.int p3), .val (.long q4), .second, .val (.long q5), .second, .val (.int (Int32.ofNat N)), .val (.int (Int32.ofNat K)), .val (.int (Int32.ofNat I)), .val (.int (Int32.ofNat J)), .val (.int (Int32.ofNat Q)), .val (.ref b6), .val (.int (1 : Int32)), .unset, .unset, .unset, .unset] [(.int (Int32.ofNat J)), (.int (Int32.ofNat I))])) _
    refine XS.icmpYes X10.here hx rfl (pc0 := 109) (pc' := 117) rfl (hb hby at_109) rfl (feq hc109).2 (by decide) (by decide) ?_
    show Steps p.tables e below (T10.setTop (mkF m 117 #[.val (.int p1), .val (.int p2), .val (.int p3), .val (.long q4), .second, .val (.long q5), .second, .val (.int (Int32.ofNat N)), .val (.int (Int32.ofNat K)), .val (.int (Int32.ofNat I)), .val (.int (Int32.ofNat J)), .val (.int (Int32.ofNat Q)), .val (.ref b6), .val (.int (1 : Int32)), .unset, .unset, .unset, .unset] [])) _
    refine XS.lloadN X10.here hx rfl (hb hby at_117) rfl ?_
    show Steps p.tables e below (T10.setTop (mkF m 118 #[.val (.int p1), .val (.int p2), .val (.int p3), .val (.long q4), .second, .val (.long q5), .second, .val (.int (Int32.ofNat N)), .val (.int (Int32.ofNat K)), .val (.int (Int32.ofNat I)), .val (.int (Int32.ofNat J)), .val (.int (Int32.ofNat Q)), .val (.ref b6), .val (.int (1 : Int32)), .unset, .unset, .unset, .unset] [(.long q4)])) _
    refine XS.lstore X10.here hx rfl (hb hby at_118) rfl (l' := #[.val (.int p1), .val (.int p2), .val (.int p3), .val (.long q4), .second, .val (.long q5), .second, .val (.int (Int32.ofNat N)), .val (.int (Int32.ofNat K)), .val (.int (Int32.ofNat I)), .val (.int (Int32.ofNat J)), .val (.int (Int32.ofNat Q)), .val (.ref b6), .val (.int (1 : Int32)), .val (.long q4), .second, .unset, .unset]) rfl ?_
    show Steps p.tables e below (T10.setTop (mkF m 120 #[.val (.int p1), .val (.int p2), .val (.int p3), .val (.long q4), .second, .val (.long q5), .second, .val (.int (Int32.ofNat N)), .val (.int (Int32.ofNat K)), .val (.int (Int32.ofNat I)), .val (.int (Int32.ofNat J)), .val (.int (Int32.ofNat Q)), .val (.ref b6), .val (.int (1 : Int32)), .val (.long q4), .second, .unset, .unset] [])) _
    refine XS.iload X10.here hx rfl (hb hby at_120) rfl ?_
    show Steps p.tables e below (T10.setTop (mkF m 122 #[.val (.int p1), .val (.int p2), .val (.int p3), .val (.long q4), .second, .val (.long q5), .second, .val (.int (Int32.ofNat N)), .val (.int (Int32.ofNat K)), .val (.int (Int32.ofNat I)), .val (.int (Int32.ofNat J)), .val (.int (Int32.ofNat Q)), .val (.ref b6), .val (.int (1 : Int32)), .val (.long q4), .second, .unset, .unset] [(.int (Int32.ofNat Q))])) _
    refine XS.iload X10.here hx rfl (hb hby at_122) rfl ?_
    show Steps p.tables e below (T10.setTop (mkF m 124 #[.val (.int p1), .val (.int p2), .val (.int p3), .val (.long q4), .second, .val (.long q5), .second, .val (.int (Int32.ofNat N)), .val (.int (Int32.ofNat K)), .val (.int (Int32.ofNat I)), .val (.int (Int32.ofNat J)), .val (.int (Int32.ofNat Q)), .val (.ref b6), .val (.int (1 : Int32)), .val (.long q4), .second, .unset, .unset] [(.int (Int32.ofNat J)), (.int (Int32.ofNat Q))])) _
    refine XS.icmpYes X10.here hx rfl (pc0 := 124) (pc' := 132) rfl (hb hby at_124) rfl (feq hc124).2 (by decide) (by decide) ?_
    show Steps p.tables e below (T10.setTop (mkF m 132 #[.val (.int p1), .val (.int p2), .val (.int p3), .val (.long q4), .second, .val (.long q5), .second, .val (.int (Int32.ofNat N)), .val (.int (Int32.ofNat K)), .val (.int (Int32.ofNat I)), .val (.int (Int32.ofNat J)), .val (.int (Int32.ofNat Q)), .val (.ref b6), .val (.int (1 : Int32)), .val (.long q4), .second, .unset, .unset] [])) _
    refine XS.iload X10.here hx rfl (hb hby at_132) rfl ?_
    show Steps p.tables e below (T10.setTop (mkF m 134 #[.val (.int p1), .val (.int p2), .val (.int p3), .val (.long q4), .second, .val (.long q5), .second, .val (.int (Int32.ofNat N)), .val (.int (Int32.ofNat K)), .val (.int (Int32.ofNat I)), .val (.int (Int32.ofNat J)), .val (.int (Int32.ofNat Q)), .val (.ref b6), .val (.int (1 : Int32)), .val (.long q4), .second, .unset, .unset] [(.int (Int32.ofNat Q))])) _
    refine XS.iload X10.here hx rfl (hb hby at_134) rfl ?_
    show Steps p.tables e below (T10.setTop (mkF m 136 #[.val (.int p1), .val (.int p2), .val (.int p3), .val (.long q4), .second, .val (.long q5), .second, .val (.int (Int32.ofNat N)), .val (.int (Int32.ofNat K)), .val (.int (Int32.ofNat I)), .val (.int (Int32.ofNat J)), .val (.int (Int32.ofNat Q)), .val (.ref b6), .val (.int (1 : Int32)), .val (.long q4), .second, .unset, .unset] [(.int (Int32.ofNat I)), (.int (Int32.ofNat Q))])) _
    refine XS.icmpYes X10.here hx rfl (pc0 := 136) (pc' := 143) rfl (hb hby at_136) rfl (feq hc136).2 (by decide) (by decide) ?_
    show Steps p.tables e below (T10.setTop (mkF m 143 #[.val (.int p1), .val (.int p2), .val (.int p3), .val (.long q4), .second, .val (.long q5), .second, .val (.int (Int32.ofNat N)), .val (.int (Int32.ofNat K)), .val (.int (Int32.ofNat I)), .val (.int (Int32.ofNat J)), .val (.int (Int32.ofNat Q)), .val (.ref b6), .val (.int (1 : Int32)), .val (.long q4), .second, .unset, .unset] [])) _
    refine XS.lconst X10.here hx rfl (hb hby at_143) ?_
    show Steps p.tables e below (T10.setTop (mkF m 144 #[.val (.int p1), .val (.int p2), .val (.int p3), .val (.long q4), .second, .val (.long q5), .second, .val (.int (Int32.ofNat N)), .val (.int (Int32.ofNat K)), .val (.int (Int32.ofNat I)), .val (.int (Int32.ofNat J)), .val (.int (Int32.ofNat Q)), .val (.ref b6), .val (.int (1 : Int32)), .val (.long q4), .second, .unset, .unset] [(.long (0 : Int64))])) _
    refine XS.lstore X10.here hx rfl (hb hby at_144) rfl (l' := #[.val (.int p1), .val (.int p2), .val (.int p3), .val (.long q4), .second, .val (.long q5), .second, .val (.int (Int32.ofNat N)), .val (.int (Int32.ofNat K)), .val (.int (Int32.ofNat I)), .val (.int (Int32.ofNat J)), .val (.int (Int32.ofNat Q)), .val (.ref b6), .val (.int (1 : Int32)), .val (.long q4), .second, .val (.long (0 : Int64)), .second]) rfl ?_
    show Steps p.tables e below (T10.setTop (mkF m 146 #[.val (.int p1), .val (.int p2), .val (.int p3), .val (.long q4), .second, .val (.long q5), .second, .val (.int (Int32.ofNat N)), .val (.int (Int32.ofNat K)), .val (.int (Int32.ofNat I)), .val (.int (Int32.ofNat J)), .val (.int (Int32.ofNat Q)), .val (.ref b6), .val (.int (1 : Int32)), .val (.long q4), .second, .val (.long (0 : Int64)), .second] [])) _
    refine XS.iload X10.here hx rfl (hb hby at_146) rfl ?_
    show Steps p.tables e below (T10.setTop (mkF m 148 #[.val (.int p1), .val (.int p2), .val (.int p3), .val (.long q4), .second, .val (.long q5), .second, .val (.int (Int32.ofNat N)), .val (.int (Int32.ofNat K)), .val (.int (Int32.ofNat I)), .val (.int (Int32.ofNat J)), .val (.int (Int32.ofNat Q)), .val (.ref b6), .val (.int (1 : Int32)), .val (.long q4), .second, .val (.long (0 : Int64)), .second] [(.int (1 : Int32))])) _
    refine XS.ifNo X10.here hx rfl (hb hby at_148) rfl ((if0 _ _).trans (feq hc148).1) ?_
    show Steps p.tables e below (T10.setTop (mkF m 151 #[.val (.int p1), .val (.int p2), .val (.int p3), .val (.long q4), .second, .val (.long q5), .second, .val (.int (Int32.ofNat N)), .val (.int (Int32.ofNat K)), .val (.int (Int32.ofNat I)), .val (.int (Int32.ofNat J)), .val (.int (Int32.ofNat Q)), .val (.ref b6), .val (.int (1 : Int32)), .val (.long q4), .second, .val (.long (0 : Int64)), .second] [])) _
    refine XS.aload X10.here hx rfl (hb hby at_151) rfl rfl ?_
    show Steps p.tables e below (T10.setTop (mkF m 153 #[.val (.int p1), .val (.int p2), .val (.int p3), .val (.long q4), .second, .val (.long q5), .second, .val (.int (Int32.ofNat N)), .val (.int (Int32.ofNat K)), .val (.int (Int32.ofNat I)), .val (.int (Int32.ofNat J)), .val (.int (Int32.ofNat Q)), .val (.ref b6), .val (.int (1 : Int32)), .val (.long q4), .second, .val (.long (0 : Int64)), .second] [(.ref b6)])) _
    refine XS.iload X10.here hx rfl (hb hby at_153) rfl ?_
    show Steps p.tables e below (T10.setTop (mkF m 155 #[.val (.int p1), .val (.int p2), .val (.int p3), .val (.long q4), .second, .val (.long q5), .second, .val (.int (Int32.ofNat N)), .val (.int (Int32.ofNat K)), .val (.int (Int32.ofNat I)), .val (.int (Int32.ofNat J)), .val (.int (Int32.ofNat Q)), .val (.ref b6), .val (.int (1 : Int32)), .val (.long q4), .second, .val (.long (0 : Int64)), .second] [(.int (Int32.ofNat I)), (.ref b6)])) _
    refine XS.i2l X10.here hx rfl (hb hby at_155) rfl ?_
    show Steps p.tables e below (T10.setTop (mkF m 156 #[.val (.int p1), .val (.int p2), .val (.int p3), .val (.long q4), .second, .val (.long q5), .second, .val (.int (Int32.ofNat N)), .val (.int (Int32.ofNat K)), .val (.int (Int32.ofNat I)), .val (.int (Int32.ofNat J)), .val (.int (Int32.ofNat Q)), .val (.ref b6), .val (.int (1 : Int32)), .val (.long q4), .second, .val (.long (0 : Int64)), .second] [(.long ((Int32.ofNat I).toInt64)), (.ref b6)])) _
    refine st11.trans ?_
    show Steps p.tables e below (T11.setTop (mkF m 159 #[.val (.int p1), .val (.int p2), .val (.int p3), .val (.long q4), .second, .val (.long q5), .second, .val (.int (Int32.ofNat N)), .val (.int (Int32.ofNat K)), .val (.int (Int32.ofNat I)), .val (.int (Int32.ofNat J)), .val (.int (Int32.ofNat Q)), .val (.ref b6), .val (.int (1 : Int32)), .val (.long q4), .second, .val (.long (0 : Int64)), .second] [(.long ((upd (upd (fun _ => (0 : Int64)) I q4) J q5) I))])) _
    refine XS.lload X11.here hx rfl (hb hby at_159) rfl ?_
    show Steps p.tables e below (T11.setTop (mkF m 161 #[.val (.int p1), .val (.int p2), .val (.int p3), .val (.long q4), .second, .val (.long q5), .second, .val (.int (Int32.ofNat N)), .val (.int (Int32.ofNat K)), .val (.int (Int32.ofNat I)), .val (.int (Int32.ofNat J)), .val (.int (Int32.ofNat Q)), .val (.ref b6), .val (.int (1 : Int32)), .val (.long q4), .second, .val (.long (0 : Int64)), .second] [(.long q4), (.long ((upd (upd (fun _ => (0 : Int64)) I q4) J q5) I))])) _
    refine XS.lcmp X11.here hx rfl (hb hby at_161) rfl ?_
    show Steps p.tables e below (T11.setTop (mkF m 162 #[.val (.int p1), .val (.int p2), .val (.int p3), .val (.long q4), .second, .val (.long q5), .second, .val (.int (Int32.ofNat N)), .val (.int (Int32.ofNat K)), .val (.int (Int32.ofNat I)), .val (.int (Int32.ofNat J)), .val (.int (Int32.ofNat Q)), .val (.ref b6), .val (.int (1 : Int32)), .val (.long q4), .second, .val (.long (0 : Int64)), .second] [(.int (lcmpW ((upd (upd (fun _ => (0 : Int64)) I q4) J q5) I) q4))])) _
    refine XS.ifNo X11.here hx rfl (hb hby at_162) rfl ((if0 _ _).trans (teq (own_lc (by simp [upd, hIJ]) : (lcmpW ((upd (upd (fun _ => (0 : Int64)) I q4) J q5) I) q4) = (0 : Int32))).2) ?_
    show Steps p.tables e below (T11.setTop (mkF m 165 #[.val (.int p1), .val (.int p2), .val (.int p3), .val (.long q4), .second, .val (.long q5), .second, .val (.int (Int32.ofNat N)), .val (.int (Int32.ofNat K)), .val (.int (Int32.ofNat I)), .val (.int (Int32.ofNat J)), .val (.int (Int32.ofNat Q)), .val (.ref b6), .val (.int (1 : Int32)), .val (.long q4), .second, .val (.long (0 : Int64)), .second] [])) _
    refine XS.aload X11.here hx rfl (hb hby at_165) rfl rfl ?_
    show Steps p.tables e below (T11.setTop (mkF m 167 #[.val (.int p1), .val (.int p2), .val (.int p3), .val (.long q4), .second, .val (.long q5), .second, .val (.int (Int32.ofNat N)), .val (.int (Int32.ofNat K)), .val (.int (Int32.ofNat I)), .val (.int (Int32.ofNat J)), .val (.int (Int32.ofNat Q)), .val (.ref b6), .val (.int (1 : Int32)), .val (.long q4), .second, .val (.long (0 : Int64)), .second] [(.ref b6)])) _
    refine XS.iload X11.here hx rfl (hb hby at_167) rfl ?_
    show Steps p.tables e below (T11.setTop (mkF m 169 #[.val (.int p1), .val (.int p2), .val (.int p3), .val (.long q4), .second, .val (.long q5), .second, .val (.int (Int32.ofNat N)), .val (.int (Int32.ofNat K)), .val (.int (Int32.ofNat I)), .val (.int (Int32.ofNat J)), .val (.int (Int32.ofNat Q)), .val (.ref b6), .val (.int (1 : Int32)), .val (.long q4), .second, .val (.long (0 : Int64)), .second] [(.int (Int32.ofNat J)), (.ref b6)])) _
    refine XS.i2l X11.here hx rfl (hb hby at_169) rfl ?_
    show Steps p.tables e below (T11.setTop (mkF m 170 #[.val (.int p1), .val (.int p2), .val (.int p3), .val (.long q4), .second, .val (.long q5), .second, .val (.int (Int32.ofNat N)), .val (.int (Int32.ofNat K)), .val (.int (Int32.ofNat I)), .val (.int (Int32.ofNat J)), .val (.int (Int32.ofNat Q)), .val (.ref b6), .val (.int (1 : Int32)), .val (.long q4), .second, .val (.long (0 : Int64)), .second] [(.long ((Int32.ofNat J).toInt64)), (.ref b6)])) _
    refine st12.trans ?_
    show Steps p.tables e below (T12.setTop (mkF m 173 #[.val (.int p1), .val (.int p2), .val (.int p3), .val (.long q4), .second, .val (.long q5), .second, .val (.int (Int32.ofNat N)), .val (.int (Int32.ofNat K)), .val (.int (Int32.ofNat I)), .val (.int (Int32.ofNat J)), .val (.int (Int32.ofNat Q)), .val (.ref b6), .val (.int (1 : Int32)), .val (.long q4), .second, .val (.long (0 : Int64)), .second] [(.long ((upd (upd (fun _ => (0 : Int64)) I q4) J q5) J))])) _
    refine XS.lload X12.here hx rfl (hb hby at_173) rfl ?_
    show Steps p.tables e below (T12.setTop (mkF m 175 #[.val (.int p1), .val (.int p2), .val (.int p3), .val (.long q4), .second, .val (.long q5), .second, .val (.int (Int32.ofNat N)), .val (.int (Int32.ofNat K)), .val (.int (Int32.ofNat I)), .val (.int (Int32.ofNat J)), .val (.int (Int32.ofNat Q)), .val (.ref b6), .val (.int (1 : Int32)), .val (.long q4), .second, .val (.long (0 : Int64)), .second] [(.long q5), (.long ((upd (upd (fun _ => (0 : Int64)) I q4) J q5) J))])) _
    refine XS.lcmp X12.here hx rfl (hb hby at_175) rfl ?_
    show Steps p.tables e below (T12.setTop (mkF m 176 #[.val (.int p1), .val (.int p2), .val (.int p3), .val (.long q4), .second, .val (.long q5), .second, .val (.int (Int32.ofNat N)), .val (.int (Int32.ofNat K)), .val (.int (Int32.ofNat I)), .val (.int (Int32.ofNat J)), .val (.int (Int32.ofNat Q)), .val (.ref b6), .val (.int (1 : Int32)), .val (.long q4), .second, .val (.long (0 : Int64)), .second] [(.int (lcmpW ((upd (upd (fun _ => (0 : Int64)) I q4) J q5) J) q5))])) _
    refine XS.ifNo X12.here hx rfl (hb hby at_176) rfl ((if0 _ _).trans (teq (own_lc (by simp [upd]) : (lcmpW ((upd (upd (fun _ => (0 : Int64)) I q4) J q5) J) q5) = (0 : Int32))).2) ?_
    show Steps p.tables e below (T12.setTop (mkF m 179 #[.val (.int p1), .val (.int p2), .val (.int p3), .val (.long q4), .second, .val (.long q5), .second, .val (.int (Int32.ofNat N)), .val (.int (Int32.ofNat K)), .val (.int (Int32.ofNat I)), .val (.int (Int32.ofNat J)), .val (.int (Int32.ofNat Q)), .val (.ref b6), .val (.int (1 : Int32)), .val (.long q4), .second, .val (.long (0 : Int64)), .second] [])) _
    refine XS.aload X12.here hx rfl (hb hby at_179) rfl rfl ?_
    show Steps p.tables e below (T12.setTop (mkF m 181 #[.val (.int p1), .val (.int p2), .val (.int p3), .val (.long q4), .second, .val (.long q5), .second, .val (.int (Int32.ofNat N)), .val (.int (Int32.ofNat K)), .val (.int (Int32.ofNat I)), .val (.int (Int32.ofNat J)), .val (.int (Int32.ofNat Q)), .val (.ref b6), .val (.int (1 : Int32)), .val (.long q4), .second, .val (.long (0 : Int64)), .second] [(.ref b6)])) _
    refine XS.iload X12.here hx rfl (hb hby at_181) rfl ?_
    show Steps p.tables e below (T12.setTop (mkF m 183 #[.val (.int p1), .val (.int p2), .val (.int p3), .val (.long q4), .second, .val (.long q5), .second, .val (.int (Int32.ofNat N)), .val (.int (Int32.ofNat K)), .val (.int (Int32.ofNat I)), .val (.int (Int32.ofNat J)), .val (.int (Int32.ofNat Q)), .val (.ref b6), .val (.int (1 : Int32)), .val (.long q4), .second, .val (.long (0 : Int64)), .second] [(.int (Int32.ofNat Q)), (.ref b6)])) _
    refine XS.i2l X12.here hx rfl (hb hby at_183) rfl ?_
    show Steps p.tables e below (T12.setTop (mkF m 184 #[.val (.int p1), .val (.int p2), .val (.int p3), .val (.long q4), .second, .val (.long q5), .second, .val (.int (Int32.ofNat N)), .val (.int (Int32.ofNat K)), .val (.int (Int32.ofNat I)), .val (.int (Int32.ofNat J)), .val (.int (Int32.ofNat Q)), .val (.ref b6), .val (.int (1 : Int32)), .val (.long q4), .second, .val (.long (0 : Int64)), .second] [(.long ((Int32.ofNat Q).toInt64)), (.ref b6)])) _
    refine st13.trans ?_
    show Steps p.tables e below (T13.setTop (mkF m 187 #[.val (.int p1), .val (.int p2), .val (.int p3), .val (.long q4), .second, .val (.long q5), .second, .val (.int (Int32.ofNat N)), .val (.int (Int32.ofNat K)), .val (.int (Int32.ofNat I)), .val (.int (Int32.ofNat J)), .val (.int (Int32.ofNat Q)), .val (.ref b6), .val (.int (1 : Int32)), .val (.long q4), .second, .val (.long (0 : Int64)), .second] [(.long ((upd (upd (fun _ => (0 : Int64)) I q4) J q5) Q))])) _
    refine XS.lload X13.here hx rfl (hb hby at_187) rfl ?_
    show Steps p.tables e below (T13.setTop (mkF m 189 #[.val (.int p1), .val (.int p2), .val (.int p3), .val (.long q4), .second, .val (.long q5), .second, .val (.int (Int32.ofNat N)), .val (.int (Int32.ofNat K)), .val (.int (Int32.ofNat I)), .val (.int (Int32.ofNat J)), .val (.int (Int32.ofNat Q)), .val (.ref b6), .val (.int (1 : Int32)), .val (.long q4), .second, .val (.long (0 : Int64)), .second] [(.long (0 : Int64)), (.long ((upd (upd (fun _ => (0 : Int64)) I q4) J q5) Q))])) _
    refine XS.lcmp X13.here hx rfl (hb hby at_189) rfl ?_
    show Steps p.tables e below (T13.setTop (mkF m 190 #[.val (.int p1), .val (.int p2), .val (.int p3), .val (.long q4), .second, .val (.long q5), .second, .val (.int (Int32.ofNat N)), .val (.int (Int32.ofNat K)), .val (.int (Int32.ofNat I)), .val (.int (Int32.ofNat J)), .val (.int (Int32.ofNat Q)), .val (.ref b6), .val (.int (1 : Int32)), .val (.long q4), .second, .val (.long (0 : Int64)), .second] [(.int (lcmpW ((upd (upd (fun _ => (0 : Int64)) I q4) J q5) Q) (0 : Int64)))])) _
    refine XS.ifNo X13.here hx rfl (hb hby at_190) rfl ((if0 _ _).trans (teq (own_lc (by simp [upd, hQJ, hQI]) : (lcmpW ((upd (upd (fun _ => (0 : Int64)) I q4) J q5) Q) (0 : Int64)) = (0 : Int32))).2) ?_
    show Steps p.tables e below (T13.setTop (mkF m 193 #[.val (.int p1), .val (.int p2), .val (.int p3), .val (.long q4), .second, .val (.long q5), .second, .val (.int (Int32.ofNat N)), .val (.int (Int32.ofNat K)), .val (.int (Int32.ofNat I)), .val (.int (Int32.ofNat J)), .val (.int (Int32.ofNat Q)), .val (.ref b6), .val (.int (1 : Int32)), .val (.long q4), .second, .val (.long (0 : Int64)), .second] [])) _
    refine XS.aload X13.here hx rfl (hb hby at_193) rfl rfl ?_
    show Steps p.tables e below (T13.setTop (mkF m 195 #[.val (.int p1), .val (.int p2), .val (.int p3), .val (.long q4), .second, .val (.long q5), .second, .val (.int (Int32.ofNat N)), .val (.int (Int32.ofNat K)), .val (.int (Int32.ofNat I)), .val (.int (Int32.ofNat J)), .val (.int (Int32.ofNat Q)), .val (.ref b6), .val (.int (1 : Int32)), .val (.long q4), .second, .val (.long (0 : Int64)), .second] [(.ref b6)])) _
    refine st14.trans ?_
    show Steps p.tables e below (T14.setTop (mkF m 198 #[.val (.int p1), .val (.int p2), .val (.int p3), .val (.long q4), .second, .val (.long q5), .second, .val (.int (Int32.ofNat N)), .val (.int (Int32.ofNat K)), .val (.int (Int32.ofNat I)), .val (.int (Int32.ofNat J)), .val (.int (Int32.ofNat Q)), .val (.ref b6), .val (.int (1 : Int32)), .val (.long q4), .second, .val (.long (0 : Int64)), .second] [(.long (Int64.ofNat N))])) _
    refine XS.iload X14.here hx rfl (hb hby at_198) rfl ?_
    show Steps p.tables e below (T14.setTop (mkF m 200 #[.val (.int p1), .val (.int p2), .val (.int p3), .val (.long q4), .second, .val (.long q5), .second, .val (.int (Int32.ofNat N)), .val (.int (Int32.ofNat K)), .val (.int (Int32.ofNat I)), .val (.int (Int32.ofNat J)), .val (.int (Int32.ofNat Q)), .val (.ref b6), .val (.int (1 : Int32)), .val (.long q4), .second, .val (.long (0 : Int64)), .second] [(.int (Int32.ofNat N)), (.long (Int64.ofNat N))])) _
    refine XS.i2l X14.here hx rfl (hb hby at_200) rfl ?_
    show Steps p.tables e below (T14.setTop (mkF m 201 #[.val (.int p1), .val (.int p2), .val (.int p3), .val (.long q4), .second, .val (.long q5), .second, .val (.int (Int32.ofNat N)), .val (.int (Int32.ofNat K)), .val (.int (Int32.ofNat I)), .val (.int (Int32.ofNat J)), .val (.int (Int32.ofNat Q)), .val (.ref b6), .val (.int (1 : Int32)), .val (.long q4), .second, .val (.long (0 : Int64)), .second] [(.long ((Int32.ofNat N).toInt64)), (.long (Int64.ofNat N))])) _
    refine XS.lcmp X14.here hx rfl (hb hby at_201) rfl ?_
    show Steps p.tables e below (T14.setTop (mkF m 202 #[.val (.int p1), .val (.int p2), .val (.int p3), .val (.long q4), .second, .val (.long q5), .second, .val (.int (Int32.ofNat N)), .val (.int (Int32.ofNat K)), .val (.int (Int32.ofNat I)), .val (.int (Int32.ofNat J)), .val (.int (Int32.ofNat Q)), .val (.ref b6), .val (.int (1 : Int32)), .val (.long q4), .second, .val (.long (0 : Int64)), .second] [(.int (lcmpW (Int64.ofNat N) ((Int32.ofNat N).toInt64)))])) _
    refine XS.ifNo X14.here hx rfl (hb hby at_202) rfl ((if0 _ _).trans (teq (own_lc (own_l hN rfl).symm : (lcmpW (Int64.ofNat N) ((Int32.ofNat N).toInt64)) = (0 : Int32))).2) ?_
    show Steps p.tables e below (T14.setTop (mkF m 205 #[.val (.int p1), .val (.int p2), .val (.int p3), .val (.long q4), .second, .val (.long q5), .second, .val (.int (Int32.ofNat N)), .val (.int (Int32.ofNat K)), .val (.int (Int32.ofNat I)), .val (.int (Int32.ofNat J)), .val (.int (Int32.ofNat Q)), .val (.ref b6), .val (.int (1 : Int32)), .val (.long q4), .second, .val (.long (0 : Int64)), .second] [])) _
    refine XS.iconst X14.here hx rfl (hb hby at_205) ?_
    show Steps p.tables e below (T14.setTop (mkF m 206 #[.val (.int p1), .val (.int p2), .val (.int p3), .val (.long q4), .second, .val (.long q5), .second, .val (.int (Int32.ofNat N)), .val (.int (Int32.ofNat K)), .val (.int (Int32.ofNat I)), .val (.int (Int32.ofNat J)), .val (.int (Int32.ofNat Q)), .val (.ref b6), .val (.int (1 : Int32)), .val (.long q4), .second, .val (.long (0 : Int64)), .second] [(.int (1 : Int32))])) _
    refine XS.goto X14.here hx rfl (pc0 := 206) (pc' := 210) rfl (hb hby at_206) (by decide) (by decide) ?_
    show Steps p.tables e below (T14.setTop (mkF m 210 #[.val (.int p1), .val (.int p2), .val (.int p3), .val (.long q4), .second, .val (.long q5), .second, .val (.int (Int32.ofNat N)), .val (.int (Int32.ofNat K)), .val (.int (Int32.ofNat I)), .val (.int (Int32.ofNat J)), .val (.int (Int32.ofNat Q)), .val (.ref b6), .val (.int (1 : Int32)), .val (.long q4), .second, .val (.long (0 : Int64)), .second] [(.int (1 : Int32))])) _
    exact retN X14 hx (t := .boolean) Bd.returns (by simp) (hb hby at_210) hr
  · show Q0_e Z p1 p2 p3 q4 q5 N K I J Q h0 n0 _ T14.heap _
    exact ⟨rfl, N14⟩
theorem own_of {z : Int32} {n : Nat} (h : z.toInt = n) (hn : n < 1000) : z = Int32.ofNat n := by
  have e : (Int32.ofNat n).toInt = n := len_toInt (by omega)
  exact Int32.toInt_inj.mp (by rw [h, e])
theorem own_N (p1 : Int32) : ∃ N : Nat, 1 ≤ N ∧ N ≤ 16 ∧ ((1 : Int32) + (p1 &&& (15 : Int32))) = Int32.ofNat N := by
  have e : (p1 &&& 15).toInt = p1.toInt % 2 ^ 4 := Jvm.Kit.i32_mask p1 15 (k := 4) (by decide) (by decide)
  have q1 : (1 : Int32).toInt = 1 := by decide
  have e2 : ((1 : Int32) + (p1 &&& 15)).toInt = (1 : Int32).toInt + (p1 &&& 15).toInt := Jvm.Kit.i32_add (by omega) (by omega)
  exact ⟨(1 + p1.toInt % 16).toNat, by omega, by omega, own_of (by omega) (by omega)⟩
theorem own_K (p2 : Int32) : ∃ K : Nat, K ≤ 4 ∧ ((p2 &&& (2147483647 : Int32)) % (5 : Int32)) = Int32.ofNat K := by
  have e : (p2 &&& 2147483647).toInt = p2.toInt % 2 ^ 31 := Jvm.Kit.i32_mask p2 2147483647 (k := 31) (by decide) (by decide)
  have q : ((p2 &&& 2147483647) % 5).toInt = (p2 &&& 2147483647).toInt % (5 : Int32).toInt := Jvm.Kit.i32_rem_nonneg (by omega)
  have q5 : (5 : Int32).toInt = 5 := by decide
  rw [q5] at q
  exact ⟨((p2 &&& 2147483647).toInt % 5).toNat, by omega, own_of (by omega) (by omega)⟩
theorem own_I (y z : Int32) {N : Nat} (hN1 : 1 ≤ N) (hN : N ≤ 16) (eN : z = Int32.ofNat N) : ∃ I : Nat, I < N ∧ ((y &&& (255 : Int32)) % z) = Int32.ofNat I := by
  have e : (y &&& 255).toInt = y.toInt % 2 ^ 8 := Jvm.Kit.i32_mask y 255 (k := 8) (by decide) (by decide)
  have q : ((y &&& 255) % z).toInt = (y &&& 255).toInt % z.toInt := Jvm.Kit.i32_rem_nonneg (by omega)
  have qz : z.toInt = N := by rw [eN]; exact len_toInt (by omega)
  rw [qz] at q
  have h1 : 0 ≤ (y &&& 255).toInt % (N : Int) := Int.emod_nonneg _ (by omega)
  have h2 : (y &&& 255).toInt % (N : Int) < N := Int.emod_lt_of_pos _ (by omega)
  generalize (y &&& 255).toInt % (N : Int) = r at *
  exact ⟨r.toNat, by omega, own_of (by omega) (by omega)⟩
theorem own_inj {i j : Nat} (hi : i < 1000) (hj : j < 1000) (h : Int32.ofNat i = Int32.ofNat j) : i = j := by
  rw [← own_tn hi, ← own_tn hj, h]
set_option maxRecDepth 65536 in
set_option maxHeartbeats 40000000 in
theorem comes_1 {Post : Tables → Env → Array Value → State → Outcome → State → Prop} (hpost : ∀ tb e args s v u, (limb_1_1.after args s (.returned v) u = true ∧ limb_1_2.after args s (.returned v) u = true ∧ True) → FrameEnd s (.returned v) u (Jvm.fieldLocs frame_1_writes args s ++ Jvm.arrayLocs frame_1_arrays args s ++ Jvm.staticLocs frame_1_statics s) 48 192 → Post tb e args s (.returned v) u) :
    ArmFor flags0 classFile x code maxLocals ret World_1 tables_1 room_1 Calls_1 rest_1 Pre_1 Post := by
  intro l hfl _ _ p e ha hc hk s m args below hf hA hF happ hP
  obtain ⟨hcalls, hrest, hpre⟩ := hP
  obtain ⟨-, -, -, hnamed, -, -, -, hat⟩ := (Spec.applies_iff hf).mp happ
  obtain ⟨hg, hn⟩ := and_e (Cond.before_iff.mp (show (Jvm.Cond.and given_1 narrow_1).before args s = true from hpre))
  obtain ⟨g15, g16⟩ := and_e hg
  obtain ⟨g17, g18⟩ := and_e g16
  obtain ⟨g19, g20⟩ := and_e g18
  obtain ⟨g21, g22⟩ := and_e g20
  obtain ⟨g23, g24⟩ := and_e g22
  obtain ⟨w0, w1, w2, w3, w4, rfl⟩ : ∃ w0 w1 w2 w3 w4 : Value, args = #[w0, w1, w2, w3, w4] := by
    have hs : args.size = 5 := by simpa [Cond.value, given_1] using g15
    obtain ⟨L⟩ := args
    match L, hs with
    | [w0, w1, w2, w3, w4], _ => exact ⟨w0, w1, w2, w3, w4, rfl⟩
  have hw := fun d (hd : d ∈ tables_1) => atoms_spec (ws := Jvm.Cond.code x code maxLocals ret :: tables_1) hat d (List.mem_cons_of_mem _ hd)
  have hfit : Fit s := fun {y c} hc i hi => by
    obtain ⟨ha, rfl⟩ := Array.getElem?_eq_some_iff.mp hc
    have q := List.all_eq_true.mp ((Array.all_eq_true_iff_forall_mem.mp hF) _ (Array.getElem_mem ha)) i (List.mem_range.mpr hi)
    simpa [Array.getElem?_eq_getElem hi] using q
  obtain ⟨i0, ei0⟩ := is_v g17
  obtain rfl : w0 = (.int i0) := Option.some.inj ei0
  obtain ⟨i1, ei1⟩ := is_v g19
  obtain rfl : w1 = (.int i1) := Option.some.inj ei1
  obtain ⟨i2, ei2⟩ := is_v g21
  obtain rfl : w2 = (.int i2) := Option.some.inj ei2
  obtain ⟨i3, ei3⟩ := isL_v g23
  obtain rfl : w3 = (.long i3) := Option.some.inj ei3
  obtain ⟨i4, ei4⟩ := isL_v g24
  obtain rfl : w4 = (.long i4) := Option.some.inj ei4
  obtain ⟨N, hN1, hN, eN⟩ := own_N i0
  obtain ⟨K, hK, eK⟩ := own_K i1
  obtain ⟨I, hI, eI⟩ := own_I i2 (Int32.ofNat N) hN1 hN rfl
  obtain ⟨J, hJ, eJ⟩ := own_I ((i2.toUInt32 >>> ((8 : Int32) &&& 31).toUInt32).toInt32) (Int32.ofNat N) hN1 hN rfl
  obtain ⟨Q, hQ, eQ⟩ := own_I ((i2.toUInt32 >>> ((16 : Int32) &&& 31).toUInt32).toInt32) (Int32.ofNat N) hN1 hN rfl
  have nz : ¬ ((Int32.ofNat N) = (0 : Int32)) := by
    intro q
    have := own_inj (i := N) (j := 0) (by omega) (by omega) q
    omega
  have cIJ : Int32.ofNat I = Int32.ofNat J ↔ I = J := ⟨fun q => own_inj (by omega) (by omega) q, fun q => by rw [q]⟩
  have cQJ : Int32.ofNat Q = Int32.ofNat J ↔ Q = J := ⟨fun q => own_inj (by omega) (by omega) q, fun q => by rw [q]⟩
  have cQI : Int32.ofNat Q = Int32.ofNat I ↔ Q = I := ⟨fun q => own_inj (by omega) (by omega) q, fun q => by rw [q]⟩
  have K : MetFree l x (head1 (Jvm.Cond.code x code maxLocals ret :: tables_1) room_1) (fun a U => a = #[(.int i0), (.int i1), (.int i2), (.long i3), (.long i4)] ∧ s.Warmed39 U.vm ∧ U.heap = s.heap) (fun _ _ _ _ _ => True) (fun _ U o U' => ∃ v L, o = .returned v ∧ (v = some (.int (1 : Int32)) ∧ Fr s.heap.size L) ∧ FrameEnd U o U' L room_1.cells room_1.slots) := by
    by_cases hIJ : I = J
    · by_cases hQJ : Q = J
      · exact (rm0_a l s _ hw tables_1 i0 i1 i2 i3 i4 N K I J Q s.heap s.heap.size (Nat.le_refl _) eN eK nz eI nz eJ nz eQ (cIJ.mpr hIJ) (cQJ.mpr hQJ) (by decide) hN1 hN hK hI hJ hQ hIJ hQJ)
      · exact (rm0_b l s _ hw tables_1 i0 i1 i2 i3 i4 N K I J Q s.heap s.heap.size (Nat.le_refl _) eN eK nz eI nz eJ nz eQ (cIJ.mpr hIJ) (mt cQJ.mp hQJ) (mt cQI.mp (fun q => hQJ (q.trans hIJ))) (by decide) hN1 hN hK hI hJ hQ hIJ hQJ)
    · by_cases hQJ : Q = J
      · exact (rm0_c l s _ hw tables_1 i0 i1 i2 i3 i4 N K I J Q s.heap s.heap.size (Nat.le_refl _) eN eK nz eI nz eJ nz eQ (mt cIJ.mp hIJ) (cQJ.mpr hQJ) (by decide) hN1 hN hK hI hJ hQ hIJ hQJ)
      · by_cases hQI : Q = I
        · exact (rm0_d l s _ hw tables_1 i0 i1 i2 i3 i4 N K I J Q s.heap s.heap.size (Nat.le_refl _) eN eK nz eI nz eJ nz eQ (mt cIJ.mp hIJ) (mt cQJ.mp hQJ) (cQI.mpr hQI) (by decide) hN1 hN hK hI hJ hQ hIJ hQJ hQI)
        · exact (rm0_e l s _ hw tables_1 i0 i1 i2 i3 i4 N K I J Q s.heap s.heap.size (Nat.le_refl _) eN eK nz eI nz eJ nz eQ (mt cIJ.mp hIJ) (mt cQJ.mp hQJ) (mt cQI.mp hQI) (by decide) hN1 hN hK hI hJ hQ hIJ hQJ hQI)
  obtain ⟨n, o, h1, h2, h3, _, L, rfl, ⟨rfl, N⟩, hq⟩ := K p e ha hc hk s m _ below hf ((Spec.applies_iff_loose hf).mp happ).1 ⟨rfl, State.Warmed39.refl s, rfl⟩ trivial
  refine ⟨n, _, h1, h2, h3, hpost _ _ _ _ _ _ ⟨Cond.after_iff.mpr rfl, Cond.after_iff.mpr (eq_i res_at (Term.int_eval (1)) rfl), trivial⟩ ⟨hq.1, hq.2.1, (hq.2.2.sift fun y hy => Or.inr (N y hy)).mono (by decide) (by decide)⟩⟩
theorem main_1_1 : Claimed_1_1 := comes_1 fun _ _ _ _ _ _ h hF => ⟨h.1, hF⟩
theorem main_1_2 : Claimed_1_2 := comes_1 fun _ _ _ _ _ _ h hF => ⟨h.2.1, hF⟩
end Jvm.Pilot.@@N@@
namespace Jvm.Pilot.@@N@@
open Jvm Jvm.ClassFile Sem Op Lib Jvm.Free Jvm.Stand Jvm.Pilot.@@N@@.Jvm.D
/-! MADE BY PROGRAM (witnessworld.py) out of the Statement's table words and the real class files: 12 classes; the members and pool entries that the words name. The judged class is class 1, her method 1. -/
namespace start1
open Jvm.ClassFile
def u (s : String) : CpInfo := .utf8 (stringToUtf16 s)
/-- a pool by its gaps: so many unusable entries, then the entry; so many at the end -/
def gap : Nat → List CpInfo → List CpInfo
  | 0, r => r
  | n + 1, r => .unusable :: gap n r
def poolList (es : List (Nat × CpInfo)) (last : Nat) : List CpInfo := es.foldr (fun e r => gap e.1 (e.2 :: r)) (gap last [])
def pool (es : List (Nat × CpInfo)) (last : Nat) : Array CpInfo := ⟨poolList es last⟩
def fileOf (pool : Array CpInfo) (this : Nat) (attrs : Array Attribute := #[]) (ms : Array MethodInfo := #[]) (fl : Nat := 33) (sup : Nat := 0) (ifs : Array Nat := #[]) (fds : Array FieldInfo := #[]) : ClassFile where
  minorVersion := 0
  majorVersion := 65
  constantPool := pool
  accessFlags := fl
  thisClass := this
  superClass := sup
  interfaces := ifs
  fields := fds
  methods := ms
  attributes := attrs
def plain (name : String) (sup : Option ClassId) : Class where
  name := name
  kind := .ordinary
  loader := none
  accessFlags := 33
  super := sup
  interfaces := #[]
  cf := none
  fields := #[]
  methods := #[]
  instanceTypes := #[]
  staticTypes := #[]
  resolved := #[]
  callSites := []
  init := .initialized
  statics := none
  mirror := none

def pool0 : Array CpInfo := pool [(5, u "<init>"), (0, u "()V"), (1, .class_ 10), (1, u "java/lang/Object")] 113

def k0c0 : Code := { maxStack := 0, maxLocals := 1, code := object_method_1_code, exceptionTable := #[], attributes := #[] }
def k0m0 : Method := { name := "<init>", desc := "()V", sig := { parameters := [], returnType := none }, accessFlags := 1, code := some k0c0 }
/-- java/lang/Object -/
def k0 : Class := { plain "java/lang/Object" none with
  accessFlags := 33
  interfaces := #[]
  cf := some (fileOf pool0 8 #[] #[{ accessFlags := 1, nameIndex := 5, descriptorIndex := 6, attributes := #[] }] 33 0 #[] #[])
  fields := #[]
  methods := #[k0m0]
  instanceTypes := #[]
  staticTypes := #[]
  resolved := Array.replicate 124 none
  statics := none }

def pool1 : Array CpInfo := pool [(2, .class_ 4), (1, u "java/lang/Object"), (0, u "<init>"), (0, u "()V"), (0, .integer 2147483647), (0, .class_ 9), (0, u "com/example/cowbird/cowbird/table/Words"), (0, .methodref 8 11), (0, .nameAndType 5 12), (0, u "(JI)V"), (0, .methodref 8 14), (0, .nameAndType 15 16), (0, u "get"), (0, u "(J)J"), (0, .methodref 8 18), (0, .nameAndType 19 20), (0, u "set"), (0, u "(JJ)V"), (0, .methodref 8 22), (0, .nameAndType 23 24), (0, u "length"), (0, u "()J"), (0, .class_ 26), (0, u "com/example/cowbird/cowbird/table/WordsGetPinLaw"), (2, u "law"), (0, u "(IIIJJ)Z")] 3

def k1m0 : Method := { name := "<init>", desc := "()V", sig := { parameters := [], returnType := none }, accessFlags := 1, code := none }
def k1c1 : Code := { maxStack := 5, maxLocals := 18, code := code, exceptionTable := #[], attributes := #[] }
def k1m1 : Method := { name := "law", desc := "(IIIJJ)Z", sig := { parameters := [.int, .int, .int, .long, .long], returnType := some .boolean }, accessFlags := 9, code := some k1c1 }
/-- com/example/cowbird/cowbird/table/WordsGetPinLaw -/
def k1 : Class := { plain "com/example/cowbird/cowbird/table/WordsGetPinLaw" (some 0) with
  accessFlags := 49
  interfaces := #[]
  cf := some (fileOf pool1 25 #[] #[{ accessFlags := 1, nameIndex := 5, descriptorIndex := 6, attributes := #[] }, { accessFlags := 9, nameIndex := 29, descriptorIndex := 30, attributes := #[] }] 49 2 #[] #[])
  fields := #[]
  methods := #[k1m0, k1m1]
  instanceTypes := #[]
  staticTypes := #[]
  resolved := Array.replicate 34 none
  statics := none }

def pool2 : Array CpInfo := pool [(1, .class_ 2), (0, u "com/example/cowbird/cowbird/table/Words"), (2, u "<init>"), (0, u "(JI)V"), (0, .methodref 1 8), (0, .nameAndType 9 10), (0, u "pageCount"), (0, u "(JI)I"), (0, .class_ 12), (0, u "[J"), (0, .methodref 1 14), (0, .nameAndType 5 15), (0, u "([[JIJ)V"), (0, .fieldref 1 17), (0, .nameAndType 18 19), (0, u "pages"), (0, u "[[J"), (0, .methodref 1 21), (0, .nameAndType 22 23), (0, u "pageLength"), (0, u "(JII)I"), (0, .methodref 25 26), (0, .class_ 27), (0, .nameAndType 5 28), (0, u "java/lang/Object"), (0, u "()V"), (0, .fieldref 1 30), (0, .nameAndType 31 32), (0, u "pageShift"), (0, u "I"), (0, .fieldref 1 34), (0, .nameAndType 35 36), (0, u "pageMask"), (0, u "J"), (0, .fieldref 1 38), (0, .nameAndType 39 36), (0, u "length"), (0, .methodref 41 42), (0, .class_ 43), (0, .nameAndType 44 45), (0, u "java/lang/Math"), (0, u "min"), (0, u "(JJ)J"), (0, u "PAGE_SHIFT"), (6, u "()J"), (0, u "get"), (0, u "(J)J"), (0, u "set"), (0, u "(JJ)V"), (3, .class_ 62), (0, u "com/example/cowbird/cowbird/table/Words$Builder")] 2

def k2c0 : Code := { maxStack := 6, maxLocals := 5, code := prog_14_method_2_code, exceptionTable := #[], attributes := #[] }
def k2m0 : Method := { name := "<init>", desc := "(JI)V", sig := { parameters := [.long, .int], returnType := none }, accessFlags := 0, code := some k2c0 }
def k2c1 : Code := { maxStack := 5, maxLocals := 5, code := prog_14_method_3_code, exceptionTable := #[], attributes := #[] }
def k2m1 : Method := { name := "<init>", desc := "([[JIJ)V", sig := { parameters := [(.array (.array .long)), .int, .long], returnType := none }, accessFlags := 2, code := some k2c1 }
def k2c2 : Code := { maxStack := 2, maxLocals := 1, code := prog_14_method_4_code, exceptionTable := #[], attributes := #[] }
def k2m2 : Method := { name := "length", desc := "()J", sig := { parameters := [], returnType := some .long }, accessFlags := 1, code := some k2c2 }
def k2c3 : Code := { maxStack := 5, maxLocals := 3, code := prog_14_method_5_code, exceptionTable := #[], attributes := #[] }
def k2m3 : Method := { name := "get", desc := "(J)J", sig := { parameters := [.long], returnType := some .long }, accessFlags := 1, code := some k2c3 }
def k2c4 : Code := { maxStack := 5, maxLocals := 5, code := prog_14_method_6_code, exceptionTable := #[], attributes := #[] }
def k2m4 : Method := { name := "set", desc := "(JJ)V", sig := { parameters := [.long, .long], returnType := none }, accessFlags := 0, code := some k2c4 }
def k2c5 : Code := { maxStack := 5, maxLocals := 3, code := prog_14_method_7_code, exceptionTable := #[], attributes := #[] }
def k2m5 : Method := { name := "pageCount", desc := "(JI)I", sig := { parameters := [.long, .int], returnType := some .int }, accessFlags := 10, code := some k2c5 }
def k2c6 : Code := { maxStack := 7, maxLocals := 4, code := prog_14_method_8_code, exceptionTable := #[], attributes := #[] }
def k2m6 : Method := { name := "pageLength", desc := "(JII)I", sig := { parameters := [.long, .int, .int], returnType := some .int }, accessFlags := 10, code := some k2c6 }
/-- com/example/cowbird/cowbird/table/Words -/
def k2 : Class := { plain "com/example/cowbird/cowbird/table/Words" (some 0) with
  accessFlags := 33
  interfaces := #[]
  cf := some (fileOf pool2 1 #[.nestMembers #[61]] #[{ accessFlags := 0, nameIndex := 5, descriptorIndex := 6, attributes := #[] }, { accessFlags := 2, nameIndex := 5, descriptorIndex := 15, attributes := #[] }, { accessFlags := 1, nameIndex := 39, descriptorIndex := 53, attributes := #[] }, { accessFlags := 1, nameIndex := 54, descriptorIndex := 55, attributes := #[] }, { accessFlags := 0, nameIndex := 56, descriptorIndex := 57, attributes := #[] }, { accessFlags := 10, nameIndex := 9, descriptorIndex := 10, attributes := #[] }, { accessFlags := 10, nameIndex := 22, descriptorIndex := 23, attributes := #[] }] 33 25 #[] #[{ accessFlags := 24, nameIndex := 46, descriptorIndex := 32, attributes := #[] }, { accessFlags := 18, nameIndex := 18, descriptorIndex := 19, attributes := #[] }, { accessFlags := 18, nameIndex := 31, descriptorIndex := 32, attributes := #[] }, { accessFlags := 18, nameIndex := 35, descriptorIndex := 36, attributes := #[] }, { accessFlags := 18, nameIndex := 39, descriptorIndex := 36, attributes := #[] }])
  fields := #[{ name := "PAGE_SHIFT", type := .int, accessFlags := 24, slot := 0, constantValue := 0 }, { name := "pages", type := (.array (.array .long)), accessFlags := 18, slot := 0, constantValue := 0 }, { name := "pageShift", type := .int, accessFlags := 18, slot := 1, constantValue := 0 }, { name := "pageMask", type := .long, accessFlags := 18, slot := 2, constantValue := 0 }, { name := "length", type := .long, accessFlags := 18, slot := 3, constantValue := 0 }]
  methods := #[k2m0, k2m1, k2m2, k2m3, k2m4, k2m5, k2m6]
  instanceTypes := #[(.array (.array .long)), .int, .long, .long]
  staticTypes := #[.int]
  resolved := Array.replicate 65 none
  statics := none }

def pool3 : Array CpInfo := pool [(1, .class_ 2), (0, u "java/lang/Math"), (1, .class_ 6), (1, u "java/lang/Object"), (0, u "<init>"), (0, u "()V"), (89, .class_ 100), (1, u "java/lang/Math$RandomNumberGeneratorHolder"), (20, u "(JJ)J"), (50, u "negativeZeroFloatBits"), (0, u "J"), (2, u "negativeZeroDoubleBits"), (24, u "min"), (43, u "$assertionsDisabled"), (0, u "Z"), (91, u "twoToTheDoubleScaleDown"), (0, u "D"), (4, u "twoToTheDoubleScaleUp"), (9, u "E"), (3, u "PI"), (2, u "TAU"), (2, u "DEGREES_TO_RADIANS"), (0, u "RADIANS_TO_DEGREES")] 94

def k3m0 : Method := { name := "<init>", desc := "()V", sig := { parameters := [], returnType := none }, accessFlags := 2, code := none }
def k3c1 : Code := { maxStack := 4, maxLocals := 4, code := jdk_29_method_70_code, exceptionTable := #[], attributes := #[] }
def k3m1 : Method := { name := "min", desc := "(JJ)J", sig := { parameters := [.long, .long], returnType := some .long }, accessFlags := 9, code := some k3c1 }
/-- java/lang/Math -/
def k3 : Class := { plain "java/lang/Math" (some 0) with
  accessFlags := 49
  interfaces := #[]
  cf := some (fileOf pool3 1 #[.nestMembers #[98]] #[{ accessFlags := 2, nameIndex := 7, descriptorIndex := 8, attributes := #[] }, { accessFlags := 9, nameIndex := 201, descriptorIndex := 121, attributes := #[] }] 49 4 #[] #[{ accessFlags := 25, nameIndex := 354, descriptorIndex := 339, attributes := #[] }, { accessFlags := 25, nameIndex := 358, descriptorIndex := 339, attributes := #[] }, { accessFlags := 25, nameIndex := 361, descriptorIndex := 339, attributes := #[] }, { accessFlags := 26, nameIndex := 364, descriptorIndex := 339, attributes := #[] }, { accessFlags := 26, nameIndex := 365, descriptorIndex := 339, attributes := #[] }, { accessFlags := 26, nameIndex := 172, descriptorIndex := 173, attributes := #[] }, { accessFlags := 26, nameIndex := 176, descriptorIndex := 173, attributes := #[] }, { accessFlags := 8, nameIndex := 344, descriptorIndex := 339, attributes := #[] }, { accessFlags := 8, nameIndex := 338, descriptorIndex := 339, attributes := #[] }, { accessFlags := 4120, nameIndex := 245, descriptorIndex := 246, attributes := #[] }])
  fields := #[{ name := "E", type := .double, accessFlags := 25, slot := 0, constantValue := 0 }, { name := "PI", type := .double, accessFlags := 25, slot := 1, constantValue := 0 }, { name := "TAU", type := .double, accessFlags := 25, slot := 2, constantValue := 0 }, { name := "DEGREES_TO_RADIANS", type := .double, accessFlags := 26, slot := 3, constantValue := 0 }, { name := "RADIANS_TO_DEGREES", type := .double, accessFlags := 26, slot := 4, constantValue := 0 }, { name := "negativeZeroFloatBits", type := .long, accessFlags := 26, slot := 5, constantValue := 0 }, { name := "negativeZeroDoubleBits", type := .long, accessFlags := 26, slot := 6, constantValue := 0 }, { name := "twoToTheDoubleScaleUp", type := .double, accessFlags := 8, slot := 7, constantValue := 0 }, { name := "twoToTheDoubleScaleDown", type := .double, accessFlags := 8, slot := 8, constantValue := 0 }, { name := "$assertionsDisabled", type := .boolean, accessFlags := 4120, slot := 9, constantValue := 0 }]
  methods := #[k3m0, k3m1]
  instanceTypes := #[]
  staticTypes := #[.double, .double, .double, .double, .double, .long, .long, .double, .double, .boolean]
  resolved := Array.replicate 460 none
  statics := none }

def pool4 : Array CpInfo := pool [(1, u "java/lang/Cloneable"), (0, .class_ 1), (0, u "java/lang/Object"), (0, .class_ 3)] 3

/-- java/lang/Cloneable -/
def k4 : Class := { plain "java/lang/Cloneable" (some 0) with
  accessFlags := 1537
  interfaces := #[]
  cf := some (fileOf pool4 2 #[] #[] 1537 4 #[] #[])
  fields := #[]
  methods := #[]
  instanceTypes := #[]
  staticTypes := #[]
  resolved := Array.replicate 8 none
  statics := none }

def pool5 : Array CpInfo := pool [(1, u "java/io/Serializable"), (0, .class_ 1), (0, u "java/lang/Object"), (0, .class_ 3)] 3

/-- java/io/Serializable -/
def k5 : Class := { plain "java/io/Serializable" (some 0) with
  accessFlags := 1537
  interfaces := #[]
  cf := some (fileOf pool5 2 #[] #[] 1537 4 #[] #[])
  fields := #[]
  methods := #[]
  instanceTypes := #[]
  staticTypes := #[]
  resolved := Array.replicate 8 none
  statics := none }

/-- the primitive byte -/
def k6 : Class := { plain "byte" none with kind := .primitive 'B', accessFlags := 0x411 }
/-- [B -/
def k7 : Class := { plain "[B" (some 0) with kind := .array 6 .byte, interfaces := #[4, 5], accessFlags := 1041 }

/-- the primitive int -/
def k8 : Class := { plain "int" none with kind := .primitive 'I', accessFlags := 0x411 }
/-- [I -/
def k9 : Class := { plain "[I" (some 0) with kind := .array 8 .int, interfaces := #[4, 5], accessFlags := 1041 }

/-- the primitive long -/
def k10 : Class := { plain "long" none with kind := .primitive 'J', accessFlags := 0x411 }
/-- [J -/
def k11 : Class := { plain "[J" (some 0) with kind := .array 10 .long, interfaces := #[4, 5], accessFlags := 1041 }
def k12 : Class := { plain "[[J" (some 0) with kind := .array 11 (.array .long), interfaces := #[4, 5], accessFlags := 1041 }

def heap : Heap := #[]
def classes : Array Class := #[k0, k1, k2, k3, k4, k5, k6, k7, k8, k9, k10, k11, k12]
def interned : List (Array UInt16 × Addr) := []
def slotsUsed : Nat := 0
def theMethod : MethodId := ⟨1, 1⟩
def args0 : Array Value := #[.int 5, .int 1, .int 7, .long 3, .long 4]
def aboutOver (below : List Frame) : State where
  vm := { classes := classes, interned := interned.toArray }
  heap := heap
  slotsUsed := slotsUsed
  threads := #[{ frames := .invoking theMethod args0 :: below }]
def below0 : List Frame := [.native { method := ⟨0, 0⟩, args := #[] }]
def about1 : State := aboutOver below0
def p0 : Program := .bare "" "" ""
def e0 : Env := launch0.env 0 0 0
theorem w_frames : about1.frames = Frame.invoking theMethod args0 :: below0 := rfl
set_option maxRecDepth 65536 in
theorem w_args : argsFit about1.vm theMethod args0 = true := by decide +kernel
set_option maxRecDepth 65536 in
theorem w_heap : heapFits about1 = true := by decide +kernel
set_option maxRecDepth 65536 in
theorem w_runnable : about1.curStatus? = some .runnable := by decide +kernel
set_option maxRecDepth 65536 in
theorem w_alone : about1.alone = true := by decide +kernel
set_option maxRecDepth 65536 in
theorem w_named : about1.methodNamed? x = some theMethod := by decide +kernel
set_option maxRecDepth 65536 in
theorem w_hears : about1.hears theMethod below0 = true := by decide +kernel
set_option maxRecDepth 65536 in
theorem w_ripe : about1.ripe theMethod args0 below0 = true := by decide +kernel
theorem w_running : about1.status = .running := rfl
set_option maxRecDepth 65536 in
theorem w_room : about1.hasRoom e0.platform room_1 = true :=
  launch0.hasRoom_least _ room_1 (by decide +kernel) (by decide +kernel) (by decide +kernel) (by decide +kernel) (by decide +kernel) (by decide +kernel)
theorem allAtoms_all (ts : List Jvm.Cond) (a : Array Jvm.Value) (st : Jvm.State) : (allAtoms ts).before a st = ts.all (fun c => c.before a st) := by
  induction ts with
  | nil => rfl
  | cons c t ih =>
    show (Jvm.Cond.and c (allAtoms t)).before a st = _
    rw [Jvm.Cond.before_and, ih, List.all_cons]
def words1 : List Jvm.Cond := Jvm.Cond.code x code maxLocals ret :: tables_1
/-- a 'code' word, met by the world's own term for the bytes: nothing is compared byte by byte -/
theorem code_word {y : MethodName} {bytes : ByteArray} {mx : Nat} {rt : Option FieldType} {a : Array Value} {s : State} {m : MethodId} {meth : Method} {c : Code} (h1 : s.methodNamed? y = some m) (h2 : s.vm.method? m = some meth) (h3 : meth.code = some c) (h4 : c.code = bytes)
    (h5 : (c.maxLocals == mx && c.exceptionTable.isEmpty && decide (c.maxStack ≤ mostOperands) && decide (meth.sig.returnType = rt) && !meth.locks && decide (parseMethodDescriptor y.desc = some meth.sig)) = true) : (Jvm.Cond.code y bytes mx rt).before a s = true := by
  simp only [Bool.and_eq_true, beq_iff_eq, Bool.not_eq_true', decide_eq_true_eq] at h5
  obtain ⟨⟨⟨⟨⟨g1, g2⟩, g3⟩, g4⟩, g5⟩, g6⟩ := h5
  simp [Cond.before, Cond.holds, Cond.value, h1, h2, h3, h4, g1, g2, g3, g4, g5, g6]
def isCode : Jvm.Cond → Bool
  | .code _ _ _ _ => true
  | _ => false
theorem all_split {L : List Jvm.Cond} {P : Jvm.Cond → Bool} (h1 : L.all (fun c => isCode c || P c) = true) (h2 : ∀ c ∈ L.filter isCode, P c = true) : L.all P = true := by
  refine List.all_eq_true.mpr fun c hc => ?_
  have h := List.all_eq_true.mp h1 c hc
  rcases Bool.eq_false_or_eq_true (isCode c) with hi | hi
  · exact h2 c (List.mem_filter.mpr ⟨hc, hi⟩)
  · simpa [hi] using h
set_option maxRecDepth 65536 in
theorem w_c0 : (Jvm.Cond.code x code maxLocals ret).before args0 about1 = true := code_word (m := ⟨1, 1⟩) (meth := k1m1) (c := k1c1) (by decide +kernel) rfl rfl rfl (by decide +kernel)
set_option maxRecDepth 65536 in
theorem w_c1 : (Jvm.Cond.code ({ cls := "com/example/cowbird/cowbird/table/Words", name := "<init>", desc := "(JI)V" } : Jvm.MethodName) prog_14_method_2_code (5 : Nat) (Option.none : Option Jvm.ClassFile.FieldType)).before args0 about1 = true := code_word (m := ⟨2, 0⟩) (meth := k2m0) (c := k2c0) (by decide +kernel) rfl rfl rfl (by decide +kernel)
set_option maxRecDepth 65536 in
theorem w_c2 : (Jvm.Cond.code ({ cls := "com/example/cowbird/cowbird/table/Words", name := "pageCount", desc := "(JI)I" } : Jvm.MethodName) prog_14_method_7_code (3 : Nat) (Option.some Jvm.ClassFile.FieldType.int)).before args0 about1 = true := code_word (m := ⟨2, 5⟩) (meth := k2m5) (c := k2c5) (by decide +kernel) rfl rfl rfl (by decide +kernel)
set_option maxRecDepth 65536 in
theorem w_c3 : (Jvm.Cond.code ({ cls := "com/example/cowbird/cowbird/table/Words", name := "<init>", desc := "([[JIJ)V" } : Jvm.MethodName) prog_14_method_3_code (5 : Nat) (Option.none : Option Jvm.ClassFile.FieldType)).before args0 about1 = true := code_word (m := ⟨2, 1⟩) (meth := k2m1) (c := k2c1) (by decide +kernel) rfl rfl rfl (by decide +kernel)
set_option maxRecDepth 65536 in
theorem w_c4 : (Jvm.Cond.code ({ cls := "java/lang/Object", name := "<init>", desc := "()V" } : Jvm.MethodName) object_method_1_code (1 : Nat) (Option.none : Option Jvm.ClassFile.FieldType)).before args0 about1 = true := code_word (m := ⟨0, 0⟩) (meth := k0m0) (c := k0c0) (by decide +kernel) rfl rfl rfl (by decide +kernel)
set_option maxRecDepth 65536 in
theorem w_c5 : (Jvm.Cond.code ({ cls := "com/example/cowbird/cowbird/table/Words", name := "pageLength", desc := "(JII)I" } : Jvm.MethodName) prog_14_method_8_code (4 : Nat) (Option.some Jvm.ClassFile.FieldType.int)).before args0 about1 = true := code_word (m := ⟨2, 6⟩) (meth := k2m6) (c := k2c6) (by decide +kernel) rfl rfl rfl (by decide +kernel)
set_option maxRecDepth 65536 in
theorem w_c6 : (Jvm.Cond.code ({ cls := "java/lang/Math", name := "min", desc := "(JJ)J" } : Jvm.MethodName) jdk_29_method_70_code (4 : Nat) (Option.some Jvm.ClassFile.FieldType.long)).before args0 about1 = true := code_word (m := ⟨3, 1⟩) (meth := k3m1) (c := k3c1) (by decide +kernel) rfl rfl rfl (by decide +kernel)
set_option maxRecDepth 65536 in
theorem w_c7 : (Jvm.Cond.code ({ cls := "com/example/cowbird/cowbird/table/Words", name := "get", desc := "(J)J" } : Jvm.MethodName) prog_14_method_5_code (3 : Nat) (Option.some Jvm.ClassFile.FieldType.long)).before args0 about1 = true := code_word (m := ⟨2, 3⟩) (meth := k2m3) (c := k2c3) (by decide +kernel) rfl rfl rfl (by decide +kernel)
set_option maxRecDepth 65536 in
theorem w_c8 : (Jvm.Cond.code ({ cls := "com/example/cowbird/cowbird/table/Words", name := "set", desc := "(JJ)V" } : Jvm.MethodName) prog_14_method_6_code (5 : Nat) (Option.none : Option Jvm.ClassFile.FieldType)).before args0 about1 = true := code_word (m := ⟨2, 4⟩) (meth := k2m4) (c := k2c4) (by decide +kernel) rfl rfl rfl (by decide +kernel)
set_option maxRecDepth 65536 in
theorem w_c9 : (Jvm.Cond.code ({ cls := "com/example/cowbird/cowbird/table/Words", name := "length", desc := "()J" } : Jvm.MethodName) prog_14_method_4_code (1 : Nat) (Option.some Jvm.ClassFile.FieldType.long)).before args0 about1 = true := code_word (m := ⟨2, 2⟩) (meth := k2m2) (c := k2c2) (by decide +kernel) rfl rfl rfl (by decide +kernel)
def codes1 : List Jvm.Cond := [Jvm.Cond.code x code maxLocals ret, Jvm.Cond.code ({ cls := "com/example/cowbird/cowbird/table/Words", name := "<init>", desc := "(JI)V" } : Jvm.MethodName) prog_14_method_2_code (5 : Nat) (Option.none : Option Jvm.ClassFile.FieldType), Jvm.Cond.code ({ cls := "com/example/cowbird/cowbird/table/Words", name := "pageCount", desc := "(JI)I" } : Jvm.MethodName) prog_14_method_7_code (3 : Nat) (Option.some Jvm.ClassFile.FieldType.int), Jvm.Cond.code ({ cls := "com/example/cowbird/cowbird/table/Words", name := "<init>", desc := "([[JIJ)V" } : Jvm.MethodName) prog_14_method_3_code (5 : Nat) (Option.none : Option Jvm.ClassFile.FieldType), Jvm.Cond.code ({ cls := "java/lang/Object", name := "<init>", desc := "()V" } : Jvm.MethodName) object_method_1_code (1 : Nat) (Option.none : Option Jvm.ClassFile.FieldType), Jvm.Cond.code ({ cls := "com/example/cowbird/cowbird/table/Words", name := "pageLength", desc := "(JII)I" } : Jvm.MethodName) prog_14_method_8_code (4 : Nat) (Option.some Jvm.ClassFile.FieldType.int), Jvm.Cond.code ({ cls := "java/lang/Math", name := "min", desc := "(JJ)J" } : Jvm.MethodName) jdk_29_method_70_code (4 : Nat) (Option.some Jvm.ClassFile.FieldType.long), Jvm.Cond.code ({ cls := "com/example/cowbird/cowbird/table/Words", name := "get", desc := "(J)J" } : Jvm.MethodName) prog_14_method_5_code (3 : Nat) (Option.some Jvm.ClassFile.FieldType.long), Jvm.Cond.code ({ cls := "com/example/cowbird/cowbird/table/Words", name := "set", desc := "(JJ)V" } : Jvm.MethodName) prog_14_method_6_code (5 : Nat) (Option.none : Option Jvm.ClassFile.FieldType), Jvm.Cond.code ({ cls := "com/example/cowbird/cowbird/table/Words", name := "length", desc := "()J" } : Jvm.MethodName) prog_14_method_4_code (1 : Nat) (Option.some Jvm.ClassFile.FieldType.long)]
set_option maxRecDepth 65536 in
theorem codes_eq : words1.filter isCode = codes1 := rfl
theorem w_codes : ∀ c ∈ words1.filter isCode, c.before args0 about1 = true := by
  rw [codes_eq]
  intro c hc
  simp only [codes1, List.mem_cons, List.not_mem_nil, or_false] at hc
  rcases hc with rfl | rfl | rfl | rfl | rfl | rfl | rfl | rfl | rfl | rfl
  · exact w_c0
  · exact w_c1
  · exact w_c2
  · exact w_c3
  · exact w_c4
  · exact w_c5
  · exact w_c6
  · exact w_c7
  · exact w_c8
  · exact w_c9
set_option maxRecDepth 65536 in
theorem w_t1 : (words1.take 24).all (fun c => isCode c || c.before args0 about1) = true := by decide +kernel
set_option maxRecDepth 65536 in
theorem w_t2 : ((words1.drop 24).take 24).all (fun c => isCode c || c.before args0 about1) = true := by decide +kernel
set_option maxRecDepth 65536 in
theorem w_t3 : ((words1.drop 24).drop 24).all (fun c => isCode c || c.before args0 about1) = true := by decide +kernel
theorem w_tables : (allAtoms (Jvm.Cond.code x code maxLocals ret :: tables_1)).before args0 about1 = true := by
  rw [allAtoms_all]
  show words1.all (fun c => c.before args0 about1) = true
  refine all_split ?_ w_codes
  rw [← List.take_append_drop 24 words1, List.all_append, w_t1, ← List.take_append_drop 24 (words1.drop 24), List.all_append, w_t2, w_t3]
  rfl
set_option maxRecDepth 65536 in
theorem w_case : (Jvm.Cond.and given_1 narrow_1).before args0 about1 = true := by decide +kernel
theorem w_applies : (headSpec (Jvm.Cond.code x code maxLocals ret :: tables_1) room_1).applies x e0.platform about1 = true :=
  (Spec.applies_iff w_frames).mpr ⟨w_running, w_runnable, w_alone, w_named, w_hears, w_ripe, w_room, w_tables⟩
theorem atStart : AtStart classFile x code maxLocals ret World_1 tables_1 room_1 Calls_1 rest_1 Pre_1 launch0 p0 e0 about1 theMethod args0 below0 :=
  ⟨lists_1, trivial, launch0.admits_env _ _ _, launch0.least_env, fairChoices_fair.cas, fairChoices_fair.clock, w_frames, w_args, w_heap, w_applies, trivial, trivial, w_case⟩
end start1
theorem witness_1 : WitnessClaimed_1 := ⟨start1.p0, start1.e0, start1.about1, start1.theMethod, start1.args0, start1.below0, start1.atStart⟩
end Jvm.Pilot.@@N@@
