import JvmDerived
import JvmDerived.Pilot.@@N@@Statement
import JvmDerived.Pilot.@@N@@Code
set_option linter.unusedVariables false
set_option linter.unusedSimpArgs false
namespace Jvm.RoadKit
open Sem ClassFile Op Lib Jvm.Stand Jvm.Free Jvm.LawKit
section New
variable {p : Program} {l : Launch} {e : Env} {R : Room} {s : State} {m : MethodId} {args : Array Value} {below : List Frame} {meth : Method} {c : Code} {T : State} {locs : List Loc} {cells slots : Nat}
theorem retI (X : Stand p l e R s m args below meth c T locs cells slots) (hx : p.tables.exec = Jvm.exec) {pc : Nat} {Ls : Array Slot} {z : Int32} {rest : List Value} (hret : meth.sig.returnType = some .int) (hd : decode c.code pc = .ok (.ireturn, 1)) {fs : List Frame}
    (hl : ∀ (f : JFrame) (acts : List Action), f.method = m → f.locked = none → f.entered = [] → (doReturn e (T.setTop f) acts (some (.int z))).1 = T.setFrames fs) : Steps p.tables e below (T.setTop (mkF m pc Ls (.int z :: rest))) (T.setFrames fs) := by
  have hm' : T.vm.method? m = some meth := X.method'
  have hn : narrow .int (.int z) = .int z := rfl
  show Steps p.tables e below (T.setTop { method := m, pc := pc, locals := Ls, stack := _ :: rest, locked := none }) _
  jvm_step X.here [X.here.top, hx, hd, hm', hret, hn]
  first | (intro acts; rw [hl _ acts rfl rfl rfl]) | rw [hl _ _ rfl rfl rfl]
  exact Steps.refl _
end New
end Jvm.RoadKit
namespace Jvm.Pilot.@@N@@
open Jvm Jvm.ClassFile Sem Op Lib Jvm.Free Jvm.Stand Jvm.LawKit Jvm.RoadKit Bundle Jvm.Pilot.@@N@@.Jvm.D
def own_max (a b : Int32) : Int32 := if a < b then b else a
def own_maxl (a b : Int64) : Int64 := if lcmpW a b < 0 then b else a
def own_off (w2 : Int64) (w4 : Int32) : Int64 := if (0 : Int32) < (lcmpW (w2 - (1 : Int64)) ((9223372036854775807 : Int64) / (w4.toInt64))) then 9223372036854775807 else (w2 - (1 : Int64)) * (w4.toInt64)
theorem d1_0 : decode jdk_29_method_65_code 0 = .ok (.iload_n 0, 1) := by decide +kernel
theorem d1_1 : decode jdk_29_method_65_code 1 = .ok (.iload_n 1, 1) := by decide +kernel
theorem d1_2 : decode jdk_29_method_65_code 2 = .ok (.if_icmp .lt 7, 3) := by decide +kernel
theorem d1_9 : decode jdk_29_method_65_code 9 = .ok (.iload_n 1, 1) := by decide +kernel
theorem d1_10 : decode jdk_29_method_65_code 10 = .ok (.ireturn, 1) := by decide +kernel
theorem ef_1 (m : MethodId) (x0 : Int32) (x1 : Int32) : entryFrame m #[(.int x0), (.int x1)] 2 = mkF m 0 #[.val (.int x0), .val (.int x1)] [] := by first | (simp [entryFrame, mkF, argsToLocals, Value.category]; done) | rfl
def Q1 (Z : State) (p1 : Int32) (p2 : Int32) (h0 : Heap) (n0 : Nat) (v : Option Value) (h : Heap) (L : List Loc) : Prop := v = some (.int (own_max p1 p2)) ∧ Fr n0 L ∧ h = h0
set_option maxRecDepth 65536 in
set_option maxHeartbeats 40000000 in
theorem rm1_t (l : Launch) (Z : State) (a0 : Array Value) (hw : ∀ d ∈ tables_1, d.before a0 Z = true) (ws : List Jvm.Cond) (p1 : Int32) (p2 : Int32) (h0 : Heap) (n0 : Nat) (Z0 : n0 ≤ h0.size) (hc2 : p1 < p2) :
    MetFree l (⟨"java/lang/Math", "max", "(II)I"⟩ : MethodName) (head1 (Jvm.Cond.code (⟨"java/lang/Math", "max", "(II)I"⟩ : MethodName) jdk_29_method_65_code 2 (some .int) :: ws) ({ frames := 0, cells := 0, slots := 0, locals := 0 } : Room)) (fun a U => a = #[(.int p1), (.int p2)] ∧ Z.Warmed39 U.vm ∧ U.heap = h0) (fun _ _ _ _ _ => True) (fun _ U o U' => ∃ v L, o = .returned v ∧ Q1 Z p1 p2 h0 n0 v U'.heap L ∧ FrameEnd U o U' L ({ frames := 0, cells := 0, slots := 0, locals := 0 } : Room).cells ({ frames := 0, cells := 0, slots := 0, locals := 0 } : Room).slots) := by
  refine MetFree.of_bodySF (Jvm.Free.JP.mathPlain rfl (by decide +kernel)) hisR ?_
  intro p e s m args below meth c s₁ Bd hml0 hP hK
  obtain ⟨rfl, hZ, hh⟩ := hP
  have hx := Bd.exec
  have hby := Bd.bytes
  have hml : c.maxLocals = 2 := hml0
  have hown : s.vm.findClass "java/lang/Math" = some m.cls := findClass_of_methodNamed Bd.named
  have hnm := (name_of_methodNamed Bd.named Bd.method).1
  have X0 : Stand p l e ({ frames := 0, cells := 0, slots := 0, locals := 0 } : Room) s m #[(.int p1), (.int p2)] below meth c s₁ [] 0 0 := Stand.of_body Bd
  have e0 : s₁.heap = h0 := by rw [← hh, Bd.state]; rfl
  have N0 := Fr.nil n0
  have pre0 : ∀ t, Steps p.tables e below (s₁.setTop (mkF m 0 #[.val (.int p1), .val (.int p2)] [])) t → Steps p.tables e below (s₁.setTop (entryFrame m #[(.int p1), (.int p2)] 2)) t := fun t k => castTop (ef_1 m p1 p2) k

  obtain ⟨fs, hr, hrun, hended, hW, hsame⟩ := X0.leave (v := some (.int p2)) (fun h => by rw [Bd.returns] at h; cases h)
  refine ⟨_, _, pre0 _ ?_, hrun, hended, _, _, rfl, ?_, ⟨_, rfl⟩, hW, hsame.mono (by decide) (by decide)⟩
  · show Steps p.tables e below (s₁.setTop (mkF m 0 #[.val (.int p1), .val (.int p2)] [])) _
    refine XS.iloadN X0.here hx rfl (hb hby d1_0) rfl ?_
    show Steps p.tables e below (s₁.setTop (mkF m 1 #[.val (.int p1), .val (.int p2)] [(.int p1)])) _
    refine XS.iloadN X0.here hx rfl (hb hby d1_1) rfl ?_
    show Steps p.tables e below (s₁.setTop (mkF m 2 #[.val (.int p1), .val (.int p2)] [(.int p2), (.int p1)])) _
    refine XS.icmpYes X0.here hx rfl (pc0 := 2) (pc' := 9) rfl (hb hby d1_2) rfl (tlt hc2).1 (by decide) (by decide) ?_
    show Steps p.tables e below (s₁.setTop (mkF m 9 #[.val (.int p1), .val (.int p2)] [])) _
    refine XS.iloadN X0.here hx rfl (hb hby d1_9) rfl ?_
    show Steps p.tables e below (s₁.setTop (mkF m 10 #[.val (.int p1), .val (.int p2)] [(.int p2)])) _
    exact retI X0 hx Bd.returns (hb hby d1_10) hr
  · show Q1 Z p1 p2 h0 n0 _ s₁.heap _
    rw [e0]
    exact ⟨by rw [own_max, if_pos hc2], N0, rfl⟩
theorem d1_5 : decode jdk_29_method_65_code 5 = .ok (.iload_n 0, 1) := by decide +kernel
theorem d1_6 : decode jdk_29_method_65_code 6 = .ok (.goto 4, 3) := by decide +kernel
set_option maxRecDepth 65536 in
set_option maxHeartbeats 40000000 in
theorem rm1_f (l : Launch) (Z : State) (a0 : Array Value) (hw : ∀ d ∈ tables_1, d.before a0 Z = true) (ws : List Jvm.Cond) (p1 : Int32) (p2 : Int32) (h0 : Heap) (n0 : Nat) (Z0 : n0 ≤ h0.size) (hc2 : ¬ (p1 < p2)) :
    MetFree l (⟨"java/lang/Math", "max", "(II)I"⟩ : MethodName) (head1 (Jvm.Cond.code (⟨"java/lang/Math", "max", "(II)I"⟩ : MethodName) jdk_29_method_65_code 2 (some .int) :: ws) ({ frames := 0, cells := 0, slots := 0, locals := 0 } : Room)) (fun a U => a = #[(.int p1), (.int p2)] ∧ Z.Warmed39 U.vm ∧ U.heap = h0) (fun _ _ _ _ _ => True) (fun _ U o U' => ∃ v L, o = .returned v ∧ Q1 Z p1 p2 h0 n0 v U'.heap L ∧ FrameEnd U o U' L ({ frames := 0, cells := 0, slots := 0, locals := 0 } : Room).cells ({ frames := 0, cells := 0, slots := 0, locals := 0 } : Room).slots) := by
  refine MetFree.of_bodySF (Jvm.Free.JP.mathPlain rfl (by decide +kernel)) hisR ?_
  intro p e s m args below meth c s₁ Bd hml0 hP hK
  obtain ⟨rfl, hZ, hh⟩ := hP
  have hx := Bd.exec
  have hby := Bd.bytes
  have hml : c.maxLocals = 2 := hml0
  have hown : s.vm.findClass "java/lang/Math" = some m.cls := findClass_of_methodNamed Bd.named
  have hnm := (name_of_methodNamed Bd.named Bd.method).1
  have X0 : Stand p l e ({ frames := 0, cells := 0, slots := 0, locals := 0 } : Room) s m #[(.int p1), (.int p2)] below meth c s₁ [] 0 0 := Stand.of_body Bd
  have e0 : s₁.heap = h0 := by rw [← hh, Bd.state]; rfl
  have N0 := Fr.nil n0
  have pre0 : ∀ t, Steps p.tables e below (s₁.setTop (mkF m 0 #[.val (.int p1), .val (.int p2)] [])) t → Steps p.tables e below (s₁.setTop (entryFrame m #[(.int p1), (.int p2)] 2)) t := fun t k => castTop (ef_1 m p1 p2) k

  obtain ⟨fs, hr, hrun, hended, hW, hsame⟩ := X0.leave (v := some (.int p1)) (fun h => by rw [Bd.returns] at h; cases h)
  refine ⟨_, _, pre0 _ ?_, hrun, hended, _, _, rfl, ?_, ⟨_, rfl⟩, hW, hsame.mono (by decide) (by decide)⟩
  · show Steps p.tables e below (s₁.setTop (mkF m 0 #[.val (.int p1), .val (.int p2)] [])) _
    refine XS.iloadN X0.here hx rfl (hb hby d1_0) rfl ?_
    show Steps p.tables e below (s₁.setTop (mkF m 1 #[.val (.int p1), .val (.int p2)] [(.int p1)])) _
    refine XS.iloadN X0.here hx rfl (hb hby d1_1) rfl ?_
    show Steps p.tables e below (s₁.setTop (mkF m 2 #[.val (.int p1), .val (.int p2)] [(.int p2), (.int p1)])) _
    refine XS.icmpNo X0.here hx rfl (hb hby d1_2) rfl (flt hc2).1 ?_
    show Steps p.tables e below (s₁.setTop (mkF m 5 #[.val (.int p1), .val (.int p2)] [])) _
    refine XS.iloadN X0.here hx rfl (hb hby d1_5) rfl ?_
    show Steps p.tables e below (s₁.setTop (mkF m 6 #[.val (.int p1), .val (.int p2)] [(.int p1)])) _
    refine XS.goto X0.here hx rfl (pc0 := 6) (pc' := 10) rfl (hb hby d1_6) (by decide) (by decide) ?_
    show Steps p.tables e below (s₁.setTop (mkF m 10 #[.val (.int p1), .val (.int p2)] [(.int p1)])) _
    exact retI X0 hx Bd.returns (hb hby d1_10) hr
  · show Q1 Z p1 p2 h0 n0 _ s₁.heap _
    rw [e0]
    exact ⟨by rw [own_max, if_neg hc2], N0, rfl⟩
theorem rm1 (l : Launch) (Z : State) (a0 : Array Value) (hw : ∀ d ∈ tables_1, d.before a0 Z = true) (ws : List Jvm.Cond) (p1 : Int32) (p2 : Int32) (h0 : Heap) (n0 : Nat) (Z0 : n0 ≤ h0.size) :
    MetFree l (⟨"java/lang/Math", "max", "(II)I"⟩ : MethodName) (head1 (Jvm.Cond.code (⟨"java/lang/Math", "max", "(II)I"⟩ : MethodName) jdk_29_method_65_code 2 (some .int) :: ws) ({ frames := 0, cells := 0, slots := 0, locals := 0 } : Room)) (fun a U => a = #[(.int p1), (.int p2)] ∧ Z.Warmed39 U.vm ∧ U.heap = h0) (fun _ _ _ _ _ => True) (fun _ U o U' => ∃ v L, o = .returned v ∧ Q1 Z p1 p2 h0 n0 v U'.heap L ∧ FrameEnd U o U' L ({ frames := 0, cells := 0, slots := 0, locals := 0 } : Room).cells ({ frames := 0, cells := 0, slots := 0, locals := 0 } : Room).slots) := by
  by_cases hc : p1 < p2
  · exact rm1_t l Z a0 hw ws p1 p2 h0 n0 Z0 hc
  · exact rm1_f l Z a0 hw ws p1 p2 h0 n0 Z0 hc
theorem d6_0 : decode jdk_29_method_66_code 0 = .ok (.lload_n 0, 1) := by decide +kernel
theorem d6_1 : decode jdk_29_method_66_code 1 = .ok (.lload_n 2, 1) := by decide +kernel
theorem d6_2 : decode jdk_29_method_66_code 2 = .ok (.lcmp, 1) := by decide +kernel
theorem d6_3 : decode jdk_29_method_66_code 3 = .ok (.ifCond .lt 7, 3) := by decide +kernel
theorem d6_10 : decode jdk_29_method_66_code 10 = .ok (.lload_n 2, 1) := by decide +kernel
theorem d6_11 : decode jdk_29_method_66_code 11 = .ok (.lreturn, 1) := by decide +kernel
theorem ef_6 (m : MethodId) (x0 : Int64) (x1 : Int64) : entryFrame m #[(.long x0), (.long x1)] 4 = mkF m 0 #[.val (.long x0), .second, .val (.long x1), .second] [] := by first | (simp [entryFrame, mkF, argsToLocals, Value.category]; done) | rfl
def Q6 (Z : State) (q1 : Int64) (q2 : Int64) (h0 : Heap) (n0 : Nat) (v : Option Value) (h : Heap) (L : List Loc) : Prop := v = some (.long (own_maxl q1 q2)) ∧ Fr n0 L ∧ h = h0
set_option maxRecDepth 65536 in
set_option maxHeartbeats 40000000 in
theorem rm6_t (l : Launch) (Z : State) (a0 : Array Value) (hw : ∀ d ∈ tables_1, d.before a0 Z = true) (ws : List Jvm.Cond) (q1 : Int64) (q2 : Int64) (h0 : Heap) (n0 : Nat) (Z0 : n0 ≤ h0.size) (hc3 : (lcmpW q1 q2) < (0 : Int32)) :
    MetFree l (⟨"java/lang/Math", "max", "(JJ)J"⟩ : MethodName) (head1 (Jvm.Cond.code (⟨"java/lang/Math", "max", "(JJ)J"⟩ : MethodName) jdk_29_method_66_code 4 (some .long) :: ws) ({ frames := 0, cells := 0, slots := 0, locals := 0 } : Room)) (fun a U => a = #[(.long q1), (.long q2)] ∧ Z.Warmed39 U.vm ∧ U.heap = h0) (fun _ _ _ _ _ => True) (fun _ U o U' => ∃ v L, o = .returned v ∧ Q6 Z q1 q2 h0 n0 v U'.heap L ∧ FrameEnd U o U' L ({ frames := 0, cells := 0, slots := 0, locals := 0 } : Room).cells ({ frames := 0, cells := 0, slots := 0, locals := 0 } : Room).slots) := by
  refine MetFree.of_bodySF (Jvm.Free.JP.mathPlain rfl (by decide +kernel)) hisR ?_
  intro p e s m args below meth c s₁ Bd hml0 hP hK
  obtain ⟨rfl, hZ, hh⟩ := hP
  have hx := Bd.exec
  have hby := Bd.bytes
  have hml : c.maxLocals = 4 := hml0
  have hown : s.vm.findClass "java/lang/Math" = some m.cls := findClass_of_methodNamed Bd.named
  have hnm := (name_of_methodNamed Bd.named Bd.method).1
  have X0 : Stand p l e ({ frames := 0, cells := 0, slots := 0, locals := 0 } : Room) s m #[(.long q1), (.long q2)] below meth c s₁ [] 0 0 := Stand.of_body Bd
  have e0 : s₁.heap = h0 := by rw [← hh, Bd.state]; rfl
  have N0 := Fr.nil n0
  have pre0 : ∀ t, Steps p.tables e below (s₁.setTop (mkF m 0 #[.val (.long q1), .second, .val (.long q2), .second] [])) t → Steps p.tables e below (s₁.setTop (entryFrame m #[(.long q1), (.long q2)] 4)) t := fun t k => castTop (ef_6 m q1 q2) k

  obtain ⟨fs, hr, hrun, hended, hW, hsame⟩ := X0.leave (v := some (.long q2)) (fun h => by rw [Bd.returns] at h; cases h)
  refine ⟨_, _, pre0 _ ?_, hrun, hended, _, _, rfl, ?_, ⟨_, rfl⟩, hW, hsame.mono (by decide) (by decide)⟩
  · show Steps p.tables e below (s₁.setTop (mkF m 0 #[.val (.long q1), .second, .val (.long q2), .second] [])) _
    refine XS.lloadN X0.here hx rfl (hb hby d6_0) rfl ?_
    show Steps p.tables e below (s₁.setTop (mkF m 1 #[.val (.long q1), .second, .val (.long q2), .second] [(.long q1)])) _
    refine XS.lloadN X0.here hx rfl (hb hby d6_1) rfl ?_
    show Steps p.tables e below (s₁.setTop (mkF m 2 #[.val (.long q1), .second, .val (.long q2), .second] [(.long q2), (.long q1)])) _
    refine XS.lcmp X0.here hx rfl (hb hby d6_2) rfl ?_
    show Steps p.tables e below (s₁.setTop (mkF m 3 #[.val (.long q1), .second, .val (.long q2), .second] [(.int (lcmpW q1 q2))])) _
    refine XS.ifYes X0.here hx rfl (pc0 := 3) (pc' := 10) rfl (hb hby d6_3) rfl ((if0 _ _).trans (tlt hc3).1) (by decide) (by decide) ?_
    show Steps p.tables e below (s₁.setTop (mkF m 10 #[.val (.long q1), .second, .val (.long q2), .second] [])) _
    refine XS.lloadN X0.here hx rfl (hb hby d6_10) rfl ?_
    show Steps p.tables e below (s₁.setTop (mkF m 11 #[.val (.long q1), .second, .val (.long q2), .second] [(.long q2)])) _
    jvm_step X0.here [X0.here.top, hx, (hb hby d6_11), X0.method', Bd.returns, narrow]
    first | (intro acts; rw [hr _ acts rfl rfl rfl]) | rw [hr _ _ rfl rfl rfl]
    exact Steps.refl _
  · show Q6 Z q1 q2 h0 n0 _ s₁.heap _
    rw [e0]
    exact ⟨by rw [own_maxl, if_pos hc3], N0, rfl⟩
theorem d6_6 : decode jdk_29_method_66_code 6 = .ok (.lload_n 0, 1) := by decide +kernel
theorem d6_7 : decode jdk_29_method_66_code 7 = .ok (.goto 4, 3) := by decide +kernel
set_option maxRecDepth 65536 in
set_option maxHeartbeats 40000000 in
theorem rm6_f (l : Launch) (Z : State) (a0 : Array Value) (hw : ∀ d ∈ tables_1, d.before a0 Z = true) (ws : List Jvm.Cond) (q1 : Int64) (q2 : Int64) (h0 : Heap) (n0 : Nat) (Z0 : n0 ≤ h0.size) (hc3 : ¬ ((lcmpW q1 q2) < (0 : Int32))) :
    MetFree l (⟨"java/lang/Math", "max", "(JJ)J"⟩ : MethodName) (head1 (Jvm.Cond.code (⟨"java/lang/Math", "max", "(JJ)J"⟩ : MethodName) jdk_29_method_66_code 4 (some .long) :: ws) ({ frames := 0, cells := 0, slots := 0, locals := 0 } : Room)) (fun a U => a = #[(.long q1), (.long q2)] ∧ Z.Warmed39 U.vm ∧ U.heap = h0) (fun _ _ _ _ _ => True) (fun _ U o U' => ∃ v L, o = .returned v ∧ Q6 Z q1 q2 h0 n0 v U'.heap L ∧ FrameEnd U o U' L ({ frames := 0, cells := 0, slots := 0, locals := 0 } : Room).cells ({ frames := 0, cells := 0, slots := 0, locals := 0 } : Room).slots) := by
  refine MetFree.of_bodySF (Jvm.Free.JP.mathPlain rfl (by decide +kernel)) hisR ?_
  intro p e s m args below meth c s₁ Bd hml0 hP hK
  obtain ⟨rfl, hZ, hh⟩ := hP
  have hx := Bd.exec
  have hby := Bd.bytes
  have hml : c.maxLocals = 4 := hml0
  have hown : s.vm.findClass "java/lang/Math" = some m.cls := findClass_of_methodNamed Bd.named
  have hnm := (name_of_methodNamed Bd.named Bd.method).1
  have X0 : Stand p l e ({ frames := 0, cells := 0, slots := 0, locals := 0 } : Room) s m #[(.long q1), (.long q2)] below meth c s₁ [] 0 0 := Stand.of_body Bd
  have e0 : s₁.heap = h0 := by rw [← hh, Bd.state]; rfl
  have N0 := Fr.nil n0
  have pre0 : ∀ t, Steps p.tables e below (s₁.setTop (mkF m 0 #[.val (.long q1), .second, .val (.long q2), .second] [])) t → Steps p.tables e below (s₁.setTop (entryFrame m #[(.long q1), (.long q2)] 4)) t := fun t k => castTop (ef_6 m q1 q2) k

  obtain ⟨fs, hr, hrun, hended, hW, hsame⟩ := X0.leave (v := some (.long q1)) (fun h => by rw [Bd.returns] at h; cases h)
  refine ⟨_, _, pre0 _ ?_, hrun, hended, _, _, rfl, ?_, ⟨_, rfl⟩, hW, hsame.mono (by decide) (by decide)⟩
  · show Steps p.tables e below (s₁.setTop (mkF m 0 #[.val (.long q1), .second, .val (.long q2), .second] [])) _
    refine XS.lloadN X0.here hx rfl (hb hby d6_0) rfl ?_
    show Steps p.tables e below (s₁.setTop (mkF m 1 #[.val (.long q1), .second, .val (.long q2), .second] [(.long q1)])) _
    refine XS.lloadN X0.here hx rfl (hb hby d6_1) rfl ?_
    show Steps p.tables e below (s₁.setTop (mkF m 2 #[.val (.long q1), .second, .val (.long q2), .second] [(.long q2), (.long q1)])) _
    refine XS.lcmp X0.here hx rfl (hb hby d6_2) rfl ?_
    show Steps p.tables e below (s₁.setTop (mkF m 3 #[.val (.long q1), .second, .val (.long q2), .second] [(.int (lcmpW q1 q2))])) _
    refine XS.ifNo X0.here hx rfl (hb hby d6_3) rfl ((if0 _ _).trans (flt hc3).1) ?_
    show Steps p.tables e below (s₁.setTop (mkF m 6 #[.val (.long q1), .second, .val (.long q2), .second] [])) _
    refine XS.lloadN X0.here hx rfl (hb hby d6_6) rfl ?_
    show Steps p.tables e below (s₁.setTop (mkF m 7 #[.val (.long q1), .second, .val (.long q2), .second] [(.long q1)])) _
    refine XS.goto X0.here hx rfl (pc0 := 7) (pc' := 11) rfl (hb hby d6_7) (by decide) (by decide) ?_
    show Steps p.tables e below (s₁.setTop (mkF m 11 #[.val (.long q1), .second, .val (.long q2), .second] [(.long q1)])) _
    jvm_step X0.here [X0.here.top, hx, (hb hby d6_11), X0.method', Bd.returns, narrow]
    first | (intro acts; rw [hr _ acts rfl rfl rfl]) | rw [hr _ _ rfl rfl rfl]
    exact Steps.refl _
  · show Q6 Z q1 q2 h0 n0 _ s₁.heap _
    rw [e0]
    exact ⟨by rw [own_maxl, if_neg hc3], N0, rfl⟩
theorem rm6 (l : Launch) (Z : State) (a0 : Array Value) (hw : ∀ d ∈ tables_1, d.before a0 Z = true) (ws : List Jvm.Cond) (q1 : Int64) (q2 : Int64) (h0 : Heap) (n0 : Nat) (Z0 : n0 ≤ h0.size) :
    MetFree l (⟨"java/lang/Math", "max", "(JJ)J"⟩ : MethodName) (head1 (Jvm.Cond.code (⟨"java/lang/Math", "max", "(JJ)J"⟩ : MethodName) jdk_29_method_66_code 4 (some .long) :: ws) ({ frames := 0, cells := 0, slots := 0, locals := 0 } : Room)) (fun a U => a = #[(.long q1), (.long q2)] ∧ Z.Warmed39 U.vm ∧ U.heap = h0) (fun _ _ _ _ _ => True) (fun _ U o U' => ∃ v L, o = .returned v ∧ Q6 Z q1 q2 h0 n0 v U'.heap L ∧ FrameEnd U o U' L ({ frames := 0, cells := 0, slots := 0, locals := 0 } : Room).cells ({ frames := 0, cells := 0, slots := 0, locals := 0 } : Room).slots) := by
  by_cases hc : (lcmpW q1 q2) < (0 : Int32)
  · exact rm6_t l Z a0 hw ws q1 q2 h0 n0 Z0 hc
  · exact rm6_f l Z a0 hw ws q1 q2 h0 n0 Z0 hc
theorem d2_0 : decode prog_27_method_1_code 0 = .ok (.aload_n 0, 1) := by decide +kernel
theorem d2_1 : decode prog_27_method_1_code 1 = .ok (.invokespecial 1, 3) := by decide +kernel
theorem d2_4 : decode prog_27_method_1_code 4 = .ok (.lload_n 1, 1) := by decide +kernel
theorem d2_5 : decode prog_27_method_1_code 5 = .ok (.lconst 1, 1) := by decide +kernel
theorem d2_6 : decode prog_27_method_1_code 6 = .ok (.lcmp, 1) := by decide +kernel
theorem d2_7 : decode prog_27_method_1_code 7 = .ok (.ifCond .lt 8, 3) := by decide +kernel
theorem d2_10 : decode prog_27_method_1_code 10 = .ok (.iload_n 3, 1) := by decide +kernel
theorem d2_11 : decode prog_27_method_1_code 11 = .ok (.iconst 1, 1) := by decide +kernel
theorem d2_12 : decode prog_27_method_1_code 12 = .ok (.if_icmp .ge 18, 3) := by decide +kernel
theorem d2_30 : decode prog_27_method_1_code 30 = .ok (.aload_n 0, 1) := by decide +kernel
theorem d2_31 : decode prog_27_method_1_code 31 = .ok (.lload_n 1, 1) := by decide +kernel
theorem d2_32 : decode prog_27_method_1_code 32 = .ok (.putfield 16, 3) := by decide +kernel
theorem d2_35 : decode prog_27_method_1_code 35 = .ok (.aload_n 0, 1) := by decide +kernel
theorem d2_36 : decode prog_27_method_1_code 36 = .ok (.iload_n 3, 1) := by decide +kernel
theorem d2_37 : decode prog_27_method_1_code 37 = .ok (.putfield 22, 3) := by decide +kernel
theorem d2_40 : decode prog_27_method_1_code 40 = .ok (.return_, 1) := by decide +kernel
theorem pn_2 : plainName "com/example/proration/proration/store/Page" = true := by first | (simp [plainName, overriddenIn]; done) | decide +kernel
theorem ef_2 (m : MethodId) (x0 : Addr) (x1 : Int64) (x2 : Int32) : entryFrame m #[(.ref x0), (.long x1), (.int x2)] 4 = mkF m 0 #[.val (.ref x0), .val (.long x1), .second, .val (.int x2)] [] := by first | (simp [entryFrame, mkF, argsToLocals, Value.category]; done) | rfl
def Q2 (Z : State) (a1 : Addr) (q2 : Int64) (p3 : Int32) (u_number_a1 : Value) (u_size_a1 : Value) (h0 : Heap) (n0 : Nat) (v : Option Value) (h : Heap) (L : List Loc) : Prop := v = none ∧ Fr n0 L ∧ Keep h0 h [a1] ∧ Exa Z h a1 "com/example/proration/proration/store/Page" ∧ Fld Z h a1 "com/example/proration/proration/store/Page" "number" "J" (.long q2) ∧ Fld Z h a1 "com/example/proration/proration/store/Page" "size" "I" (.int p3)
set_option maxRecDepth 65536 in
set_option maxHeartbeats 40000000 in
theorem rm2 (l : Launch) (Z : State) (a0 : Array Value) (hw : ∀ d ∈ tables_1, d.before a0 Z = true) (ws : List Jvm.Cond) (a1 : Addr) (q2 : Int64) (p3 : Int32) (u_number_a1 : Value) (u_size_a1 : Value) (h0 : Heap) (n0 : Nat) (Z0 : n0 ≤ h0.size) (E_a1 : Exa Z h0 a1 "com/example/proration/proration/store/Page") (F_number_a1 : Fld Z h0 a1 "com/example/proration/proration/store/Page" "number" "J" u_number_a1) (g_a1 : n0 ≤ a1) (F_size_a1 : Fld Z h0 a1 "com/example/proration/proration/store/Page" "size" "I" u_size_a1) (hc7 : ¬ ((lcmpW q2 (1 : Int64)) < (0 : Int32))) (hc12 : ¬ (p3 < (1 : Int32))) :
    MetFree l (⟨"com/example/proration/proration/store/Page", "<init>", "(JI)V"⟩ : MethodName) (head1 (Jvm.Cond.code (⟨"com/example/proration/proration/store/Page", "<init>", "(JI)V"⟩ : MethodName) prog_27_method_1_code 4 none :: ws) ({ frames := 1, cells := 0, slots := 0, locals := 12 } : Room)) (fun a U => a = #[(.ref a1), (.long q2), (.int p3)] ∧ Z.Warmed39 U.vm ∧ U.heap = h0) (fun _ _ _ _ _ => True) (fun _ U o U' => ∃ v L, o = .returned v ∧ Q2 Z a1 q2 p3 u_number_a1 u_size_a1 h0 n0 v U'.heap L ∧ FrameEnd U o U' L ({ frames := 1, cells := 0, slots := 0, locals := 12 } : Room).cells ({ frames := 1, cells := 0, slots := 0, locals := 12 } : Room).slots) := by
  refine MetFree.of_bodySF (plainFor_of_name pn_2) hisR ?_
  intro p e s m args below meth c s₁ Bd hml0 hP hK
  obtain ⟨rfl, hZ, hh⟩ := hP
  have hx := Bd.exec
  have hby := Bd.bytes
  have hml : c.maxLocals = 4 := hml0
  have hown : s.vm.findClass "com/example/proration/proration/store/Page" = some m.cls := findClass_of_methodNamed Bd.named
  have hnm := (name_of_methodNamed Bd.named Bd.method).1
  have X0 : Stand p l e ({ frames := 1, cells := 0, slots := 0, locals := 12 } : Room) s m #[(.ref a1), (.long q2), (.int p3)] below meth c s₁ [] 0 0 := Stand.of_body Bd
  have e0 : s₁.heap = h0 := by rw [← hh, Bd.state]; rfl
  have N0 := Fr.nil n0
  have pre0 : ∀ t, Steps p.tables e below (s₁.setTop (mkF m 0 #[.val (.ref a1), .val (.long q2), .second, .val (.int p3)] [])) t → Steps p.tables e below (s₁.setTop (entryFrame m #[(.ref a1), (.long q2), (.int p3)] 4)) t := fun t k => castTop (ef_2 m a1 q2 p3) k
  obtain ⟨T4, X4, e4, st4⟩ := initO X0 hx hZ hown (hw _ (List.mem_of_getElem? (i := 12) rfl)) (hw _ (List.mem_of_getElem? (i := 13) rfl)) (hw _ (List.mem_of_getElem? (i := 14) rfl)) e0 (g := (mkF m 1 #[.val (.ref a1), .val (.long q2), .second, .val (.int p3)] [(.ref a1)])) rfl (by rw [hml]; rfl) rfl (hb hby d2_1) (by decide) (W := 0) (by show 2 * 0 + _ ≤ _; exact Nat.le_of_eq rfl) (by decide)
  obtain ⟨T5, h5, X5, e5, W5, st5⟩ := putF X4 hx hZ hown (host := "") (Or.inl (hw _ (List.mem_of_getElem? (i := 15) rfl))) Via.refl e4 F_number_a1 E_a1 (Or.inr ⟨(hw _ (List.mem_of_getElem? (i := 16) rfl)), rfl, hnm⟩) (hw _ (List.mem_of_getElem? (i := 7) rfl)) (ty := .long) (by decide) rfl rfl (g := (mkF m 32 #[.val (.ref a1), .val (.long q2), .second, .val (.int p3)] [(.long q2), (.ref a1)])) rfl rfl (hb hby d2_32)
  have Fw5 := F_number_a1.same W5
  have K5 : Keep h0 h5 [a1] := (Keep.refl h0 [a1]).wr W5 (Or.inl (List.mem_of_getElem? (i := 0) rfl))
  have N5 := Fr.snoc X5 N0 g_a1
  obtain ⟨T6, h6, X6, e6, W6, st6⟩ := putF X5 hx hZ hown (host := "") (Or.inl (hw _ (List.mem_of_getElem? (i := 17) rfl))) Via.refl e5 (F_size_a1.other W5 (Or.inr (slot_ne (Or.inr (hw _ (List.mem_of_getElem? (i := 18) rfl))) (Or.inr (hw _ (List.mem_of_getElem? (i := 16) rfl))) (by decide) (t := .int) (t' := .long) (by decide) (by decide)))) (E_a1.wr W5) (Or.inr ⟨(hw _ (List.mem_of_getElem? (i := 18) rfl)), rfl, hnm⟩) (hw _ (List.mem_of_getElem? (i := 7) rfl)) (ty := .int) (by decide) rfl rfl (g := (mkF m 37 #[.val (.ref a1), .val (.long q2), .second, .val (.int p3)] [(.int p3), (.ref a1)])) rfl rfl (hb hby d2_37)
  have Fw6 := (F_size_a1.other W5 (Or.inr (slot_ne (Or.inr (hw _ (List.mem_of_getElem? (i := 18) rfl))) (Or.inr (hw _ (List.mem_of_getElem? (i := 16) rfl))) (by decide) (t := .int) (t' := .long) (by decide) (by decide)))).same W6
  have K6 : Keep h0 h6 [a1] := K5.wr W6 (Or.inl (List.mem_of_getElem? (i := 0) rfl))
  have N6 := Fr.snoc X6 N5 g_a1
  obtain ⟨fs, hr, hrun, hended, hW, hsame⟩ := X6.leave (v := none) (fun _ => rfl)
  refine ⟨_, _, pre0 _ ?_, hrun, hended, _, _, rfl, ?_, ⟨_, rfl⟩, hW, hsame.mono (by decide) (by decide)⟩
  · show Steps p.tables e below (s₁.setTop (mkF m 0 #[.val (.ref a1), .val (.long q2), .second, .val (.int p3)] [])) _
    refine XS.aloadN X0.here hx rfl (hb hby d2_0) rfl rfl ?_
    show Steps p.tables e below (s₁.setTop (mkF m 1 #[.val (.ref a1), .val (.long q2), .second, .val (.int p3)] [(.ref a1)])) _
    refine st4 _ ?_
    show Steps p.tables e below (T4.setTop (mkF m 4 #[.val (.ref a1), .val (.long q2), .second, .val (.int p3)] [])) _
    refine XS.lloadN X4.here hx rfl (hb hby d2_4) rfl ?_
    show Steps p.tables e below (T4.setTop (mkF m 5 #[.val (.ref a1), .val (.long q2), .second, .val (.int p3)] [(.long q2)])) _
    refine XS.lconst X4.here hx rfl (hb hby d2_5) ?_
    show Steps p.tables e below (T4.setTop (mkF m 6 #[.val (.ref a1), .val (.long q2), .second, .val (.int p3)] [(.long (1 : Int64)), (.long q2)])) _
    refine XS.lcmp X4.here hx rfl (hb hby d2_6) rfl ?_
    show Steps p.tables e below (T4.setTop (mkF m 7 #[.val (.ref a1), .val (.long q2), .second, .val (.int p3)] [(.int (lcmpW q2 (1 : Int64)))])) _
    refine XS.ifNo X4.here hx rfl (hb hby d2_7) rfl ((if0 _ _).trans (flt hc7).1) ?_
    show Steps p.tables e below (T4.setTop (mkF m 10 #[.val (.ref a1), .val (.long q2), .second, .val (.int p3)] [])) _
    refine XS.iloadN X4.here hx rfl (hb hby d2_10) rfl ?_
    show Steps p.tables e below (T4.setTop (mkF m 11 #[.val (.ref a1), .val (.long q2), .second, .val (.int p3)] [(.int p3)])) _
    refine XS.iconst X4.here hx rfl (hb hby d2_11) ?_
    show Steps p.tables e below (T4.setTop (mkF m 12 #[.val (.ref a1), .val (.long q2), .second, .val (.int p3)] [(.int (1 : Int32)), (.int p3)])) _
    refine XS.icmpYes X4.here hx rfl (pc0 := 12) (pc' := 30) rfl (hb hby d2_12) rfl (flt hc12).2.1 (by decide) (by decide) ?_
    show Steps p.tables e below (T4.setTop (mkF m 30 #[.val (.ref a1), .val (.long q2), .second, .val (.int p3)] [])) _
    refine XS.aloadN X4.here hx rfl (hb hby d2_30) rfl rfl ?_
    show Steps p.tables e below (T4.setTop (mkF m 31 #[.val (.ref a1), .val (.long q2), .second, .val (.int p3)] [(.ref a1)])) _
    refine XS.lloadN X4.here hx rfl (hb hby d2_31) rfl ?_
    show Steps p.tables e below (T4.setTop (mkF m 32 #[.val (.ref a1), .val (.long q2), .second, .val (.int p3)] [(.long q2), (.ref a1)])) _
    refine st5 _ ?_
    show Steps p.tables e below (T5.setTop (mkF m 35 #[.val (.ref a1), .val (.long q2), .second, .val (.int p3)] [])) _
    refine XS.aloadN X5.here hx rfl (hb hby d2_35) rfl rfl ?_
    show Steps p.tables e below (T5.setTop (mkF m 36 #[.val (.ref a1), .val (.long q2), .second, .val (.int p3)] [(.ref a1)])) _
    refine XS.iloadN X5.here hx rfl (hb hby d2_36) rfl ?_
    show Steps p.tables e below (T5.setTop (mkF m 37 #[.val (.ref a1), .val (.long q2), .second, .val (.int p3)] [(.int p3), (.ref a1)])) _
    refine st6 _ ?_
    show Steps p.tables e below (T6.setTop (mkF m 40 #[.val (.ref a1), .val (.long q2), .second, .val (.int p3)] [])) _
    exact X6.returnOut hx Bd.returns (hb hby d2_40) hr
  · show Q2 Z a1 q2 p3 u_number_a1 u_size_a1 h0 n0 _ T6.heap _
    rw [e6]
    exact ⟨rfl, N6, K6, ((E_a1.wr W5).wr W6), (Fw5.other W6 (Or.inr (slot_ne (Or.inr (hw _ (List.mem_of_getElem? (i := 16) rfl))) (Or.inr (hw _ (List.mem_of_getElem? (i := 18) rfl))) (by decide) (t := .long) (t' := .int) (by decide) (by decide)))), Fw6⟩
theorem d4_0 : decode prog_27_method_3_code 0 = .ok (.aload_n 0, 1) := by decide +kernel
theorem d4_1 : decode prog_27_method_3_code 1 = .ok (.getfield 16, 3) := by decide +kernel
theorem d4_4 : decode prog_27_method_3_code 4 = .ok (.lconst 1, 1) := by decide +kernel
theorem d4_5 : decode prog_27_method_3_code 5 = .ok (.lsub, 1) := by decide +kernel
theorem d4_6 : decode prog_27_method_3_code 6 = .ok (.lstore_n 1, 1) := by decide +kernel
theorem d4_7 : decode prog_27_method_3_code 7 = .ok (.lload_n 1, 1) := by decide +kernel
theorem d4_8 : decode prog_27_method_3_code 8 = .ok (.ldc2_w 28, 3) := by decide +kernel
theorem d4_11 : decode prog_27_method_3_code 11 = .ok (.aload_n 0, 1) := by decide +kernel
theorem d4_12 : decode prog_27_method_3_code 12 = .ok (.getfield 22, 3) := by decide +kernel
theorem d4_15 : decode prog_27_method_3_code 15 = .ok (.i2l, 1) := by decide +kernel
theorem d4_16 : decode prog_27_method_3_code 16 = .ok (.ldiv, 1) := by decide +kernel
theorem d4_17 : decode prog_27_method_3_code 17 = .ok (.lcmp, 1) := by decide +kernel
theorem d4_18 : decode prog_27_method_3_code 18 = .ok (.ifCond .le 7, 3) := by decide +kernel
theorem d4_25 : decode prog_27_method_3_code 25 = .ok (.lload_n 1, 1) := by decide +kernel
theorem d4_26 : decode prog_27_method_3_code 26 = .ok (.aload_n 0, 1) := by decide +kernel
theorem d4_27 : decode prog_27_method_3_code 27 = .ok (.getfield 22, 3) := by decide +kernel
theorem d4_30 : decode prog_27_method_3_code 30 = .ok (.i2l, 1) := by decide +kernel
theorem d4_31 : decode prog_27_method_3_code 31 = .ok (.lmul, 1) := by decide +kernel
theorem d4_32 : decode prog_27_method_3_code 32 = .ok (.lreturn, 1) := by decide +kernel
theorem pn_4 : plainName "com/example/proration/proration/store/Page" = true := by first | (simp [plainName, overriddenIn]; done) | decide +kernel
theorem ef_4 (m : MethodId) (x0 : Addr) : entryFrame m #[(.ref x0)] 3 = mkF m 0 #[.val (.ref x0), .unset, .unset] [] := by first | (simp [entryFrame, mkF, argsToLocals, Value.category]; done) | rfl
def Q4 (Z : State) (a1 : Addr) (w2 : Int64) (w4 : Int32) (h0 : Heap) (n0 : Nat) (v : Option Value) (h : Heap) (L : List Loc) : Prop := v = some (.long (own_off w2 w4)) ∧ Fr n0 L ∧ h = h0
set_option maxRecDepth 65536 in
set_option maxHeartbeats 40000000 in
theorem rm4_t (l : Launch) (Z : State) (a0 : Array Value) (hw : ∀ d ∈ tables_1, d.before a0 Z = true) (ws : List Jvm.Cond) (a1 : Addr) (w2 : Int64) (w4 : Int32) (h0 : Heap) (n0 : Nat) (Z0 : n0 ≤ h0.size) (F_number_a1 : Fld Z h0 a1 "com/example/proration/proration/store/Page" "number" "J" (.long w2)) (F_size_a1 : Fld Z h0 a1 "com/example/proration/proration/store/Page" "size" "I" (.int w4)) (hnz16 : ¬ ((w4.toInt64) = (0 : Int64))) (hc18 : ¬ ((0 : Int32) < (lcmpW (w2 - (1 : Int64)) ((9223372036854775807 : Int64) / (w4.toInt64))))) :
    MetFree l (⟨"com/example/proration/proration/store/Page", "offset", "()J"⟩ : MethodName) (head1 (Jvm.Cond.code (⟨"com/example/proration/proration/store/Page", "offset", "()J"⟩ : MethodName) prog_27_method_3_code 3 (some .long) :: ws) ({ frames := 0, cells := 0, slots := 0, locals := 0 } : Room)) (fun a U => a = #[(.ref a1)] ∧ Z.Warmed39 U.vm ∧ U.heap = h0) (fun _ _ _ _ _ => True) (fun _ U o U' => ∃ v L, o = .returned v ∧ Q4 Z a1 w2 w4 h0 n0 v U'.heap L ∧ FrameEnd U o U' L ({ frames := 0, cells := 0, slots := 0, locals := 0 } : Room).cells ({ frames := 0, cells := 0, slots := 0, locals := 0 } : Room).slots) := by
  refine MetFree.of_bodySF (plainFor_of_name pn_4) hisR ?_
  intro p e s m args below meth c s₁ Bd hml0 hP hK
  obtain ⟨rfl, hZ, hh⟩ := hP
  have hx := Bd.exec
  have hby := Bd.bytes
  have hml : c.maxLocals = 3 := hml0
  have hown : s.vm.findClass "com/example/proration/proration/store/Page" = some m.cls := findClass_of_methodNamed Bd.named
  have hnm := (name_of_methodNamed Bd.named Bd.method).1
  have X0 : Stand p l e ({ frames := 0, cells := 0, slots := 0, locals := 0 } : Room) s m #[(.ref a1)] below meth c s₁ [] 0 0 := Stand.of_body Bd
  have e0 : s₁.heap = h0 := by rw [← hh, Bd.state]; rfl
  have N0 := Fr.nil n0
  have pre0 : ∀ t, Steps p.tables e below (s₁.setTop (mkF m 0 #[.val (.ref a1), .unset, .unset] [])) t → Steps p.tables e below (s₁.setTop (entryFrame m #[(.ref a1)] 3)) t := fun t k => castTop (ef_4 m a1) k
  obtain ⟨T3, X3, e3, st3⟩ := getF X0 hx hZ hown (host := "") (Or.inl (hw _ (List.mem_of_getElem? (i := 15) rfl))) Via.refl e0 F_number_a1 (g := (mkF m 1 #[.val (.ref a1), .unset, .unset] [(.ref a1)])) rfl rfl (hb hby d4_1)
  obtain ⟨T5, X5, e5, st5⟩ := getF X3 hx hZ hown (host := "") (Or.inl (hw _ (List.mem_of_getElem? (i := 17) rfl))) Via.refl e3 F_size_a1 (g := (mkF m 12 #[.val (.ref a1), .val (.long (w2 - (1 : Int64))), .second] [(.ref a1), (.long (9223372036854775807 : Int64)), (.long (w2 - (1 : Int64)))])) rfl rfl (hb hby d4_12)
  obtain ⟨T6, X6, e6, st6⟩ := getF X5 hx hZ hown (host := "") (Or.inl (hw _ (List.mem_of_getElem? (i := 17) rfl))) Via.refl e5 F_size_a1 (g := (mkF m 27 #[.val (.ref a1), .val (.long (w2 - (1 : Int64))), .second] [(.ref a1), (.long (w2 - (1 : Int64)))])) rfl rfl (hb hby d4_27)
  obtain ⟨fs, hr, hrun, hended, hW, hsame⟩ := X6.leave (v := some (.long ((w2 - (1 : Int64)) * (w4.toInt64)))) (fun h => by rw [Bd.returns] at h; cases h)
  refine ⟨_, _, pre0 _ ?_, hrun, hended, _, _, rfl, ?_, ⟨_, rfl⟩, hW, hsame.mono (by decide) (by decide)⟩
  · show Steps p.tables e below (s₁.setTop (mkF m 0 #[.val (.ref a1), .unset, .unset] [])) _
    refine XS.aloadN X0.here hx rfl (hb hby d4_0) rfl rfl ?_
    show Steps p.tables e below (s₁.setTop (mkF m 1 #[.val (.ref a1), .unset, .unset] [(.ref a1)])) _
    refine st3 _ ?_
    show Steps p.tables e below (T3.setTop (mkF m 4 #[.val (.ref a1), .unset, .unset] [(.long w2)])) _
    refine XS.lconst X3.here hx rfl (hb hby d4_4) ?_
    show Steps p.tables e below (T3.setTop (mkF m 5 #[.val (.ref a1), .unset, .unset] [(.long (1 : Int64)), (.long w2)])) _
    refine XS.lsub X3.here hx rfl (hb hby d4_5) rfl ?_
    show Steps p.tables e below (T3.setTop (mkF m 6 #[.val (.ref a1), .unset, .unset] [(.long (w2 - (1 : Int64)))])) _
    refine XS.lstoreN X3.here hx rfl (hb hby d4_6) rfl (l' := #[.val (.ref a1), .val (.long (w2 - (1 : Int64))), .second]) rfl ?_
    show Steps p.tables e below (T3.setTop (mkF m 7 #[.val (.ref a1), .val (.long (w2 - (1 : Int64))), .second] [])) _
    refine XS.lloadN X3.here hx rfl (hb hby d4_7) rfl ?_
    show Steps p.tables e below (T3.setTop (mkF m 8 #[.val (.ref a1), .val (.long (w2 - (1 : Int64))), .second] [(.long (w2 - (1 : Int64)))])) _
    refine X3.ldc2Long hx hown (mvT hZ (hw _ (List.mem_of_getElem? (i := 24) rfl))) (g := (mkF m 8 #[.val (.ref a1), .val (.long (w2 - (1 : Int64))), .second] [(.long (w2 - (1 : Int64)))])) rfl (hb hby d4_8) _ ?_
    show Steps p.tables e below (T3.setTop (mkF m 11 #[.val (.ref a1), .val (.long (w2 - (1 : Int64))), .second] [(.long (9223372036854775807 : Int64)), (.long (w2 - (1 : Int64)))])) _
    refine XS.aloadN X3.here hx rfl (hb hby d4_11) rfl rfl ?_
    show Steps p.tables e below (T3.setTop (mkF m 12 #[.val (.ref a1), .val (.long (w2 - (1 : Int64))), .second] [(.ref a1), (.long (9223372036854775807 : Int64)), (.long (w2 - (1 : Int64)))])) _
    refine st5 _ ?_
    show Steps p.tables e below (T5.setTop (mkF m 15 #[.val (.ref a1), .val (.long (w2 - (1 : Int64))), .second] [(.int w4), (.long (9223372036854775807 : Int64)), (.long (w2 - (1 : Int64)))])) _
    refine XS.i2l X5.here hx rfl (hb hby d4_15) rfl ?_
    show Steps p.tables e below (T5.setTop (mkF m 16 #[.val (.ref a1), .val (.long (w2 - (1 : Int64))), .second] [(.long (w4.toInt64)), (.long (9223372036854775807 : Int64)), (.long (w2 - (1 : Int64)))])) _
    refine XS.ldiv X5.here hx rfl (hb hby d4_16) rfl hnz16 ?_
    show Steps p.tables e below (T5.setTop (mkF m 17 #[.val (.ref a1), .val (.long (w2 - (1 : Int64))), .second] [(.long ((9223372036854775807 : Int64) / (w4.toInt64))), (.long (w2 - (1 : Int64)))])) _
    refine XS.lcmp X5.here hx rfl (hb hby d4_17) rfl ?_
    show Steps p.tables e below (T5.setTop (mkF m 18 #[.val (.ref a1), .val (.long (w2 - (1 : Int64))), .second] [(.int (lcmpW (w2 - (1 : Int64)) ((9223372036854775807 : Int64) / (w4.toInt64))))])) _
    refine XS.ifYes X5.here hx rfl (pc0 := 18) (pc' := 25) rfl (hb hby d4_18) rfl ((if0 _ _).trans (flt hc18).2.2.2) (by decide) (by decide) ?_
    show Steps p.tables e below (T5.setTop (mkF m 25 #[.val (.ref a1), .val (.long (w2 - (1 : Int64))), .second] [])) _
    refine XS.lloadN X5.here hx rfl (hb hby d4_25) rfl ?_
    show Steps p.tables e below (T5.setTop (mkF m 26 #[.val (.ref a1), .val (.long (w2 - (1 : Int64))), .second] [(.long (w2 - (1 : Int64)))])) _
    refine XS.aloadN X5.here hx rfl (hb hby d4_26) rfl rfl ?_
    show Steps p.tables e below (T5.setTop (mkF m 27 #[.val (.ref a1), .val (.long (w2 - (1 : Int64))), .second] [(.ref a1), (.long (w2 - (1 : Int64)))])) _
    refine st6 _ ?_
    show Steps p.tables e below (T6.setTop (mkF m 30 #[.val (.ref a1), .val (.long (w2 - (1 : Int64))), .second] [(.int w4), (.long (w2 - (1 : Int64)))])) _
    refine XS.i2l X6.here hx rfl (hb hby d4_30) rfl ?_
    show Steps p.tables e below (T6.setTop (mkF m 31 #[.val (.ref a1), .val (.long (w2 - (1 : Int64))), .second] [(.long (w4.toInt64)), (.long (w2 - (1 : Int64)))])) _
    refine XS.lmul X6.here hx rfl (hb hby d4_31) rfl ?_
    show Steps p.tables e below (T6.setTop (mkF m 32 #[.val (.ref a1), .val (.long (w2 - (1 : Int64))), .second] [(.long ((w2 - (1 : Int64)) * (w4.toInt64)))])) _
    jvm_step X6.here [X6.here.top, hx, (hb hby d4_32), X6.method', Bd.returns, narrow]
    first | (intro acts; rw [hr _ acts rfl rfl rfl]) | rw [hr _ _ rfl rfl rfl]
    exact Steps.refl _
  · show Q4 Z a1 w2 w4 h0 n0 _ T6.heap _
    rw [e6]
    exact ⟨by rw [own_off, if_neg hc18], N0, rfl⟩
theorem d4_21 : decode prog_27_method_3_code 21 = .ok (.ldc2_w 28, 3) := by decide +kernel
theorem d4_24 : decode prog_27_method_3_code 24 = .ok (.lreturn, 1) := by decide +kernel
set_option maxRecDepth 65536 in
set_option maxHeartbeats 40000000 in
theorem rm4_f (l : Launch) (Z : State) (a0 : Array Value) (hw : ∀ d ∈ tables_1, d.before a0 Z = true) (ws : List Jvm.Cond) (a1 : Addr) (w2 : Int64) (w4 : Int32) (h0 : Heap) (n0 : Nat) (Z0 : n0 ≤ h0.size) (F_number_a1 : Fld Z h0 a1 "com/example/proration/proration/store/Page" "number" "J" (.long w2)) (F_size_a1 : Fld Z h0 a1 "com/example/proration/proration/store/Page" "size" "I" (.int w4)) (hnz16 : ¬ ((w4.toInt64) = (0 : Int64))) (hc18 : (0 : Int32) < (lcmpW (w2 - (1 : Int64)) ((9223372036854775807 : Int64) / (w4.toInt64)))) :
    MetFree l (⟨"com/example/proration/proration/store/Page", "offset", "()J"⟩ : MethodName) (head1 (Jvm.Cond.code (⟨"com/example/proration/proration/store/Page", "offset", "()J"⟩ : MethodName) prog_27_method_3_code 3 (some .long) :: ws) ({ frames := 0, cells := 0, slots := 0, locals := 0 } : Room)) (fun a U => a = #[(.ref a1)] ∧ Z.Warmed39 U.vm ∧ U.heap = h0) (fun _ _ _ _ _ => True) (fun _ U o U' => ∃ v L, o = .returned v ∧ Q4 Z a1 w2 w4 h0 n0 v U'.heap L ∧ FrameEnd U o U' L ({ frames := 0, cells := 0, slots := 0, locals := 0 } : Room).cells ({ frames := 0, cells := 0, slots := 0, locals := 0 } : Room).slots) := by
  refine MetFree.of_bodySF (plainFor_of_name pn_4) hisR ?_
  intro p e s m args below meth c s₁ Bd hml0 hP hK
  obtain ⟨rfl, hZ, hh⟩ := hP
  have hx := Bd.exec
  have hby := Bd.bytes
  have hml : c.maxLocals = 3 := hml0
  have hown : s.vm.findClass "com/example/proration/proration/store/Page" = some m.cls := findClass_of_methodNamed Bd.named
  have hnm := (name_of_methodNamed Bd.named Bd.method).1
  have X0 : Stand p l e ({ frames := 0, cells := 0, slots := 0, locals := 0 } : Room) s m #[(.ref a1)] below meth c s₁ [] 0 0 := Stand.of_body Bd
  have e0 : s₁.heap = h0 := by rw [← hh, Bd.state]; rfl
  have N0 := Fr.nil n0
  have pre0 : ∀ t, Steps p.tables e below (s₁.setTop (mkF m 0 #[.val (.ref a1), .unset, .unset] [])) t → Steps p.tables e below (s₁.setTop (entryFrame m #[(.ref a1)] 3)) t := fun t k => castTop (ef_4 m a1) k
  obtain ⟨T3, X3, e3, st3⟩ := getF X0 hx hZ hown (host := "") (Or.inl (hw _ (List.mem_of_getElem? (i := 15) rfl))) Via.refl e0 F_number_a1 (g := (mkF m 1 #[.val (.ref a1), .unset, .unset] [(.ref a1)])) rfl rfl (hb hby d4_1)
  obtain ⟨T5, X5, e5, st5⟩ := getF X3 hx hZ hown (host := "") (Or.inl (hw _ (List.mem_of_getElem? (i := 17) rfl))) Via.refl e3 F_size_a1 (g := (mkF m 12 #[.val (.ref a1), .val (.long (w2 - (1 : Int64))), .second] [(.ref a1), (.long (9223372036854775807 : Int64)), (.long (w2 - (1 : Int64)))])) rfl rfl (hb hby d4_12)
  obtain ⟨fs, hr, hrun, hended, hW, hsame⟩ := X5.leave (v := some (.long (9223372036854775807 : Int64))) (fun h => by rw [Bd.returns] at h; cases h)
  refine ⟨_, _, pre0 _ ?_, hrun, hended, _, _, rfl, ?_, ⟨_, rfl⟩, hW, hsame.mono (by decide) (by decide)⟩
  · show Steps p.tables e below (s₁.setTop (mkF m 0 #[.val (.ref a1), .unset, .unset] [])) _
    refine XS.aloadN X0.here hx rfl (hb hby d4_0) rfl rfl ?_
    show Steps p.tables e below (s₁.setTop (mkF m 1 #[.val (.ref a1), .unset, .unset] [(.ref a1)])) _
    refine st3 _ ?_
    show Steps p.tables e below (T3.setTop (mkF m 4 #[.val (.ref a1), .unset, .unset] [(.long w2)])) _
    refine XS.lconst X3.here hx rfl (hb hby d4_4) ?_
    show Steps p.tables e below (T3.setTop (mkF m 5 #[.val (.ref a1), .unset, .unset] [(.long (1 : Int64)), (.long w2)])) _
    refine XS.lsub X3.here hx rfl (hb hby d4_5) rfl ?_
    show Steps p.tables e below (T3.setTop (mkF m 6 #[.val (.ref a1), .unset, .unset] [(.long (w2 - (1 : Int64)))])) _
    refine XS.lstoreN X3.here hx rfl (hb hby d4_6) rfl (l' := #[.val (.ref a1), .val (.long (w2 - (1 : Int64))), .second]) rfl ?_
    show Steps p.tables e below (T3.setTop (mkF m 7 #[.val (.ref a1), .val (.long (w2 - (1 : Int64))), .second] [])) _
    refine XS.lloadN X3.here hx rfl (hb hby d4_7) rfl ?_
    show Steps p.tables e below (T3.setTop (mkF m 8 #[.val (.ref a1), .val (.long (w2 - (1 : Int64))), .second] [(.long (w2 - (1 : Int64)))])) _
    refine X3.ldc2Long hx hown (mvT hZ (hw _ (List.mem_of_getElem? (i := 24) rfl))) (g := (mkF m 8 #[.val (.ref a1), .val (.long (w2 - (1 : Int64))), .second] [(.long (w2 - (1 : Int64)))])) rfl (hb hby d4_8) _ ?_
    show Steps p.tables e below (T3.setTop (mkF m 11 #[.val (.ref a1), .val (.long (w2 - (1 : Int64))), .second] [(.long (9223372036854775807 : Int64)), (.long (w2 - (1 : Int64)))])) _
    refine XS.aloadN X3.here hx rfl (hb hby d4_11) rfl rfl ?_
    show Steps p.tables e below (T3.setTop (mkF m 12 #[.val (.ref a1), .val (.long (w2 - (1 : Int64))), .second] [(.ref a1), (.long (9223372036854775807 : Int64)), (.long (w2 - (1 : Int64)))])) _
    refine st5 _ ?_
    show Steps p.tables e below (T5.setTop (mkF m 15 #[.val (.ref a1), .val (.long (w2 - (1 : Int64))), .second] [(.int w4), (.long (9223372036854775807 : Int64)), (.long (w2 - (1 : Int64)))])) _
    refine XS.i2l X5.here hx rfl (hb hby d4_15) rfl ?_
    show Steps p.tables e below (T5.setTop (mkF m 16 #[.val (.ref a1), .val (.long (w2 - (1 : Int64))), .second] [(.long (w4.toInt64)), (.long (9223372036854775807 : Int64)), (.long (w2 - (1 : Int64)))])) _
    refine XS.ldiv X5.here hx rfl (hb hby d4_16) rfl hnz16 ?_
    show Steps p.tables e below (T5.setTop (mkF m 17 #[.val (.ref a1), .val (.long (w2 - (1 : Int64))), .second] [(.long ((9223372036854775807 : Int64) / (w4.toInt64))), (.long (w2 - (1 : Int64)))])) _
    refine XS.lcmp X5.here hx rfl (hb hby d4_17) rfl ?_
    show Steps p.tables e below (T5.setTop (mkF m 18 #[.val (.ref a1), .val (.long (w2 - (1 : Int64))), .second] [(.int (lcmpW (w2 - (1 : Int64)) ((9223372036854775807 : Int64) / (w4.toInt64))))])) _
    refine XS.ifNo X5.here hx rfl (hb hby d4_18) rfl ((if0 _ _).trans (tlt hc18).2.2.2) ?_
    show Steps p.tables e below (T5.setTop (mkF m 21 #[.val (.ref a1), .val (.long (w2 - (1 : Int64))), .second] [])) _
    refine X5.ldc2Long hx hown (mvT hZ (hw _ (List.mem_of_getElem? (i := 24) rfl))) (g := (mkF m 21 #[.val (.ref a1), .val (.long (w2 - (1 : Int64))), .second] [])) rfl (hb hby d4_21) _ ?_
    show Steps p.tables e below (T5.setTop (mkF m 24 #[.val (.ref a1), .val (.long (w2 - (1 : Int64))), .second] [(.long (9223372036854775807 : Int64))])) _
    jvm_step X5.here [X5.here.top, hx, (hb hby d4_24), X5.method', Bd.returns, narrow]
    first | (intro acts; rw [hr _ acts rfl rfl rfl]) | rw [hr _ _ rfl rfl rfl]
    exact Steps.refl _
  · show Q4 Z a1 w2 w4 h0 n0 _ T5.heap _
    rw [e5]
    exact ⟨by rw [own_off, if_pos hc18], N0, rfl⟩
theorem rm4 (l : Launch) (Z : State) (a0 : Array Value) (hw : ∀ d ∈ tables_1, d.before a0 Z = true) (ws : List Jvm.Cond) (a1 : Addr) (w2 : Int64) (w4 : Int32) (h0 : Heap) (n0 : Nat) (Z0 : n0 ≤ h0.size) (F_number_a1 : Fld Z h0 a1 "com/example/proration/proration/store/Page" "number" "J" (.long w2)) (F_size_a1 : Fld Z h0 a1 "com/example/proration/proration/store/Page" "size" "I" (.int w4)) (hnz16 : ¬ ((w4.toInt64) = (0 : Int64))) :
    MetFree l (⟨"com/example/proration/proration/store/Page", "offset", "()J"⟩ : MethodName) (head1 (Jvm.Cond.code (⟨"com/example/proration/proration/store/Page", "offset", "()J"⟩ : MethodName) prog_27_method_3_code 3 (some .long) :: ws) ({ frames := 0, cells := 0, slots := 0, locals := 0 } : Room)) (fun a U => a = #[(.ref a1)] ∧ Z.Warmed39 U.vm ∧ U.heap = h0) (fun _ _ _ _ _ => True) (fun _ U o U' => ∃ v L, o = .returned v ∧ Q4 Z a1 w2 w4 h0 n0 v U'.heap L ∧ FrameEnd U o U' L ({ frames := 0, cells := 0, slots := 0, locals := 0 } : Room).cells ({ frames := 0, cells := 0, slots := 0, locals := 0 } : Room).slots) := by
  by_cases hc : (0 : Int32) < (lcmpW (w2 - (1 : Int64)) ((9223372036854775807 : Int64) / (w4.toInt64)))
  · exact rm4_f l Z a0 hw ws a1 w2 w4 h0 n0 Z0 F_number_a1 F_size_a1 hnz16 hc
  · exact rm4_t l Z a0 hw ws a1 w2 w4 h0 n0 Z0 F_number_a1 F_size_a1 hnz16 hc
theorem d5_0 : decode prog_27_method_2_code 0 = .ok (.aload_n 0, 1) := by decide +kernel
theorem d5_1 : decode prog_27_method_2_code 1 = .ok (.getfield 22, 3) := by decide +kernel
theorem d5_4 : decode prog_27_method_2_code 4 = .ok (.ireturn, 1) := by decide +kernel
theorem pn_5 : plainName "com/example/proration/proration/store/Page" = true := by first | (simp [plainName, overriddenIn]; done) | decide +kernel
theorem ef_5 (m : MethodId) (x0 : Addr) : entryFrame m #[(.ref x0)] 1 = mkF m 0 #[.val (.ref x0)] [] := by first | (simp [entryFrame, mkF, argsToLocals, Value.category]; done) | rfl
def Q5 (Z : State) (a1 : Addr) (w2 : Int32) (h0 : Heap) (n0 : Nat) (v : Option Value) (h : Heap) (L : List Loc) : Prop := v = some (.int w2) ∧ Fr n0 L ∧ h = h0
set_option maxRecDepth 65536 in
set_option maxHeartbeats 40000000 in
theorem rm5 (l : Launch) (Z : State) (a0 : Array Value) (hw : ∀ d ∈ tables_1, d.before a0 Z = true) (ws : List Jvm.Cond) (a1 : Addr) (w2 : Int32) (h0 : Heap) (n0 : Nat) (Z0 : n0 ≤ h0.size) (F_size_a1 : Fld Z h0 a1 "com/example/proration/proration/store/Page" "size" "I" (.int w2)) :
    MetFree l (⟨"com/example/proration/proration/store/Page", "size", "()I"⟩ : MethodName) (head1 (Jvm.Cond.code (⟨"com/example/proration/proration/store/Page", "size", "()I"⟩ : MethodName) prog_27_method_2_code 1 (some .int) :: ws) ({ frames := 0, cells := 0, slots := 0, locals := 0 } : Room)) (fun a U => a = #[(.ref a1)] ∧ Z.Warmed39 U.vm ∧ U.heap = h0) (fun _ _ _ _ _ => True) (fun _ U o U' => ∃ v L, o = .returned v ∧ Q5 Z a1 w2 h0 n0 v U'.heap L ∧ FrameEnd U o U' L ({ frames := 0, cells := 0, slots := 0, locals := 0 } : Room).cells ({ frames := 0, cells := 0, slots := 0, locals := 0 } : Room).slots) := by
  refine MetFree.of_bodySF (plainFor_of_name pn_5) hisR ?_
  intro p e s m args below meth c s₁ Bd hml0 hP hK
  obtain ⟨rfl, hZ, hh⟩ := hP
  have hx := Bd.exec
  have hby := Bd.bytes
  have hml : c.maxLocals = 1 := hml0
  have hown : s.vm.findClass "com/example/proration/proration/store/Page" = some m.cls := findClass_of_methodNamed Bd.named
  have hnm := (name_of_methodNamed Bd.named Bd.method).1
  have X0 : Stand p l e ({ frames := 0, cells := 0, slots := 0, locals := 0 } : Room) s m #[(.ref a1)] below meth c s₁ [] 0 0 := Stand.of_body Bd
  have e0 : s₁.heap = h0 := by rw [← hh, Bd.state]; rfl
  have N0 := Fr.nil n0
  have pre0 : ∀ t, Steps p.tables e below (s₁.setTop (mkF m 0 #[.val (.ref a1)] [])) t → Steps p.tables e below (s₁.setTop (entryFrame m #[(.ref a1)] 1)) t := fun t k => castTop (ef_5 m a1) k
  obtain ⟨T3, X3, e3, st3⟩ := getF X0 hx hZ hown (host := "") (Or.inl (hw _ (List.mem_of_getElem? (i := 17) rfl))) Via.refl e0 F_size_a1 (g := (mkF m 1 #[.val (.ref a1)] [(.ref a1)])) rfl rfl (hb hby d5_1)
  obtain ⟨fs, hr, hrun, hended, hW, hsame⟩ := X3.leave (v := some (.int w2)) (fun h => by rw [Bd.returns] at h; cases h)
  refine ⟨_, _, pre0 _ ?_, hrun, hended, _, _, rfl, ?_, ⟨_, rfl⟩, hW, hsame.mono (by decide) (by decide)⟩
  · show Steps p.tables e below (s₁.setTop (mkF m 0 #[.val (.ref a1)] [])) _
    refine XS.aloadN X0.here hx rfl (hb hby d5_0) rfl rfl ?_
    show Steps p.tables e below (s₁.setTop (mkF m 1 #[.val (.ref a1)] [(.ref a1)])) _
    refine st3 _ ?_
    show Steps p.tables e below (T3.setTop (mkF m 4 #[.val (.ref a1)] [(.int w2)])) _
    exact retI X3 hx Bd.returns (hb hby d5_4) hr
  · show Q5 Z a1 w2 h0 n0 _ T3.heap _
    rw [e3]
    exact ⟨rfl, N0, rfl⟩
set_option maxRecDepth 65536 in
set_option maxHeartbeats 40000000 in
theorem own_f1_t {p : Program} {l : Launch} {e : Env} {R : Room} {s : State} {m : MethodId} {args : Array Value} {below : List Frame} {meth : Method} {c : Code} {T0 : State} {locs : List Loc} {cells slots : Nat} {Z : State} {a0 : Array Value} {s0 : Slot} {s1 : Slot} {s2 : Slot} {s3 : Slot} {s4 : Slot} {s5 : Slot} {s6 : Slot} {s7 : Slot} {s8 : Slot} {s9 : Slot} {s10 : Slot} {s11 : Slot} {s12 : Slot} {j13 : Int64} {s15 : Slot} {s16 : Slot} {s17 : Slot}
    (X0 : Stand p l e R s m args below meth c T0 locs cells slots) (hx : p.tables.exec = Jvm.exec) (hZ : Z.Warmed39 s.vm) (hw : ∀ d ∈ tables_1, d.before a0 Z = true) (hby : c.code = code) (hml : c.maxLocals = 18) (hown : s.vm.findClass "com/example/proration/proration/store/PageOffsetPinLaw" = some m.cls) (hc101 : (lcmpW j13 (0 : Int64)) < (0 : Int32)) :
      ∀ target, Steps p.tables e below (T0.setTop (mkF m 121 #[s0, s1, s2, s3, s4, s5, s6, s7, s8, s9, s10, s11, s12, .val (.long j13), .second, s15, s16, s17] [(.int (0 : Int32))])) target → Steps p.tables e below (T0.setTop (mkF m 97 #[s0, s1, s2, s3, s4, s5, s6, s7, s8, s9, s10, s11, s12, .val (.long j13), .second, s15, s16, s17] [])) target := by

  intro target kt
  show Steps p.tables e below (T0.setTop (mkF m 97 #[s0, s1, s2, s3, s4, s5, s6, s7, s8, s9, s10, s11, s12, .val (.long j13), .second, s15, s16, s17] [])) _
  refine XS.lload X0.here hx rfl (hb hby at_97) rfl ?_
  show Steps p.tables e below (T0.setTop (mkF m 99 #[s0, s1, s2, s3, s4, s5, s6, s7, s8, s9, s10, s11, s12, .val (.long j13), .second, s15, s16, s17] [(.long j13)])) _
  refine XS.lconst X0.here hx rfl (hb hby at_99) ?_
  show Steps p.tables e below (T0.setTop (mkF m 100 #[s0, s1, s2, s3, s4, s5, s6, s7, s8, s9, s10, s11, s12, .val (.long j13), .second, s15, s16, s17] [(.long (0 : Int64)), (.long j13)])) _
  refine XS.lcmp X0.here hx rfl (hb hby at_100) rfl ?_
  show Steps p.tables e below (T0.setTop (mkF m 101 #[s0, s1, s2, s3, s4, s5, s6, s7, s8, s9, s10, s11, s12, .val (.long j13), .second, s15, s16, s17] [(.int (lcmpW j13 (0 : Int64)))])) _
  refine XS.ifYes X0.here hx rfl (pc0 := 101) (pc' := 120) rfl (hb hby at_101) rfl ((if0 _ _).trans (tlt hc101).1) (by decide) (by decide) ?_
  show Steps p.tables e below (T0.setTop (mkF m 120 #[s0, s1, s2, s3, s4, s5, s6, s7, s8, s9, s10, s11, s12, .val (.long j13), .second, s15, s16, s17] [])) _
  refine XS.iconst X0.here hx rfl (hb hby at_120) ?_
  exact kt
set_option maxRecDepth 65536 in
set_option maxHeartbeats 40000000 in
theorem own_f1_ft {p : Program} {l : Launch} {e : Env} {R : Room} {s : State} {m : MethodId} {args : Array Value} {below : List Frame} {meth : Method} {c : Code} {T0 : State} {locs : List Loc} {cells slots : Nat} {Z : State} {a0 : Array Value} {s0 : Slot} {s1 : Slot} {s2 : Slot} {s3 : Slot} {s4 : Slot} {i5 : Int32} {s6 : Slot} {s7 : Slot} {s8 : Slot} {s9 : Slot} {s10 : Slot} {j11 : Int64} {j13 : Int64} {s15 : Slot} {s16 : Slot} {s17 : Slot}
    (X0 : Stand p l e R s m args below meth c T0 locs cells slots) (hx : p.tables.exec = Jvm.exec) (hZ : Z.Warmed39 s.vm) (hw : ∀ d ∈ tables_1, d.before a0 Z = true) (hby : c.code = code) (hml : c.maxLocals = 18) (hown : s.vm.findClass "com/example/proration/proration/store/PageOffsetPinLaw" = some m.cls) (hc101 : ¬ ((lcmpW j13 (0 : Int64)) < (0 : Int32))) (hnz109 : ¬ ((i5.toInt64) = (0 : Int64))) (hc113 : ¬ ((lcmpW (j13 / (i5.toInt64)) j11) = (0 : Int32))) :
      ∀ target, Steps p.tables e below (T0.setTop (mkF m 121 #[s0, s1, s2, s3, s4, .val (.int i5), s6, s7, s8, s9, s10, .val (.long j11), .second, .val (.long j13), .second, s15, s16, s17] [(.int (0 : Int32))])) target → Steps p.tables e below (T0.setTop (mkF m 97 #[s0, s1, s2, s3, s4, .val (.int i5), s6, s7, s8, s9, s10, .val (.long j11), .second, .val (.long j13), .second, s15, s16, s17] [])) target := by

  intro target kt
  show Steps p.tables e below (T0.setTop (mkF m 97 #[s0, s1, s2, s3, s4, .val (.int i5), s6, s7, s8, s9, s10, .val (.long j11), .second, .val (.long j13), .second, s15, s16, s17] [])) _
  refine XS.lload X0.here hx rfl (hb hby at_97) rfl ?_
  show Steps p.tables e below (T0.setTop (mkF m 99 #[s0, s1, s2, s3, s4, .val (.int i5), s6, s7, s8, s9, s10, .val (.long j11), .second, .val (.long j13), .second, s15, s16, s17] [(.long j13)])) _
  refine XS.lconst X0.here hx rfl (hb hby at_99) ?_
  show Steps p.tables e below (T0.setTop (mkF m 100 #[s0, s1, s2, s3, s4, .val (.int i5), s6, s7, s8, s9, s10, .val (.long j11), .second, .val (.long j13), .second, s15, s16, s17] [(.long (0 : Int64)), (.long j13)])) _
  refine XS.lcmp X0.here hx rfl (hb hby at_100) rfl ?_
  show Steps p.tables e below (T0.setTop (mkF m 101 #[s0, s1, s2, s3, s4, .val (.int i5), s6, s7, s8, s9, s10, .val (.long j11), .second, .val (.long j13), .second, s15, s16, s17] [(.int (lcmpW j13 (0 : Int64)))])) _
  refine XS.ifNo X0.here hx rfl (hb hby at_101) rfl ((if0 _ _).trans (flt hc101).1) ?_
  show Steps p.tables e below (T0.setTop (mkF m 104 #[s0, s1, s2, s3, s4, .val (.int i5), s6, s7, s8, s9, s10, .val (.long j11), .second, .val (.long j13), .second, s15, s16, s17] [])) _
  refine XS.lload X0.here hx rfl (hb hby at_104) rfl ?_
  show Steps p.tables e below (T0.setTop (mkF m 106 #[s0, s1, s2, s3, s4, .val (.int i5), s6, s7, s8, s9, s10, .val (.long j11), .second, .val (.long j13), .second, s15, s16, s17] [(.long j13)])) _
  refine XS.iload X0.here hx rfl (hb hby at_106) rfl ?_
  show Steps p.tables e below (T0.setTop (mkF m 108 #[s0, s1, s2, s3, s4, .val (.int i5), s6, s7, s8, s9, s10, .val (.long j11), .second, .val (.long j13), .second, s15, s16, s17] [(.int i5), (.long j13)])) _
  refine XS.i2l X0.here hx rfl (hb hby at_108) rfl ?_
  show Steps p.tables e below (T0.setTop (mkF m 109 #[s0, s1, s2, s3, s4, .val (.int i5), s6, s7, s8, s9, s10, .val (.long j11), .second, .val (.long j13), .second, s15, s16, s17] [(.long (i5.toInt64)), (.long j13)])) _
  refine XS.ldiv X0.here hx rfl (hb hby at_109) rfl hnz109 ?_
  show Steps p.tables e below (T0.setTop (mkF m 110 #[s0, s1, s2, s3, s4, .val (.int i5), s6, s7, s8, s9, s10, .val (.long j11), .second, .val (.long j13), .second, s15, s16, s17] [(.long (j13 / (i5.toInt64)))])) _
  refine XS.lload X0.here hx rfl (hb hby at_110) rfl ?_
  show Steps p.tables e below (T0.setTop (mkF m 112 #[s0, s1, s2, s3, s4, .val (.int i5), s6, s7, s8, s9, s10, .val (.long j11), .second, .val (.long j13), .second, s15, s16, s17] [(.long j11), (.long (j13 / (i5.toInt64)))])) _
  refine XS.lcmp X0.here hx rfl (hb hby at_112) rfl ?_
  show Steps p.tables e below (T0.setTop (mkF m 113 #[s0, s1, s2, s3, s4, .val (.int i5), s6, s7, s8, s9, s10, .val (.long j11), .second, .val (.long j13), .second, s15, s16, s17] [(.int (lcmpW (j13 / (i5.toInt64)) j11))])) _
  refine XS.ifYes X0.here hx rfl (pc0 := 113) (pc' := 120) rfl (hb hby at_113) rfl ((if0 _ _).trans (feq hc113).2) (by decide) (by decide) ?_
  show Steps p.tables e below (T0.setTop (mkF m 120 #[s0, s1, s2, s3, s4, .val (.int i5), s6, s7, s8, s9, s10, .val (.long j11), .second, .val (.long j13), .second, s15, s16, s17] [])) _
  refine XS.iconst X0.here hx rfl (hb hby at_120) ?_
  exact kt
set_option maxRecDepth 65536 in
set_option maxHeartbeats 40000000 in
theorem own_f1_ff {p : Program} {l : Launch} {e : Env} {R : Room} {s : State} {m : MethodId} {args : Array Value} {below : List Frame} {meth : Method} {c : Code} {T0 : State} {locs : List Loc} {cells slots : Nat} {Z : State} {a0 : Array Value} {s0 : Slot} {s1 : Slot} {s2 : Slot} {s3 : Slot} {s4 : Slot} {i5 : Int32} {s6 : Slot} {s7 : Slot} {s8 : Slot} {s9 : Slot} {s10 : Slot} {j11 : Int64} {j13 : Int64} {s15 : Slot} {s16 : Slot} {s17 : Slot}
    (X0 : Stand p l e R s m args below meth c T0 locs cells slots) (hx : p.tables.exec = Jvm.exec) (hZ : Z.Warmed39 s.vm) (hw : ∀ d ∈ tables_1, d.before a0 Z = true) (hby : c.code = code) (hml : c.maxLocals = 18) (hown : s.vm.findClass "com/example/proration/proration/store/PageOffsetPinLaw" = some m.cls) (hc101 : ¬ ((lcmpW j13 (0 : Int64)) < (0 : Int32))) (hnz109 : ¬ ((i5.toInt64) = (0 : Int64))) (hc113 : (lcmpW (j13 / (i5.toInt64)) j11) = (0 : Int32)) :
      ∀ target, Steps p.tables e below (T0.setTop (mkF m 121 #[s0, s1, s2, s3, s4, .val (.int i5), s6, s7, s8, s9, s10, .val (.long j11), .second, .val (.long j13), .second, s15, s16, s17] [(.int (1 : Int32))])) target → Steps p.tables e below (T0.setTop (mkF m 97 #[s0, s1, s2, s3, s4, .val (.int i5), s6, s7, s8, s9, s10, .val (.long j11), .second, .val (.long j13), .second, s15, s16, s17] [])) target := by

  intro target kt
  show Steps p.tables e below (T0.setTop (mkF m 97 #[s0, s1, s2, s3, s4, .val (.int i5), s6, s7, s8, s9, s10, .val (.long j11), .second, .val (.long j13), .second, s15, s16, s17] [])) _
  refine XS.lload X0.here hx rfl (hb hby at_97) rfl ?_
  show Steps p.tables e below (T0.setTop (mkF m 99 #[s0, s1, s2, s3, s4, .val (.int i5), s6, s7, s8, s9, s10, .val (.long j11), .second, .val (.long j13), .second, s15, s16, s17] [(.long j13)])) _
  refine XS.lconst X0.here hx rfl (hb hby at_99) ?_
  show Steps p.tables e below (T0.setTop (mkF m 100 #[s0, s1, s2, s3, s4, .val (.int i5), s6, s7, s8, s9, s10, .val (.long j11), .second, .val (.long j13), .second, s15, s16, s17] [(.long (0 : Int64)), (.long j13)])) _
  refine XS.lcmp X0.here hx rfl (hb hby at_100) rfl ?_
  show Steps p.tables e below (T0.setTop (mkF m 101 #[s0, s1, s2, s3, s4, .val (.int i5), s6, s7, s8, s9, s10, .val (.long j11), .second, .val (.long j13), .second, s15, s16, s17] [(.int (lcmpW j13 (0 : Int64)))])) _
  refine XS.ifNo X0.here hx rfl (hb hby at_101) rfl ((if0 _ _).trans (flt hc101).1) ?_
  show Steps p.tables e below (T0.setTop (mkF m 104 #[s0, s1, s2, s3, s4, .val (.int i5), s6, s7, s8, s9, s10, .val (.long j11), .second, .val (.long j13), .second, s15, s16, s17] [])) _
  refine XS.lload X0.here hx rfl (hb hby at_104) rfl ?_
  show Steps p.tables e below (T0.setTop (mkF m 106 #[s0, s1, s2, s3, s4, .val (.int i5), s6, s7, s8, s9, s10, .val (.long j11), .second, .val (.long j13), .second, s15, s16, s17] [(.long j13)])) _
  refine XS.iload X0.here hx rfl (hb hby at_106) rfl ?_
  show Steps p.tables e below (T0.setTop (mkF m 108 #[s0, s1, s2, s3, s4, .val (.int i5), s6, s7, s8, s9, s10, .val (.long j11), .second, .val (.long j13), .second, s15, s16, s17] [(.int i5), (.long j13)])) _
  refine XS.i2l X0.here hx rfl (hb hby at_108) rfl ?_
  show Steps p.tables e below (T0.setTop (mkF m 109 #[s0, s1, s2, s3, s4, .val (.int i5), s6, s7, s8, s9, s10, .val (.long j11), .second, .val (.long j13), .second, s15, s16, s17] [(.long (i5.toInt64)), (.long j13)])) _
  refine XS.ldiv X0.here hx rfl (hb hby at_109) rfl hnz109 ?_
  show Steps p.tables e below (T0.setTop (mkF m 110 #[s0, s1, s2, s3, s4, .val (.int i5), s6, s7, s8, s9, s10, .val (.long j11), .second, .val (.long j13), .second, s15, s16, s17] [(.long (j13 / (i5.toInt64)))])) _
  refine XS.lload X0.here hx rfl (hb hby at_110) rfl ?_
  show Steps p.tables e below (T0.setTop (mkF m 112 #[s0, s1, s2, s3, s4, .val (.int i5), s6, s7, s8, s9, s10, .val (.long j11), .second, .val (.long j13), .second, s15, s16, s17] [(.long j11), (.long (j13 / (i5.toInt64)))])) _
  refine XS.lcmp X0.here hx rfl (hb hby at_112) rfl ?_
  show Steps p.tables e below (T0.setTop (mkF m 113 #[s0, s1, s2, s3, s4, .val (.int i5), s6, s7, s8, s9, s10, .val (.long j11), .second, .val (.long j13), .second, s15, s16, s17] [(.int (lcmpW (j13 / (i5.toInt64)) j11))])) _
  refine XS.ifNo X0.here hx rfl (hb hby at_113) rfl ((if0 _ _).trans (teq hc113).2) ?_
  show Steps p.tables e below (T0.setTop (mkF m 116 #[s0, s1, s2, s3, s4, .val (.int i5), s6, s7, s8, s9, s10, .val (.long j11), .second, .val (.long j13), .second, s15, s16, s17] [])) _
  refine XS.iconst X0.here hx rfl (hb hby at_116) ?_
  show Steps p.tables e below (T0.setTop (mkF m 117 #[s0, s1, s2, s3, s4, .val (.int i5), s6, s7, s8, s9, s10, .val (.long j11), .second, .val (.long j13), .second, s15, s16, s17] [(.int (1 : Int32))])) _
  refine XS.goto X0.here hx rfl (pc0 := 117) (pc' := 121) rfl (hb hby at_117) (by decide) (by decide) ?_
  exact kt
def own_fit (i5 : Int32) (j11 : Int64) (j13 : Int64) : Int32 := (if (lcmpW j13 (0 : Int64)) < (0 : Int32) then (0 : Int32) else (if (lcmpW (j13 / (i5.toInt64)) j11) = (0 : Int32) then (1 : Int32) else (0 : Int32)))
set_option maxRecDepth 65536 in
set_option maxHeartbeats 40000000 in
theorem own_f1 {p : Program} {l : Launch} {e : Env} {R : Room} {s : State} {m : MethodId} {args : Array Value} {below : List Frame} {meth : Method} {c : Code} {T0 : State} {locs : List Loc} {cells slots : Nat} {Z : State} {a0 : Array Value} {s0 : Slot} {s1 : Slot} {s2 : Slot} {s3 : Slot} {s4 : Slot} {s6 : Slot} {s7 : Slot} {s8 : Slot} {s9 : Slot} {s10 : Slot} {s15 : Slot} {s16 : Slot} {s17 : Slot} {i5 : Int32} {j11 : Int64} {j13 : Int64}
    (X0 : Stand p l e R s m args below meth c T0 locs cells slots) (hx : p.tables.exec = Jvm.exec) (hZ : Z.Warmed39 s.vm) (hw : ∀ d ∈ tables_1, d.before a0 Z = true) (hby : c.code = code) (hml : c.maxLocals = 18) (hown : s.vm.findClass "com/example/proration/proration/store/PageOffsetPinLaw" = some m.cls) (hnz109 : ¬ ((i5.toInt64) = (0 : Int64))) :
      ∀ target, Steps p.tables e below (T0.setTop (mkF m 121 #[s0, s1, s2, s3, s4, .val (.int i5), s6, s7, s8, s9, s10, .val (.long j11), .second, .val (.long j13), .second, s15, s16, s17] [(.int (own_fit i5 j11 j13))])) target → Steps p.tables e below (T0.setTop (mkF m 97 #[s0, s1, s2, s3, s4, .val (.int i5), s6, s7, s8, s9, s10, .val (.long j11), .second, .val (.long j13), .second, s15, s16, s17] [])) target := by
  intro target kt
  rw [own_fit] at kt
  by_cases hc101 : (lcmpW j13 (0 : Int64)) < (0 : Int32)
  · rw [if_pos hc101] at kt
    exact own_f1_t X0 hx hZ hw hby hml hown hc101 target kt
  · rw [if_neg hc101] at kt
    by_cases hc113 : (lcmpW (j13 / (i5.toInt64)) j11) = (0 : Int32)
    · rw [if_pos hc113] at kt
      exact own_f1_ff X0 hx hZ hw hby hml hown hc101 hnz109 hc113 target kt
    · rw [if_neg hc113] at kt
      exact own_f1_ft X0 hx hZ hw hby hml hown hc101 hnz109 hc113 target kt
set_option maxRecDepth 65536 in
set_option maxHeartbeats 40000000 in
theorem own_f2_t {p : Program} {l : Launch} {e : Env} {R : Room} {s : State} {m : MethodId} {args : Array Value} {below : List Frame} {meth : Method} {c : Code} {T0 : State} {locs : List Loc} {cells slots : Nat} {Z : State} {a0 : Array Value} {s0 : Slot} {s1 : Slot} {s2 : Slot} {s3 : Slot} {s4 : Slot} {s5 : Slot} {s6 : Slot} {s7 : Slot} {s8 : Slot} {s9 : Slot} {s10 : Slot} {s11 : Slot} {s12 : Slot} {s13 : Slot} {s14 : Slot} {i15 : Int32} {s16 : Slot} {s17 : Slot}
    (X0 : Stand p l e R s m args below meth c T0 locs cells slots) (hx : p.tables.exec = Jvm.exec) (hZ : Z.Warmed39 s.vm) (hw : ∀ d ∈ tables_1, d.before a0 Z = true) (hby : c.code = code) (hml : c.maxLocals = 18) (hown : s.vm.findClass "com/example/proration/proration/store/PageOffsetPinLaw" = some m.cls) (hc125 : i15 = (0 : Int32)) :
      ∀ target, Steps p.tables e below (T0.setTop (mkF m 136 #[s0, s1, s2, s3, s4, s5, s6, s7, s8, s9, s10, s11, s12, s13, s14, .val (.int i15), s16, s17] [(.long (9223372036854775807 : Int64))])) target → Steps p.tables e below (T0.setTop (mkF m 123 #[s0, s1, s2, s3, s4, s5, s6, s7, s8, s9, s10, s11, s12, s13, s14, .val (.int i15), s16, s17] [])) target := by

  intro target kt
  show Steps p.tables e below (T0.setTop (mkF m 123 #[s0, s1, s2, s3, s4, s5, s6, s7, s8, s9, s10, s11, s12, s13, s14, .val (.int i15), s16, s17] [])) _
  refine XS.iload X0.here hx rfl (hb hby at_123) rfl ?_
  show Steps p.tables e below (T0.setTop (mkF m 125 #[s0, s1, s2, s3, s4, s5, s6, s7, s8, s9, s10, s11, s12, s13, s14, .val (.int i15), s16, s17] [(.int i15)])) _
  refine XS.ifYes X0.here hx rfl (pc0 := 125) (pc' := 133) rfl (hb hby at_125) rfl ((if0 _ _).trans (teq hc125).1) (by decide) (by decide) ?_
  show Steps p.tables e below (T0.setTop (mkF m 133 #[s0, s1, s2, s3, s4, s5, s6, s7, s8, s9, s10, s11, s12, s13, s14, .val (.int i15), s16, s17] [])) _
  refine X0.ldc2Long hx hown (mvT hZ (hw _ (List.mem_of_getElem? (i := 5) rfl))) (g := (mkF m 133 #[s0, s1, s2, s3, s4, s5, s6, s7, s8, s9, s10, s11, s12, s13, s14, .val (.int i15), s16, s17] [])) rfl (hb hby at_133) _ ?_
  exact kt
set_option maxRecDepth 65536 in
set_option maxHeartbeats 40000000 in
theorem own_f2_f {p : Program} {l : Launch} {e : Env} {R : Room} {s : State} {m : MethodId} {args : Array Value} {below : List Frame} {meth : Method} {c : Code} {T0 : State} {locs : List Loc} {cells slots : Nat} {Z : State} {a0 : Array Value} {s0 : Slot} {s1 : Slot} {s2 : Slot} {s3 : Slot} {s4 : Slot} {s5 : Slot} {s6 : Slot} {s7 : Slot} {s8 : Slot} {s9 : Slot} {s10 : Slot} {s11 : Slot} {s12 : Slot} {j13 : Int64} {i15 : Int32} {s16 : Slot} {s17 : Slot}
    (X0 : Stand p l e R s m args below meth c T0 locs cells slots) (hx : p.tables.exec = Jvm.exec) (hZ : Z.Warmed39 s.vm) (hw : ∀ d ∈ tables_1, d.before a0 Z = true) (hby : c.code = code) (hml : c.maxLocals = 18) (hown : s.vm.findClass "com/example/proration/proration/store/PageOffsetPinLaw" = some m.cls) (hc125 : ¬ (i15 = (0 : Int32))) :
      ∀ target, Steps p.tables e below (T0.setTop (mkF m 136 #[s0, s1, s2, s3, s4, s5, s6, s7, s8, s9, s10, s11, s12, .val (.long j13), .second, .val (.int i15), s16, s17] [(.long j13)])) target → Steps p.tables e below (T0.setTop (mkF m 123 #[s0, s1, s2, s3, s4, s5, s6, s7, s8, s9, s10, s11, s12, .val (.long j13), .second, .val (.int i15), s16, s17] [])) target := by

  intro target kt
  show Steps p.tables e below (T0.setTop (mkF m 123 #[s0, s1, s2, s3, s4, s5, s6, s7, s8, s9, s10, s11, s12, .val (.long j13), .second, .val (.int i15), s16, s17] [])) _
  refine XS.iload X0.here hx rfl (hb hby at_123) rfl ?_
  show Steps p.tables e below (T0.setTop (mkF m 125 #[s0, s1, s2, s3, s4, s5, s6, s7, s8, s9, s10, s11, s12, .val (.long j13), .second, .val (.int i15), s16, s17] [(.int i15)])) _
  refine XS.ifNo X0.here hx rfl (hb hby at_125) rfl ((if0 _ _).trans (feq hc125).1) ?_
  show Steps p.tables e below (T0.setTop (mkF m 128 #[s0, s1, s2, s3, s4, s5, s6, s7, s8, s9, s10, s11, s12, .val (.long j13), .second, .val (.int i15), s16, s17] [])) _
  refine XS.lload X0.here hx rfl (hb hby at_128) rfl ?_
  show Steps p.tables e below (T0.setTop (mkF m 130 #[s0, s1, s2, s3, s4, s5, s6, s7, s8, s9, s10, s11, s12, .val (.long j13), .second, .val (.int i15), s16, s17] [(.long j13)])) _
  refine XS.goto X0.here hx rfl (pc0 := 130) (pc' := 136) rfl (hb hby at_130) (by decide) (by decide) ?_
  exact kt
def own_exp (j13 : Int64) (i15 : Int32) : Int64 := (if i15 = (0 : Int32) then (9223372036854775807 : Int64) else j13)
set_option maxRecDepth 65536 in
set_option maxHeartbeats 40000000 in
theorem own_f2 {p : Program} {l : Launch} {e : Env} {R : Room} {s : State} {m : MethodId} {args : Array Value} {below : List Frame} {meth : Method} {c : Code} {T0 : State} {locs : List Loc} {cells slots : Nat} {Z : State} {a0 : Array Value} {s0 : Slot} {s1 : Slot} {s2 : Slot} {s3 : Slot} {s4 : Slot} {s5 : Slot} {s6 : Slot} {s7 : Slot} {s8 : Slot} {s9 : Slot} {s10 : Slot} {s11 : Slot} {s12 : Slot} {s16 : Slot} {s17 : Slot} {j13 : Int64} {i15 : Int32}
    (X0 : Stand p l e R s m args below meth c T0 locs cells slots) (hx : p.tables.exec = Jvm.exec) (hZ : Z.Warmed39 s.vm) (hw : ∀ d ∈ tables_1, d.before a0 Z = true) (hby : c.code = code) (hml : c.maxLocals = 18) (hown : s.vm.findClass "com/example/proration/proration/store/PageOffsetPinLaw" = some m.cls) :
      ∀ target, Steps p.tables e below (T0.setTop (mkF m 136 #[s0, s1, s2, s3, s4, s5, s6, s7, s8, s9, s10, s11, s12, .val (.long j13), .second, .val (.int i15), s16, s17] [(.long (own_exp j13 i15))])) target → Steps p.tables e below (T0.setTop (mkF m 123 #[s0, s1, s2, s3, s4, s5, s6, s7, s8, s9, s10, s11, s12, .val (.long j13), .second, .val (.int i15), s16, s17] [])) target := by
  intro target kt
  rw [own_exp] at kt
  by_cases hc125 : i15 = (0 : Int32)
  · rw [if_pos hc125] at kt
    exact own_f2_t X0 hx hZ hw hby hml hown hc125 target kt
  · rw [if_neg hc125] at kt
    exact own_f2_f X0 hx hZ hw hby hml hown hc125 target kt
theorem own_size (p2 : Int32) : ¬ (own_max (1 : Int32) (p2 &&& (2147483647 : Int32)) < (1 : Int32)) := by
  unfold own_max
  simp only [Int32.lt_iff_toInt_lt]
  split <;> omega
theorem own_nz {i : Int32} (h : ¬ (i < (1 : Int32))) : ¬ (i.toInt64 = (0 : Int64)) := by
  intro q
  have e := c_i2l i
  rw [q] at e
  rw [Int32.lt_iff_toInt_lt] at h
  have e0 : (0 : Int64).toInt = 0 := rfl
  have e1 : (1 : Int32).toInt = 1 := rfl
  omega
theorem own_num1 (q1 : Int64) : ¬ ((lcmpW (own_maxl (1 : Int64) (q1 &&& (9223372036854775807 : Int64))) (1 : Int64)) < (0 : Int32)) := by
  rw [lw_lt]
  unfold own_maxl
  simp only [lw_lt, Int64.lt_iff_toInt_lt]
  split <;> omega
theorem own_law (j6 : Int64) (i5 : Int32) (hj : ¬ ((lcmpW j6 (1 : Int64)) < (0 : Int32))) (hi : ¬ (i5 < (1 : Int32))) :
    own_off j6 i5 = own_exp ((j6 - (1 : Int64)) * (i5.toInt64)) (own_fit i5 (j6 - (1 : Int64)) ((j6 - (1 : Int64)) * (i5.toInt64))) := by
  rw [lw_lt, Int64.lt_iff_toInt_lt] at hj
  rw [Int32.lt_iff_toInt_lt] at hi
  have e0 : (0 : Int64).toInt = 0 := rfl
  have e1 : (1 : Int64).toInt = 1 := rfl
  have e1' : (1 : Int32).toInt = 1 := rfl
  have em : (9223372036854775807 : Int64).toInt = 9223372036854775807 := rfl
  have hs := c_lsub j6 1
  have rs := rng64 (j6 - 1)
  have rj := rng64 j6
  have ri := rng32 i5
  have ei := c_i2l i5
  have hP : (j6 - 1).toInt = j6.toInt - 1 := by omega
  have hm := c_lmul (j6 - 1) i5.toInt64
  have rm := rng64 ((j6 - 1) * i5.toInt64)
  have hne : i5.toInt64 ≠ -1 := fun q => by
    have := ei; rw [q] at this
    have : (-1 : Int64).toInt = -1 := rfl
    omega
  have d1 := (c_ldiv 9223372036854775807 i5.toInt64 _ rfl hne).1 (by omega)
  have d2 := (c_ldiv ((j6 - 1) * i5.toInt64) i5.toInt64 _ rfl hne).1
  rw [ei] at hm d1 d2
  rw [em] at d1
  have hP0 : 0 ≤ (j6 - 1).toInt := by omega
  generalize hp : (j6 - 1) = P at *
  have hS0 : 0 < i5.toInt := by omega
  generalize hS : i5.toInt = S at *
  have hQ1 := Int.emod_add_mul_ediv 9223372036854775807 S
  have hQ2 := Int.emod_nonneg 9223372036854775807 (by omega : S ≠ 0)
  have hQ3 := Int.emod_lt_of_pos 9223372036854775807 hS0
  unfold own_off own_exp own_fit
  simp only [lw_gt, lw_lt, lw_eq, hp, Int64.lt_iff_toInt_lt, d1, e0]
  by_cases hc : 9223372036854775807 / S < P.toInt
  · rw [if_pos hc]
    by_cases h0 : (P * i5.toInt64).toInt < 0
    · rw [if_pos h0, if_pos rfl]
    · rw [if_neg h0]
      by_cases h1 : P * i5.toInt64 / i5.toInt64 = P
      · exfalso
        have h2 := d2 (by omega)
        rw [h1] at h2
        have w1 := Int.mul_ediv_self_le (x := (P * i5.toInt64).toInt) (k := S) (by omega)
        rw [← h2] at w1
        have w2 : S * (9223372036854775807 / S + 1) ≤ S * P.toInt := Int.mul_le_mul_of_nonneg_left (by omega) (by omega)
        rw [Int.mul_add, Int.mul_one] at w2
        omega
      · rw [if_neg h1, if_pos rfl]
  · rw [if_neg hc]
    have w2 : S * P.toInt ≤ S * (9223372036854775807 / S) := Int.mul_le_mul_of_nonneg_left (by omega) (by omega)
    have w3 : 0 ≤ P.toInt * S := Int.mul_nonneg hP0 (by omega)
    rw [Int.mul_comm] at w2
    have hW : (P * i5.toInt64).toInt = P.toInt * S := by omega
    have h0 : ¬ (P * i5.toInt64).toInt < 0 := by omega
    rw [if_neg h0]
    have h2 := d2 (by omega)
    rw [hW, Int.mul_ediv_cancel _ (by omega : S ≠ 0)] at h2
    rw [if_pos (Int64.toInt_inj.mp h2), if_neg (by decide)]
theorem pd_0_1 : parseMethodDescriptor "(JI)V" = some ⟨[.long, .int], none⟩ := by decide +kernel
theorem pd_0_3 : parseMethodDescriptor "()J" = some ⟨[], some .long⟩ := by decide +kernel
theorem pd_0_4 : parseMethodDescriptor "()I" = some ⟨[], some .int⟩ := by decide +kernel
set_option maxRecDepth 65536 in
set_option maxHeartbeats 40000000 in
theorem own_tail_u {p : Program} {l : Launch} {e : Env} {s : State} {m : MethodId} {args : Array Value} {below : List Frame} {meth : Method} {c : Code} {T0 : State} {locs : List Loc} {Z : State} {a0 : Array Value} {h0 : Heap} {n0 : Nat} {s0 s1 s2 s3 s4 : Slot} {i5 : Int32} {j6 : Int64}
    (X0 : Stand p l e room_1 s m args below meth c T0 locs 0 0) (hx : p.tables.exec = Jvm.exec) (hZ : Z.Warmed39 s.vm) (hw : ∀ d ∈ tables_1, d.before a0 Z = true) (hby : c.code = code) (hml : c.maxLocals = 18) (hown : s.vm.findClass "com/example/proration/proration/store/PageOffsetPinLaw" = some m.cls) (e0 : T0.heap = h0) (N0 : Fr n0 locs) (Z0 : n0 ≤ h0.size) (hj : ¬ ((lcmpW j6 (1 : Int64)) < (0 : Int32))) (hi : ¬ (i5 < (1 : Int32))) (hnz : ¬ ((i5.toInt64) = (0 : Int64))) :
    ∃ (T' : State) (L' : List Loc) (Ls : Array Slot), Stand p l e room_1 s m args below meth c T' L' 1 2 ∧ Fr n0 L' ∧
      ∀ target, Steps p.tables e below (T'.setTop (mkF m 161 Ls [(.int (1 : Int32))])) target → Steps p.tables e below (T0.setTop (mkF m 63 #[s0, s1, s2, s3, s4, .val (.int i5), .val (.long j6), .second, .unset, .unset, .unset, .unset, .unset, .unset, .unset, .unset, .unset, .unset] [])) target := by
  obtain ⟨T5, h5, X5, e5, E5, A5, D5, -, st5⟩ := newO X0 hx hZ hown (hw _ (List.mem_of_getElem? (i := 6) rfl)) (hw _ (List.mem_of_getElem? (i := 7) rfl)) (hw _ (List.mem_of_getElem? (i := 8) rfl)) e0 (g := (mkF m 63 #[s0, s1, s2, s3, s4, .val (.int i5), .val (.long j6), .second, .unset, .unset, .unset, .unset, .unset, .unset, .unset, .unset, .unset, .unset] [])) rfl (hb hby at_63) (by decide) (by decide)
  obtain ⟨b5, g5⟩ : ∃ z, z = h0.size := ⟨_, rfl⟩
  rw [← g5] at A5 D5 st5
  have F_number_b5 : Fld Z h5 b5 "com/example/proration/proration/store/Page" "number" "J" (.long (0 : Int64)) := D5 (Or.inr (hw _ (List.mem_of_getElem? (i := 16) rfl))) (ty := .long) (by decide)
  have F_size_b5 : Fld Z h5 b5 "com/example/proration/proration/store/Page" "size" "I" (.int (0 : Int32)) := D5 (Or.inr (hw _ (List.mem_of_getElem? (i := 18) rfl))) (ty := .int) (by decide)
  have E_b5 := A5
  have g_b5 : n0 ≤ b5 := Nat.le_trans Z0 (Nat.le_of_eq g5.symm)
  have sz_b5 : h0.size ≤ b5 := (Nat.le_trans (Keep.refl h0 []).1 (Nat.le_of_eq g5.symm))
  have K5 : Keep h0 h5 [] := (Keep.refl h0 []).ext E5
  obtain ⟨_, _, ⟨T6, L6, k6, n6⟩, -, X6, ⟨Lc6, hQ6, l6, y6, z6⟩, st6⟩ := X5.specialBack hx (y := (⟨"com/example/proration/proration/store/Page", "<init>", "(JI)V"⟩ : MethodName)) rfl hown (mvT hZ (hw _ (List.mem_of_getElem? (i := 9) rfl))) (mvT hZ (hw _ (List.mem_of_getElem? (i := 10) rfl))) (mvT hZ (hw _ (List.mem_of_getElem? (i := 11) rfl))) (by decide) (backOf (W := 1) (rm2 l Z a0 hw [] b5 j6 i5 (.long (0 : Int64)) (.int (0 : Int32)) h5 n0 (Nat.le_trans Z0 K5.1) E_b5 F_number_b5 g_b5 F_size_b5 hj hi) hZ (hw _ (List.mem_of_getElem? (i := 11) rfl)) (hw _ (List.mem_of_getElem? (i := 8) rfl)) (by decide) (by decide)) (g := (mkF m 71 #[s0, s1, s2, s3, s4, .val (.int i5), .val (.long j6), .second, .unset, .unset, .unset, .unset, .unset, .unset, .unset, .unset, .unset, .unset] [(.int i5), (.long j6), (.ref b5), (.ref b5)])) rfl (by rw [hml]; rfl) (Steps.refl _) (a := b5) (argsL := [(.long j6), (.int i5)]) (rest := [(.ref b5)]) (lenOf pd_0_1 rfl) rfl (by show 2 * 0 + _ ≤ _; exact Nat.le_of_eq rfl) (hb hby at_71) (fun _ _ => ⟨rfl, e5, (Nat.le_of_ble_eq_true rfl), (Nat.le_of_ble_eq_true rfl)⟩)
  dsimp only [Pt.U, Pt.locs, Pt.cells, Pt.slots] at X6 l6 y6 z6 st6 hQ6
  subst l6 y6 z6
  obtain ⟨rfl, N6q, K6, Ex6, Fn6, Fs6⟩ := hQ6
  have N6 := Fr.app N0 N6q
  obtain ⟨cq7, kq7, q7a, q7b, q7c⟩ := isOf hZ rfl (E_b5.keep K6)
  obtain ⟨_, _, ⟨T7, L7, k7, n7⟩, -, X7, ⟨Lc7, hQ7, l7, y7, z7⟩, st7⟩ := X6.virtualBack hx (y := (⟨"com/example/proration/proration/store/Page", "offset", "()J"⟩ : MethodName)) (z := (⟨"com/example/proration/proration/store/Page", "offset", "()J"⟩ : MethodName)) hown (mvT hZ (hw _ (List.mem_of_getElem? (i := 19) rfl))) (mvT hZ (hw _ (List.mem_of_getElem? (i := 20) rfl))) (notFace_of_selects (args := #[]) (mvT hZ (hw _ (List.mem_of_getElem? (i := 22) rfl)))) (mvT hZ (hw _ (List.mem_of_getElem? (i := 22) rfl))) (mvT hZ (hw _ (List.mem_of_getElem? (i := 21) rfl))) (by decide) (backOf (W := 0) (rm4 l Z a0 hw [] b5 j6 i5 T6.heap n0 (Nat.le_trans (Nat.le_trans Z0 K5.1) K6.1) Fn6 Fs6 hnz) hZ (hw _ (List.mem_of_getElem? (i := 23) rfl)) (hw _ (List.mem_of_getElem? (i := 8) rfl)) (by decide) (by decide)) q7a q7c (g := (mkF m 78 #[s0, s1, s2, s3, s4, .val (.int i5), .val (.long j6), .second, .val (.ref b5), .unset, .unset, .unset, .unset, .unset, .unset, .unset, .unset, .unset] [(.ref b5)])) rfl (by rw [hml]; rfl) (Steps.refl _) (argsL := []) (rest := []) (lenOf pd_0_3 rfl) rfl (by show 2 * 0 + _ ≤ _; exact Nat.le_of_eq rfl) (hb hby at_78) (fun _ _ => ⟨rfl, rfl, (Nat.le_of_ble_eq_true rfl), (Nat.le_of_ble_eq_true rfl)⟩)
  dsimp only [Pt.U, Pt.locs, Pt.cells, Pt.slots] at X7 l7 y7 z7 st7 hQ7
  subst l7 y7 z7
  obtain ⟨rfl, N7q, e7⟩ := hQ7
  have K7 : Keep T6.heap T7.heap [] := by rw [e7]; exact Keep.refl _ _
  have N7 := Fr.app N6 N7q
  obtain ⟨cq8, kq8, q8a, q8b, q8c⟩ := isOf hZ rfl ((E_b5.keep K6).keep K7)
  obtain ⟨_, _, ⟨T8, L8, k8, n8⟩, -, X8, ⟨Lc8, hQ8, l8, y8, z8⟩, st8⟩ := X7.virtualBack hx (y := (⟨"com/example/proration/proration/store/Page", "size", "()I"⟩ : MethodName)) (z := (⟨"com/example/proration/proration/store/Page", "size", "()I"⟩ : MethodName)) hown (mvT hZ (hw _ (List.mem_of_getElem? (i := 25) rfl))) (mvT hZ (hw _ (List.mem_of_getElem? (i := 26) rfl))) (notFace_of_selects (args := #[]) (mvT hZ (hw _ (List.mem_of_getElem? (i := 28) rfl)))) (mvT hZ (hw _ (List.mem_of_getElem? (i := 28) rfl))) (mvT hZ (hw _ (List.mem_of_getElem? (i := 27) rfl))) (by decide) (backOf (W := 0) (rm5 l Z a0 hw [] b5 i5 T7.heap n0 (by rw [e7]; exact Nat.le_trans (Nat.le_trans Z0 K5.1) K6.1) (Fs6.keep K7 nin0)) hZ (hw _ (List.mem_of_getElem? (i := 29) rfl)) (hw _ (List.mem_of_getElem? (i := 8) rfl)) (by decide) (by decide)) q8a q8c (g := (mkF m 148 #[s0, s1, s2, s3, s4, .val (.int i5), .val (.long j6), .second, .val (.ref b5), .val (.long (own_off j6 i5)), .second, .val (.long (j6 - (1 : Int64))), .second, .val (.long ((j6 - (1 : Int64)) * (i5.toInt64))), .second, .val (.int (own_fit i5 (j6 - (1 : Int64)) ((j6 - (1 : Int64)) * (i5.toInt64)))), .val (.long (own_exp ((j6 - (1 : Int64)) * (i5.toInt64)) (own_fit i5 (j6 - (1 : Int64)) ((j6 - (1 : Int64)) * (i5.toInt64))))), .second] [(.ref b5)])) rfl (by rw [hml]; rfl) (Steps.refl _) (argsL := []) (rest := []) (lenOf pd_0_4 rfl) rfl (by show 2 * 0 + _ ≤ _; exact Nat.le_of_eq rfl) (hb hby at_148) (fun _ _ => ⟨rfl, rfl, (Nat.le_of_ble_eq_true rfl), (Nat.le_of_ble_eq_true rfl)⟩)
  dsimp only [Pt.U, Pt.locs, Pt.cells, Pt.slots] at X8 l8 y8 z8 st8 hQ8
  subst l8 y8 z8
  obtain ⟨rfl, N8q, e8⟩ := hQ8
  have N8 := Fr.app N7 N8q
  refine ⟨T8, _, #[s0, s1, s2, s3, s4, .val (.int i5), .val (.long j6), .second, .val (.ref b5), .val (.long (own_off j6 i5)), .second, .val (.long (j6 - (1 : Int64))), .second, .val (.long ((j6 - (1 : Int64)) * (i5.toInt64))), .second, .val (.int (own_fit i5 (j6 - (1 : Int64)) ((j6 - (1 : Int64)) * (i5.toInt64)))), .val (.long (own_exp ((j6 - (1 : Int64)) * (i5.toInt64)) (own_fit i5 (j6 - (1 : Int64)) ((j6 - (1 : Int64)) * (i5.toInt64))))), .second], X8, N8, fun target kt => ?_⟩
  show Steps p.tables e below (T0.setTop (mkF m 63 #[s0, s1, s2, s3, s4, .val (.int i5), .val (.long j6), .second, .unset, .unset, .unset, .unset, .unset, .unset, .unset, .unset, .unset, .unset] [])) _
  refine st5 _ ?_
  show Steps p.tables e below (T5.setTop (mkF m 66 #[s0, s1, s2, s3, s4, .val (.int i5), .val (.long j6), .second, .unset, .unset, .unset, .unset, .unset, .unset, .unset, .unset, .unset, .unset] [(.ref b5)])) _
  refine XS.dup X5.here hx rfl (hb hby at_66) rfl rfl ?_
  show Steps p.tables e below (T5.setTop (mkF m 67 #[s0, s1, s2, s3, s4, .val (.int i5), .val (.long j6), .second, .unset, .unset, .unset, .unset, .unset, .unset, .unset, .unset, .unset, .unset] [(.ref b5), (.ref b5)])) _
  refine XS.lload X5.here hx rfl (hb hby at_67) rfl ?_
  show Steps p.tables e below (T5.setTop (mkF m 69 #[s0, s1, s2, s3, s4, .val (.int i5), .val (.long j6), .second, .unset, .unset, .unset, .unset, .unset, .unset, .unset, .unset, .unset, .unset] [(.long j6), (.ref b5), (.ref b5)])) _
  refine XS.iload X5.here hx rfl (hb hby at_69) rfl ?_
  show Steps p.tables e below (T5.setTop (mkF m 71 #[s0, s1, s2, s3, s4, .val (.int i5), .val (.long j6), .second, .unset, .unset, .unset, .unset, .unset, .unset, .unset, .unset, .unset, .unset] [(.int i5), (.long j6), (.ref b5), (.ref b5)])) _
  refine st6.trans ?_
  show Steps p.tables e below (T6.setTop (mkF m 74 #[s0, s1, s2, s3, s4, .val (.int i5), .val (.long j6), .second, .unset, .unset, .unset, .unset, .unset, .unset, .unset, .unset, .unset, .unset] [(.ref b5)])) _
  refine XS.astore X6.here hx rfl (hb hby at_74) rfl rfl (l' := #[s0, s1, s2, s3, s4, .val (.int i5), .val (.long j6), .second, .val (.ref b5), .unset, .unset, .unset, .unset, .unset, .unset, .unset, .unset, .unset]) rfl ?_
  show Steps p.tables e below (T6.setTop (mkF m 76 #[s0, s1, s2, s3, s4, .val (.int i5), .val (.long j6), .second, .val (.ref b5), .unset, .unset, .unset, .unset, .unset, .unset, .unset, .unset, .unset] [])) _
  refine XS.aload X6.here hx rfl (hb hby at_76) rfl rfl ?_
  show Steps p.tables e below (T6.setTop (mkF m 78 #[s0, s1, s2, s3, s4, .val (.int i5), .val (.long j6), .second, .val (.ref b5), .unset, .unset, .unset, .unset, .unset, .unset, .unset, .unset, .unset] [(.ref b5)])) _
  refine st7.trans ?_
  show Steps p.tables e below (T7.setTop (mkF m 81 #[s0, s1, s2, s3, s4, .val (.int i5), .val (.long j6), .second, .val (.ref b5), .unset, .unset, .unset, .unset, .unset, .unset, .unset, .unset, .unset] [(.long (own_off j6 i5))])) _
  refine XS.lstore X7.here hx rfl (hb hby at_81) rfl (l' := #[s0, s1, s2, s3, s4, .val (.int i5), .val (.long j6), .second, .val (.ref b5), .val (.long (own_off j6 i5)), .second, .unset, .unset, .unset, .unset, .unset, .unset, .unset]) rfl ?_
  show Steps p.tables e below (T7.setTop (mkF m 83 #[s0, s1, s2, s3, s4, .val (.int i5), .val (.long j6), .second, .val (.ref b5), .val (.long (own_off j6 i5)), .second, .unset, .unset, .unset, .unset, .unset, .unset, .unset] [])) _
  refine XS.lload X7.here hx rfl (hb hby at_83) rfl ?_
  show Steps p.tables e below (T7.setTop (mkF m 85 #[s0, s1, s2, s3, s4, .val (.int i5), .val (.long j6), .second, .val (.ref b5), .val (.long (own_off j6 i5)), .second, .unset, .unset, .unset, .unset, .unset, .unset, .unset] [(.long j6)])) _
  refine XS.lconst X7.here hx rfl (hb hby at_85) ?_
  show Steps p.tables e below (T7.setTop (mkF m 86 #[s0, s1, s2, s3, s4, .val (.int i5), .val (.long j6), .second, .val (.ref b5), .val (.long (own_off j6 i5)), .second, .unset, .unset, .unset, .unset, .unset, .unset, .unset] [(.long (1 : Int64)), (.long j6)])) _
  refine XS.lsub X7.here hx rfl (hb hby at_86) rfl ?_
  show Steps p.tables e below (T7.setTop (mkF m 87 #[s0, s1, s2, s3, s4, .val (.int i5), .val (.long j6), .second, .val (.ref b5), .val (.long (own_off j6 i5)), .second, .unset, .unset, .unset, .unset, .unset, .unset, .unset] [(.long (j6 - (1 : Int64)))])) _
  refine XS.lstore X7.here hx rfl (hb hby at_87) rfl (l' := #[s0, s1, s2, s3, s4, .val (.int i5), .val (.long j6), .second, .val (.ref b5), .val (.long (own_off j6 i5)), .second, .val (.long (j6 - (1 : Int64))), .second, .unset, .unset, .unset, .unset, .unset]) rfl ?_
  show Steps p.tables e below (T7.setTop (mkF m 89 #[s0, s1, s2, s3, s4, .val (.int i5), .val (.long j6), .second, .val (.ref b5), .val (.long (own_off j6 i5)), .second, .val (.long (j6 - (1 : Int64))), .second, .unset, .unset, .unset, .unset, .unset] [])) _
  refine XS.lload X7.here hx rfl (hb hby at_89) rfl ?_
  show Steps p.tables e below (T7.setTop (mkF m 91 #[s0, s1, s2, s3, s4, .val (.int i5), .val (.long j6), .second, .val (.ref b5), .val (.long (own_off j6 i5)), .second, .val (.long (j6 - (1 : Int64))), .second, .unset, .unset, .unset, .unset, .unset] [(.long (j6 - (1 : Int64)))])) _
  refine XS.iload X7.here hx rfl (hb hby at_91) rfl ?_
  show Steps p.tables e below (T7.setTop (mkF m 93 #[s0, s1, s2, s3, s4, .val (.int i5), .val (.long j6), .second, .val (.ref b5), .val (.long (own_off j6 i5)), .second, .val (.long (j6 - (1 : Int64))), .second, .unset, .unset, .unset, .unset, .unset] [(.int i5), (.long (j6 - (1 : Int64)))])) _
  refine XS.i2l X7.here hx rfl (hb hby at_93) rfl ?_
  show Steps p.tables e below (T7.setTop (mkF m 94 #[s0, s1, s2, s3, s4, .val (.int i5), .val (.long j6), .second, .val (.ref b5), .val (.long (own_off j6 i5)), .second, .val (.long (j6 - (1 : Int64))), .second, .unset, .unset, .unset, .unset, .unset] [(.long (i5.toInt64)), (.long (j6 - (1 : Int64)))])) _
  refine XS.lmul X7.here hx rfl (hb hby at_94) rfl ?_
  show Steps p.tables e below (T7.setTop (mkF m 95 #[s0, s1, s2, s3, s4, .val (.int i5), .val (.long j6), .second, .val (.ref b5), .val (.long (own_off j6 i5)), .second, .val (.long (j6 - (1 : Int64))), .second, .unset, .unset, .unset, .unset, .unset] [(.long ((j6 - (1 : Int64)) * (i5.toInt64)))])) _
  refine XS.lstore X7.here hx rfl (hb hby at_95) rfl (l' := #[s0, s1, s2, s3, s4, .val (.int i5), .val (.long j6), .second, .val (.ref b5), .val (.long (own_off j6 i5)), .second, .val (.long (j6 - (1 : Int64))), .second, .val (.long ((j6 - (1 : Int64)) * (i5.toInt64))), .second, .unset, .unset, .unset]) rfl ?_
  show Steps p.tables e below (T7.setTop (mkF m 97 #[s0, s1, s2, s3, s4, .val (.int i5), .val (.long j6), .second, .val (.ref b5), .val (.long (own_off j6 i5)), .second, .val (.long (j6 - (1 : Int64))), .second, .val (.long ((j6 - (1 : Int64)) * (i5.toInt64))), .second, .unset, .unset, .unset] [])) _
  refine own_f1 X7 hx hZ hw hby hml hown hnz _ ?_
  show Steps p.tables e below (T7.setTop (mkF m 121 #[s0, s1, s2, s3, s4, .val (.int i5), .val (.long j6), .second, .val (.ref b5), .val (.long (own_off j6 i5)), .second, .val (.long (j6 - (1 : Int64))), .second, .val (.long ((j6 - (1 : Int64)) * (i5.toInt64))), .second, .unset, .unset, .unset] [(.int (own_fit i5 (j6 - (1 : Int64)) ((j6 - (1 : Int64)) * (i5.toInt64))))])) _
  refine XS.istore X7.here hx rfl (hb hby at_121) rfl (l' := #[s0, s1, s2, s3, s4, .val (.int i5), .val (.long j6), .second, .val (.ref b5), .val (.long (own_off j6 i5)), .second, .val (.long (j6 - (1 : Int64))), .second, .val (.long ((j6 - (1 : Int64)) * (i5.toInt64))), .second, .val (.int (own_fit i5 (j6 - (1 : Int64)) ((j6 - (1 : Int64)) * (i5.toInt64)))), .unset, .unset]) rfl ?_
  show Steps p.tables e below (T7.setTop (mkF m 123 #[s0, s1, s2, s3, s4, .val (.int i5), .val (.long j6), .second, .val (.ref b5), .val (.long (own_off j6 i5)), .second, .val (.long (j6 - (1 : Int64))), .second, .val (.long ((j6 - (1 : Int64)) * (i5.toInt64))), .second, .val (.int (own_fit i5 (j6 - (1 : Int64)) ((j6 - (1 : Int64)) * (i5.toInt64)))), .unset, .unset] [])) _
  refine own_f2 X7 hx hZ hw hby hml hown _ ?_
  show Steps p.tables e below (T7.setTop (mkF m 136 #[s0, s1, s2, s3, s4, .val (.int i5), .val (.long j6), .second, .val (.ref b5), .val (.long (own_off j6 i5)), .second, .val (.long (j6 - (1 : Int64))), .second, .val (.long ((j6 - (1 : Int64)) * (i5.toInt64))), .second, .val (.int (own_fit i5 (j6 - (1 : Int64)) ((j6 - (1 : Int64)) * (i5.toInt64)))), .unset, .unset] [(.long (own_exp ((j6 - (1 : Int64)) * (i5.toInt64)) (own_fit i5 (j6 - (1 : Int64)) ((j6 - (1 : Int64)) * (i5.toInt64)))))])) _
  refine XS.lstore X7.here hx rfl (hb hby at_136) rfl (l' := #[s0, s1, s2, s3, s4, .val (.int i5), .val (.long j6), .second, .val (.ref b5), .val (.long (own_off j6 i5)), .second, .val (.long (j6 - (1 : Int64))), .second, .val (.long ((j6 - (1 : Int64)) * (i5.toInt64))), .second, .val (.int (own_fit i5 (j6 - (1 : Int64)) ((j6 - (1 : Int64)) * (i5.toInt64)))), .val (.long (own_exp ((j6 - (1 : Int64)) * (i5.toInt64)) (own_fit i5 (j6 - (1 : Int64)) ((j6 - (1 : Int64)) * (i5.toInt64))))), .second]) rfl ?_
  show Steps p.tables e below (T7.setTop (mkF m 138 #[s0, s1, s2, s3, s4, .val (.int i5), .val (.long j6), .second, .val (.ref b5), .val (.long (own_off j6 i5)), .second, .val (.long (j6 - (1 : Int64))), .second, .val (.long ((j6 - (1 : Int64)) * (i5.toInt64))), .second, .val (.int (own_fit i5 (j6 - (1 : Int64)) ((j6 - (1 : Int64)) * (i5.toInt64)))), .val (.long (own_exp ((j6 - (1 : Int64)) * (i5.toInt64)) (own_fit i5 (j6 - (1 : Int64)) ((j6 - (1 : Int64)) * (i5.toInt64))))), .second] [])) _
  refine XS.lload X7.here hx rfl (hb hby at_138) rfl ?_
  show Steps p.tables e below (T7.setTop (mkF m 140 #[s0, s1, s2, s3, s4, .val (.int i5), .val (.long j6), .second, .val (.ref b5), .val (.long (own_off j6 i5)), .second, .val (.long (j6 - (1 : Int64))), .second, .val (.long ((j6 - (1 : Int64)) * (i5.toInt64))), .second, .val (.int (own_fit i5 (j6 - (1 : Int64)) ((j6 - (1 : Int64)) * (i5.toInt64)))), .val (.long (own_exp ((j6 - (1 : Int64)) * (i5.toInt64)) (own_fit i5 (j6 - (1 : Int64)) ((j6 - (1 : Int64)) * (i5.toInt64))))), .second] [(.long (own_off j6 i5))])) _
  refine XS.lload X7.here hx rfl (hb hby at_140) rfl ?_
  show Steps p.tables e below (T7.setTop (mkF m 142 #[s0, s1, s2, s3, s4, .val (.int i5), .val (.long j6), .second, .val (.ref b5), .val (.long (own_off j6 i5)), .second, .val (.long (j6 - (1 : Int64))), .second, .val (.long ((j6 - (1 : Int64)) * (i5.toInt64))), .second, .val (.int (own_fit i5 (j6 - (1 : Int64)) ((j6 - (1 : Int64)) * (i5.toInt64)))), .val (.long (own_exp ((j6 - (1 : Int64)) * (i5.toInt64)) (own_fit i5 (j6 - (1 : Int64)) ((j6 - (1 : Int64)) * (i5.toInt64))))), .second] [(.long (own_exp ((j6 - (1 : Int64)) * (i5.toInt64)) (own_fit i5 (j6 - (1 : Int64)) ((j6 - (1 : Int64)) * (i5.toInt64))))), (.long (own_off j6 i5))])) _
  refine XS.lcmp X7.here hx rfl (hb hby at_142) rfl ?_
  show Steps p.tables e below (T7.setTop (mkF m 143 #[s0, s1, s2, s3, s4, .val (.int i5), .val (.long j6), .second, .val (.ref b5), .val (.long (own_off j6 i5)), .second, .val (.long (j6 - (1 : Int64))), .second, .val (.long ((j6 - (1 : Int64)) * (i5.toInt64))), .second, .val (.int (own_fit i5 (j6 - (1 : Int64)) ((j6 - (1 : Int64)) * (i5.toInt64)))), .val (.long (own_exp ((j6 - (1 : Int64)) * (i5.toInt64)) (own_fit i5 (j6 - (1 : Int64)) ((j6 - (1 : Int64)) * (i5.toInt64))))), .second] [(.int (lcmpW (own_off j6 i5) (own_exp ((j6 - (1 : Int64)) * (i5.toInt64)) (own_fit i5 (j6 - (1 : Int64)) ((j6 - (1 : Int64)) * (i5.toInt64))))))])) _
  refine XS.ifNo X7.here hx rfl (hb hby at_143) rfl ((if0 _ _).trans (teq ((lw_eq _ _).mpr (own_law j6 i5 hj hi) : (lcmpW (own_off j6 i5) (own_exp ((j6 - (1 : Int64)) * (i5.toInt64)) (own_fit i5 (j6 - (1 : Int64)) ((j6 - (1 : Int64)) * (i5.toInt64))))) = (0 : Int32))).2) ?_
  show Steps p.tables e below (T7.setTop (mkF m 146 #[s0, s1, s2, s3, s4, .val (.int i5), .val (.long j6), .second, .val (.ref b5), .val (.long (own_off j6 i5)), .second, .val (.long (j6 - (1 : Int64))), .second, .val (.long ((j6 - (1 : Int64)) * (i5.toInt64))), .second, .val (.int (own_fit i5 (j6 - (1 : Int64)) ((j6 - (1 : Int64)) * (i5.toInt64)))), .val (.long (own_exp ((j6 - (1 : Int64)) * (i5.toInt64)) (own_fit i5 (j6 - (1 : Int64)) ((j6 - (1 : Int64)) * (i5.toInt64))))), .second] [])) _
  refine XS.aload X7.here hx rfl (hb hby at_146) rfl rfl ?_
  show Steps p.tables e below (T7.setTop (mkF m 148 #[s0, s1, s2, s3, s4, .val (.int i5), .val (.long j6), .second, .val (.ref b5), .val (.long (own_off j6 i5)), .second, .val (.long (j6 - (1 : Int64))), .second, .val (.long ((j6 - (1 : Int64)) * (i5.toInt64))), .second, .val (.int (own_fit i5 (j6 - (1 : Int64)) ((j6 - (1 : Int64)) * (i5.toInt64)))), .val (.long (own_exp ((j6 - (1 : Int64)) * (i5.toInt64)) (own_fit i5 (j6 - (1 : Int64)) ((j6 - (1 : Int64)) * (i5.toInt64))))), .second] [(.ref b5)])) _
  refine st8.trans ?_
  show Steps p.tables e below (T8.setTop (mkF m 151 #[s0, s1, s2, s3, s4, .val (.int i5), .val (.long j6), .second, .val (.ref b5), .val (.long (own_off j6 i5)), .second, .val (.long (j6 - (1 : Int64))), .second, .val (.long ((j6 - (1 : Int64)) * (i5.toInt64))), .second, .val (.int (own_fit i5 (j6 - (1 : Int64)) ((j6 - (1 : Int64)) * (i5.toInt64)))), .val (.long (own_exp ((j6 - (1 : Int64)) * (i5.toInt64)) (own_fit i5 (j6 - (1 : Int64)) ((j6 - (1 : Int64)) * (i5.toInt64))))), .second] [(.int i5)])) _
  refine XS.iload X8.here hx rfl (hb hby at_151) rfl ?_
  show Steps p.tables e below (T8.setTop (mkF m 153 #[s0, s1, s2, s3, s4, .val (.int i5), .val (.long j6), .second, .val (.ref b5), .val (.long (own_off j6 i5)), .second, .val (.long (j6 - (1 : Int64))), .second, .val (.long ((j6 - (1 : Int64)) * (i5.toInt64))), .second, .val (.int (own_fit i5 (j6 - (1 : Int64)) ((j6 - (1 : Int64)) * (i5.toInt64)))), .val (.long (own_exp ((j6 - (1 : Int64)) * (i5.toInt64)) (own_fit i5 (j6 - (1 : Int64)) ((j6 - (1 : Int64)) * (i5.toInt64))))), .second] [(.int i5), (.int i5)])) _
  refine XS.icmpNo X8.here hx rfl (hb hby at_153) rfl (teq (rfl : i5 = i5)).2 ?_
  show Steps p.tables e below (T8.setTop (mkF m 156 #[s0, s1, s2, s3, s4, .val (.int i5), .val (.long j6), .second, .val (.ref b5), .val (.long (own_off j6 i5)), .second, .val (.long (j6 - (1 : Int64))), .second, .val (.long ((j6 - (1 : Int64)) * (i5.toInt64))), .second, .val (.int (own_fit i5 (j6 - (1 : Int64)) ((j6 - (1 : Int64)) * (i5.toInt64)))), .val (.long (own_exp ((j6 - (1 : Int64)) * (i5.toInt64)) (own_fit i5 (j6 - (1 : Int64)) ((j6 - (1 : Int64)) * (i5.toInt64))))), .second] [])) _
  refine XS.iconst X8.here hx rfl (hb hby at_156) ?_
  show Steps p.tables e below (T8.setTop (mkF m 157 #[s0, s1, s2, s3, s4, .val (.int i5), .val (.long j6), .second, .val (.ref b5), .val (.long (own_off j6 i5)), .second, .val (.long (j6 - (1 : Int64))), .second, .val (.long ((j6 - (1 : Int64)) * (i5.toInt64))), .second, .val (.int (own_fit i5 (j6 - (1 : Int64)) ((j6 - (1 : Int64)) * (i5.toInt64)))), .val (.long (own_exp ((j6 - (1 : Int64)) * (i5.toInt64)) (own_fit i5 (j6 - (1 : Int64)) ((j6 - (1 : Int64)) * (i5.toInt64))))), .second] [(.int (1 : Int32))])) _
  refine XS.goto X8.here hx rfl (pc0 := 157) (pc' := 161) rfl (hb hby at_157) (by decide) (by decide) ?_
  exact kt
set_option maxRecDepth 65536 in
set_option maxHeartbeats 40000000 in
theorem own_tail_l {p : Program} {l : Launch} {e : Env} {s : State} {m : MethodId} {args : Array Value} {below : List Frame} {meth : Method} {c : Code} {T0 : State} {locs : List Loc} {Z : State} {a0 : Array Value} {h0 : Heap} {n0 : Nat} {s0 s1 s2 s3 s4 : Slot} {i5 : Int32} {j6 : Int64} {j8 : Int64}
    (X0 : Stand p l e room_1 s m args below meth c T0 locs 0 0) (hx : p.tables.exec = Jvm.exec) (hZ : Z.Warmed39 s.vm) (hw : ∀ d ∈ tables_1, d.before a0 Z = true) (hby : c.code = code) (hml : c.maxLocals = 18) (hown : s.vm.findClass "com/example/proration/proration/store/PageOffsetPinLaw" = some m.cls) (e0 : T0.heap = h0) (N0 : Fr n0 locs) (Z0 : n0 ≤ h0.size) (hj : ¬ ((lcmpW j6 (1 : Int64)) < (0 : Int32))) (hi : ¬ (i5 < (1 : Int32))) (hnz : ¬ ((i5.toInt64) = (0 : Int64))) :
    ∃ (T' : State) (L' : List Loc) (Ls : Array Slot), Stand p l e room_1 s m args below meth c T' L' 1 2 ∧ Fr n0 L' ∧
      ∀ target, Steps p.tables e below (T'.setTop (mkF m 161 Ls [(.int (1 : Int32))])) target → Steps p.tables e below (T0.setTop (mkF m 63 #[s0, s1, s2, s3, s4, .val (.int i5), .val (.long j6), .second, .val (.long j8), .second, .unset, .unset, .unset, .unset, .unset, .unset, .unset, .unset] [])) target := by
  obtain ⟨T5, h5, X5, e5, E5, A5, D5, -, st5⟩ := newO X0 hx hZ hown (hw _ (List.mem_of_getElem? (i := 6) rfl)) (hw _ (List.mem_of_getElem? (i := 7) rfl)) (hw _ (List.mem_of_getElem? (i := 8) rfl)) e0 (g := (mkF m 63 #[s0, s1, s2, s3, s4, .val (.int i5), .val (.long j6), .second, .val (.long j8), .second, .unset, .unset, .unset, .unset, .unset, .unset, .unset, .unset] [])) rfl (hb hby at_63) (by decide) (by decide)
  obtain ⟨b5, g5⟩ : ∃ z, z = h0.size := ⟨_, rfl⟩
  rw [← g5] at A5 D5 st5
  have F_number_b5 : Fld Z h5 b5 "com/example/proration/proration/store/Page" "number" "J" (.long (0 : Int64)) := D5 (Or.inr (hw _ (List.mem_of_getElem? (i := 16) rfl))) (ty := .long) (by decide)
  have F_size_b5 : Fld Z h5 b5 "com/example/proration/proration/store/Page" "size" "I" (.int (0 : Int32)) := D5 (Or.inr (hw _ (List.mem_of_getElem? (i := 18) rfl))) (ty := .int) (by decide)
  have E_b5 := A5
  have g_b5 : n0 ≤ b5 := Nat.le_trans Z0 (Nat.le_of_eq g5.symm)
  have sz_b5 : h0.size ≤ b5 := (Nat.le_trans (Keep.refl h0 []).1 (Nat.le_of_eq g5.symm))
  have K5 : Keep h0 h5 [] := (Keep.refl h0 []).ext E5
  obtain ⟨_, _, ⟨T6, L6, k6, n6⟩, -, X6, ⟨Lc6, hQ6, l6, y6, z6⟩, st6⟩ := X5.specialBack hx (y := (⟨"com/example/proration/proration/store/Page", "<init>", "(JI)V"⟩ : MethodName)) rfl hown (mvT hZ (hw _ (List.mem_of_getElem? (i := 9) rfl))) (mvT hZ (hw _ (List.mem_of_getElem? (i := 10) rfl))) (mvT hZ (hw _ (List.mem_of_getElem? (i := 11) rfl))) (by decide) (backOf (W := 1) (rm2 l Z a0 hw [] b5 j6 i5 (.long (0 : Int64)) (.int (0 : Int32)) h5 n0 (Nat.le_trans Z0 K5.1) E_b5 F_number_b5 g_b5 F_size_b5 hj hi) hZ (hw _ (List.mem_of_getElem? (i := 11) rfl)) (hw _ (List.mem_of_getElem? (i := 8) rfl)) (by decide) (by decide)) (g := (mkF m 71 #[s0, s1, s2, s3, s4, .val (.int i5), .val (.long j6), .second, .val (.long j8), .second, .unset, .unset, .unset, .unset, .unset, .unset, .unset, .unset] [(.int i5), (.long j6), (.ref b5), (.ref b5)])) rfl (by rw [hml]; rfl) (Steps.refl _) (a := b5) (argsL := [(.long j6), (.int i5)]) (rest := [(.ref b5)]) (lenOf pd_0_1 rfl) rfl (by show 2 * 0 + _ ≤ _; exact Nat.le_of_eq rfl) (hb hby at_71) (fun _ _ => ⟨rfl, e5, (Nat.le_of_ble_eq_true rfl), (Nat.le_of_ble_eq_true rfl)⟩)
  dsimp only [Pt.U, Pt.locs, Pt.cells, Pt.slots] at X6 l6 y6 z6 st6 hQ6
  subst l6 y6 z6
  obtain ⟨rfl, N6q, K6, Ex6, Fn6, Fs6⟩ := hQ6
  have N6 := Fr.app N0 N6q
  obtain ⟨cq7, kq7, q7a, q7b, q7c⟩ := isOf hZ rfl (E_b5.keep K6)
  obtain ⟨_, _, ⟨T7, L7, k7, n7⟩, -, X7, ⟨Lc7, hQ7, l7, y7, z7⟩, st7⟩ := X6.virtualBack hx (y := (⟨"com/example/proration/proration/store/Page", "offset", "()J"⟩ : MethodName)) (z := (⟨"com/example/proration/proration/store/Page", "offset", "()J"⟩ : MethodName)) hown (mvT hZ (hw _ (List.mem_of_getElem? (i := 19) rfl))) (mvT hZ (hw _ (List.mem_of_getElem? (i := 20) rfl))) (notFace_of_selects (args := #[]) (mvT hZ (hw _ (List.mem_of_getElem? (i := 22) rfl)))) (mvT hZ (hw _ (List.mem_of_getElem? (i := 22) rfl))) (mvT hZ (hw _ (List.mem_of_getElem? (i := 21) rfl))) (by decide) (backOf (W := 0) (rm4 l Z a0 hw [] b5 j6 i5 T6.heap n0 (Nat.le_trans (Nat.le_trans Z0 K5.1) K6.1) Fn6 Fs6 hnz) hZ (hw _ (List.mem_of_getElem? (i := 23) rfl)) (hw _ (List.mem_of_getElem? (i := 8) rfl)) (by decide) (by decide)) q7a q7c (g := (mkF m 78 #[s0, s1, s2, s3, s4, .val (.int i5), .val (.long j6), .second, .val (.ref b5), .unset, .unset, .unset, .unset, .unset, .unset, .unset, .unset, .unset] [(.ref b5)])) rfl (by rw [hml]; rfl) (Steps.refl _) (argsL := []) (rest := []) (lenOf pd_0_3 rfl) rfl (by show 2 * 0 + _ ≤ _; exact Nat.le_of_eq rfl) (hb hby at_78) (fun _ _ => ⟨rfl, rfl, (Nat.le_of_ble_eq_true rfl), (Nat.le_of_ble_eq_true rfl)⟩)
  dsimp only [Pt.U, Pt.locs, Pt.cells, Pt.slots] at X7 l7 y7 z7 st7 hQ7
  subst l7 y7 z7
  obtain ⟨rfl, N7q, e7⟩ := hQ7
  have K7 : Keep T6.heap T7.heap [] := by rw [e7]; exact Keep.refl _ _
  have N7 := Fr.app N6 N7q
  obtain ⟨cq8, kq8, q8a, q8b, q8c⟩ := isOf hZ rfl ((E_b5.keep K6).keep K7)
  obtain ⟨_, _, ⟨T8, L8, k8, n8⟩, -, X8, ⟨Lc8, hQ8, l8, y8, z8⟩, st8⟩ := X7.virtualBack hx (y := (⟨"com/example/proration/proration/store/Page", "size", "()I"⟩ : MethodName)) (z := (⟨"com/example/proration/proration/store/Page", "size", "()I"⟩ : MethodName)) hown (mvT hZ (hw _ (List.mem_of_getElem? (i := 25) rfl))) (mvT hZ (hw _ (List.mem_of_getElem? (i := 26) rfl))) (notFace_of_selects (args := #[]) (mvT hZ (hw _ (List.mem_of_getElem? (i := 28) rfl)))) (mvT hZ (hw _ (List.mem_of_getElem? (i := 28) rfl))) (mvT hZ (hw _ (List.mem_of_getElem? (i := 27) rfl))) (by decide) (backOf (W := 0) (rm5 l Z a0 hw [] b5 i5 T7.heap n0 (by rw [e7]; exact Nat.le_trans (Nat.le_trans Z0 K5.1) K6.1) (Fs6.keep K7 nin0)) hZ (hw _ (List.mem_of_getElem? (i := 29) rfl)) (hw _ (List.mem_of_getElem? (i := 8) rfl)) (by decide) (by decide)) q8a q8c (g := (mkF m 148 #[s0, s1, s2, s3, s4, .val (.int i5), .val (.long j6), .second, .val (.ref b5), .val (.long (own_off j6 i5)), .second, .val (.long (j6 - (1 : Int64))), .second, .val (.long ((j6 - (1 : Int64)) * (i5.toInt64))), .second, .val (.int (own_fit i5 (j6 - (1 : Int64)) ((j6 - (1 : Int64)) * (i5.toInt64)))), .val (.long (own_exp ((j6 - (1 : Int64)) * (i5.toInt64)) (own_fit i5 (j6 - (1 : Int64)) ((j6 - (1 : Int64)) * (i5.toInt64))))), .second] [(.ref b5)])) rfl (by rw [hml]; rfl) (Steps.refl _) (argsL := []) (rest := []) (lenOf pd_0_4 rfl) rfl (by show 2 * 0 + _ ≤ _; exact Nat.le_of_eq rfl) (hb hby at_148) (fun _ _ => ⟨rfl, rfl, (Nat.le_of_ble_eq_true rfl), (Nat.le_of_ble_eq_true rfl)⟩)
  dsimp only [Pt.U, Pt.locs, Pt.cells, Pt.slots] at X8 l8 y8 z8 st8 hQ8
  subst l8 y8 z8
  obtain ⟨rfl, N8q, e8⟩ := hQ8
  have N8 := Fr.app N7 N8q
  refine ⟨T8, _, #[s0, s1, s2, s3, s4, .val (.int i5), .val (.long j6), .second, .val (.ref b5), .val (.long (own_off j6 i5)), .second, .val (.long (j6 - (1 : Int64))), .second, .val (.long ((j6 - (1 : Int64)) * (i5.toInt64))), .second, .val (.int (own_fit i5 (j6 - (1 : Int64)) ((j6 - (1 : Int64)) * (i5.toInt64)))), .val (.long (own_exp ((j6 - (1 : Int64)) * (i5.toInt64)) (own_fit i5 (j6 - (1 : Int64)) ((j6 - (1 : Int64)) * (i5.toInt64))))), .second], X8, N8, fun target kt => ?_⟩
  show Steps p.tables e below (T0.setTop (mkF m 63 #[s0, s1, s2, s3, s4, .val (.int i5), .val (.long j6), .second, .val (.long j8), .second, .unset, .unset, .unset, .unset, .unset, .unset, .unset, .unset] [])) _
  refine st5 _ ?_
  show Steps p.tables e below (T5.setTop (mkF m 66 #[s0, s1, s2, s3, s4, .val (.int i5), .val (.long j6), .second, .val (.long j8), .second, .unset, .unset, .unset, .unset, .unset, .unset, .unset, .unset] [(.ref b5)])) _
  refine XS.dup X5.here hx rfl (hb hby at_66) rfl rfl ?_
  show Steps p.tables e below (T5.setTop (mkF m 67 #[s0, s1, s2, s3, s4, .val (.int i5), .val (.long j6), .second, .val (.long j8), .second, .unset, .unset, .unset, .unset, .unset, .unset, .unset, .unset] [(.ref b5), (.ref b5)])) _
  refine XS.lload X5.here hx rfl (hb hby at_67) rfl ?_
  show Steps p.tables e below (T5.setTop (mkF m 69 #[s0, s1, s2, s3, s4, .val (.int i5), .val (.long j6), .second, .val (.long j8), .second, .unset, .unset, .unset, .unset, .unset, .unset, .unset, .unset] [(.long j6), (.ref b5), (.ref b5)])) _
  refine XS.iload X5.here hx rfl (hb hby at_69) rfl ?_
  show Steps p.tables e below (T5.setTop (mkF m 71 #[s0, s1, s2, s3, s4, .val (.int i5), .val (.long j6), .second, .val (.long j8), .second, .unset, .unset, .unset, .unset, .unset, .unset, .unset, .unset] [(.int i5), (.long j6), (.ref b5), (.ref b5)])) _
  refine st6.trans ?_
  show Steps p.tables e below (T6.setTop (mkF m 74 #[s0, s1, s2, s3, s4, .val (.int i5), .val (.long j6), .second, .val (.long j8), .second, .unset, .unset, .unset, .unset, .unset, .unset, .unset, .unset] [(.ref b5)])) _
  refine XS.astore X6.here hx rfl (hb hby at_74) rfl rfl (l' := #[s0, s1, s2, s3, s4, .val (.int i5), .val (.long j6), .second, .val (.ref b5), .unset, .unset, .unset, .unset, .unset, .unset, .unset, .unset, .unset]) rfl ?_
  show Steps p.tables e below (T6.setTop (mkF m 76 #[s0, s1, s2, s3, s4, .val (.int i5), .val (.long j6), .second, .val (.ref b5), .unset, .unset, .unset, .unset, .unset, .unset, .unset, .unset, .unset] [])) _
  refine XS.aload X6.here hx rfl (hb hby at_76) rfl rfl ?_
  show Steps p.tables e below (T6.setTop (mkF m 78 #[s0, s1, s2, s3, s4, .val (.int i5), .val (.long j6), .second, .val (.ref b5), .unset, .unset, .unset, .unset, .unset, .unset, .unset, .unset, .unset] [(.ref b5)])) _
  refine st7.trans ?_
  show Steps p.tables e below (T7.setTop (mkF m 81 #[s0, s1, s2, s3, s4, .val (.int i5), .val (.long j6), .second, .val (.ref b5), .unset, .unset, .unset, .unset, .unset, .unset, .unset, .unset, .unset] [(.long (own_off j6 i5))])) _
  refine XS.lstore X7.here hx rfl (hb hby at_81) rfl (l' := #[s0, s1, s2, s3, s4, .val (.int i5), .val (.long j6), .second, .val (.ref b5), .val (.long (own_off j6 i5)), .second, .unset, .unset, .unset, .unset, .unset, .unset, .unset]) rfl ?_
  show Steps p.tables e below (T7.setTop (mkF m 83 #[s0, s1, s2, s3, s4, .val (.int i5), .val (.long j6), .second, .val (.ref b5), .val (.long (own_off j6 i5)), .second, .unset, .unset, .unset, .unset, .unset, .unset, .unset] [])) _
  refine XS.lload X7.here hx rfl (hb hby at_83) rfl ?_
  show Steps p.tables e below (T7.setTop (mkF m 85 #[s0, s1, s2, s3, s4, .val (.int i5), .val (.long j6), .second, .val (.ref b5), .val (.long (own_off j6 i5)), .second, .unset, .unset, .unset, .unset, .unset, .unset, .unset] [(.long j6)])) _
  refine XS.lconst X7.here hx rfl (hb hby at_85) ?_
  show Steps p.tables e below (T7.setTop (mkF m 86 #[s0, s1, s2, s3, s4, .val (.int i5), .val (.long j6), .second, .val (.ref b5), .val (.long (own_off j6 i5)), .second, .unset, .unset, .unset, .unset, .unset, .unset, .unset] [(.long (1 : Int64)), (.long j6)])) _
  refine XS.lsub X7.here hx rfl (hb hby at_86) rfl ?_
  show Steps p.tables e below (T7.setTop (mkF m 87 #[s0, s1, s2, s3, s4, .val (.int i5), .val (.long j6), .second, .val (.ref b5), .val (.long (own_off j6 i5)), .second, .unset, .unset, .unset, .unset, .unset, .unset, .unset] [(.long (j6 - (1 : Int64)))])) _
  refine XS.lstore X7.here hx rfl (hb hby at_87) rfl (l' := #[s0, s1, s2, s3, s4, .val (.int i5), .val (.long j6), .second, .val (.ref b5), .val (.long (own_off j6 i5)), .second, .val (.long (j6 - (1 : Int64))), .second, .unset, .unset, .unset, .unset, .unset]) rfl ?_
  show Steps p.tables e below (T7.setTop (mkF m 89 #[s0, s1, s2, s3, s4, .val (.int i5), .val (.long j6), .second, .val (.ref b5), .val (.long (own_off j6 i5)), .second, .val (.long (j6 - (1 : Int64))), .second, .unset, .unset, .unset, .unset, .unset] [])) _
  refine XS.lload X7.here hx rfl (hb hby at_89) rfl ?_
  show Steps p.tables e below (T7.setTop (mkF m 91 #[s0, s1, s2, s3, s4, .val (.int i5), .val (.long j6), .second, .val (.ref b5), .val (.long (own_off j6 i5)), .second, .val (.long (j6 - (1 : Int64))), .second, .unset, .unset, .unset, .unset, .unset] [(.long (j6 - (1 : Int64)))])) _
  refine XS.iload X7.here hx rfl (hb hby at_91) rfl ?_
  show Steps p.tables e below (T7.setTop (mkF m 93 #[s0, s1, s2, s3, s4, .val (.int i5), .val (.long j6), .second, .val (.ref b5), .val (.long (own_off j6 i5)), .second, .val (.long (j6 - (1 : Int64))), .second, .unset, .unset, .unset, .unset, .unset] [(.int i5), (.long (j6 - (1 : Int64)))])) _
  refine XS.i2l X7.here hx rfl (hb hby at_93) rfl ?_
  show Steps p.tables e below (T7.setTop (mkF m 94 #[s0, s1, s2, s3, s4, .val (.int i5), .val (.long j6), .second, .val (.ref b5), .val (.long (own_off j6 i5)), .second, .val (.long (j6 - (1 : Int64))), .second, .unset, .unset, .unset, .unset, .unset] [(.long (i5.toInt64)), (.long (j6 - (1 : Int64)))])) _
  refine XS.lmul X7.here hx rfl (hb hby at_94) rfl ?_
  show Steps p.tables e below (T7.setTop (mkF m 95 #[s0, s1, s2, s3, s4, .val (.int i5), .val (.long j6), .second, .val (.ref b5), .val (.long (own_off j6 i5)), .second, .val (.long (j6 - (1 : Int64))), .second, .unset, .unset, .unset, .unset, .unset] [(.long ((j6 - (1 : Int64)) * (i5.toInt64)))])) _
  refine XS.lstore X7.here hx rfl (hb hby at_95) rfl (l' := #[s0, s1, s2, s3, s4, .val (.int i5), .val (.long j6), .second, .val (.ref b5), .val (.long (own_off j6 i5)), .second, .val (.long (j6 - (1 : Int64))), .second, .val (.long ((j6 - (1 : Int64)) * (i5.toInt64))), .second, .unset, .unset, .unset]) rfl ?_
  show Steps p.tables e below (T7.setTop (mkF m 97 #[s0, s1, s2, s3, s4, .val (.int i5), .val (.long j6), .second, .val (.ref b5), .val (.long (own_off j6 i5)), .second, .val (.long (j6 - (1 : Int64))), .second, .val (.long ((j6 - (1 : Int64)) * (i5.toInt64))), .second, .unset, .unset, .unset] [])) _
  refine own_f1 X7 hx hZ hw hby hml hown hnz _ ?_
  show Steps p.tables e below (T7.setTop (mkF m 121 #[s0, s1, s2, s3, s4, .val (.int i5), .val (.long j6), .second, .val (.ref b5), .val (.long (own_off j6 i5)), .second, .val (.long (j6 - (1 : Int64))), .second, .val (.long ((j6 - (1 : Int64)) * (i5.toInt64))), .second, .unset, .unset, .unset] [(.int (own_fit i5 (j6 - (1 : Int64)) ((j6 - (1 : Int64)) * (i5.toInt64))))])) _
  refine XS.istore X7.here hx rfl (hb hby at_121) rfl (l' := #[s0, s1, s2, s3, s4, .val (.int i5), .val (.long j6), .second, .val (.ref b5), .val (.long (own_off j6 i5)), .second, .val (.long (j6 - (1 : Int64))), .second, .val (.long ((j6 - (1 : Int64)) * (i5.toInt64))), .second, .val (.int (own_fit i5 (j6 - (1 : Int64)) ((j6 - (1 : Int64)) * (i5.toInt64)))), .unset, .unset]) rfl ?_
  show Steps p.tables e below (T7.setTop (mkF m 123 #[s0, s1, s2, s3, s4, .val (.int i5), .val (.long j6), .second, .val (.ref b5), .val (.long (own_off j6 i5)), .second, .val (.long (j6 - (1 : Int64))), .second, .val (.long ((j6 - (1 : Int64)) * (i5.toInt64))), .second, .val (.int (own_fit i5 (j6 - (1 : Int64)) ((j6 - (1 : Int64)) * (i5.toInt64)))), .unset, .unset] [])) _
  refine own_f2 X7 hx hZ hw hby hml hown _ ?_
  show Steps p.tables e below (T7.setTop (mkF m 136 #[s0, s1, s2, s3, s4, .val (.int i5), .val (.long j6), .second, .val (.ref b5), .val (.long (own_off j6 i5)), .second, .val (.long (j6 - (1 : Int64))), .second, .val (.long ((j6 - (1 : Int64)) * (i5.toInt64))), .second, .val (.int (own_fit i5 (j6 - (1 : Int64)) ((j6 - (1 : Int64)) * (i5.toInt64)))), .unset, .unset] [(.long (own_exp ((j6 - (1 : Int64)) * (i5.toInt64)) (own_fit i5 (j6 - (1 : Int64)) ((j6 - (1 : Int64)) * (i5.toInt64)))))])) _
  refine XS.lstore X7.here hx rfl (hb hby at_136) rfl (l' := #[s0, s1, s2, s3, s4, .val (.int i5), .val (.long j6), .second, .val (.ref b5), .val (.long (own_off j6 i5)), .second, .val (.long (j6 - (1 : Int64))), .second, .val (.long ((j6 - (1 : Int64)) * (i5.toInt64))), .second, .val (.int (own_fit i5 (j6 - (1 : Int64)) ((j6 - (1 : Int64)) * (i5.toInt64)))), .val (.long (own_exp ((j6 - (1 : Int64)) * (i5.toInt64)) (own_fit i5 (j6 - (1 : Int64)) ((j6 - (1 : Int64)) * (i5.toInt64))))), .second]) rfl ?_
  show Steps p.tables e below (T7.setTop (mkF m 138 #[s0, s1, s2, s3, s4, .val (.int i5), .val (.long j6), .second, .val (.ref b5), .val (.long (own_off j6 i5)), .second, .val (.long (j6 - (1 : Int64))), .second, .val (.long ((j6 - (1 : Int64)) * (i5.toInt64))), .second, .val (.int (own_fit i5 (j6 - (1 : Int64)) ((j6 - (1 : Int64)) * (i5.toInt64)))), .val (.long (own_exp ((j6 - (1 : Int64)) * (i5.toInt64)) (own_fit i5 (j6 - (1 : Int64)) ((j6 - (1 : Int64)) * (i5.toInt64))))), .second] [])) _
  refine XS.lload X7.here hx rfl (hb hby at_138) rfl ?_
  show Steps p.tables e below (T7.setTop (mkF m 140 #[s0, s1, s2, s3, s4, .val (.int i5), .val (.long j6), .second, .val (.ref b5), .val (.long (own_off j6 i5)), .second, .val (.long (j6 - (1 : Int64))), .second, .val (.long ((j6 - (1 : Int64)) * (i5.toInt64))), .second, .val (.int (own_fit i5 (j6 - (1 : Int64)) ((j6 - (1 : Int64)) * (i5.toInt64)))), .val (.long (own_exp ((j6 - (1 : Int64)) * (i5.toInt64)) (own_fit i5 (j6 - (1 : Int64)) ((j6 - (1 : Int64)) * (i5.toInt64))))), .second] [(.long (own_off j6 i5))])) _
  refine XS.lload X7.here hx rfl (hb hby at_140) rfl ?_
  show Steps p.tables e below (T7.setTop (mkF m 142 #[s0, s1, s2, s3, s4, .val (.int i5), .val (.long j6), .second, .val (.ref b5), .val (.long (own_off j6 i5)), .second, .val (.long (j6 - (1 : Int64))), .second, .val (.long ((j6 - (1 : Int64)) * (i5.toInt64))), .second, .val (.int (own_fit i5 (j6 - (1 : Int64)) ((j6 - (1 : Int64)) * (i5.toInt64)))), .val (.long (own_exp ((j6 - (1 : Int64)) * (i5.toInt64)) (own_fit i5 (j6 - (1 : Int64)) ((j6 - (1 : Int64)) * (i5.toInt64))))), .second] [(.long (own_exp ((j6 - (1 : Int64)) * (i5.toInt64)) (own_fit i5 (j6 - (1 : Int64)) ((j6 - (1 : Int64)) * (i5.toInt64))))), (.long (own_off j6 i5))])) _
  refine XS.lcmp X7.here hx rfl (hb hby at_142) rfl ?_
  show Steps p.tables e below (T7.setTop (mkF m 143 #[s0, s1, s2, s3, s4, .val (.int i5), .val (.long j6), .second, .val (.ref b5), .val (.long (own_off j6 i5)), .second, .val (.long (j6 - (1 : Int64))), .second, .val (.long ((j6 - (1 : Int64)) * (i5.toInt64))), .second, .val (.int (own_fit i5 (j6 - (1 : Int64)) ((j6 - (1 : Int64)) * (i5.toInt64)))), .val (.long (own_exp ((j6 - (1 : Int64)) * (i5.toInt64)) (own_fit i5 (j6 - (1 : Int64)) ((j6 - (1 : Int64)) * (i5.toInt64))))), .second] [(.int (lcmpW (own_off j6 i5) (own_exp ((j6 - (1 : Int64)) * (i5.toInt64)) (own_fit i5 (j6 - (1 : Int64)) ((j6 - (1 : Int64)) * (i5.toInt64))))))])) _
  refine XS.ifNo X7.here hx rfl (hb hby at_143) rfl ((if0 _ _).trans (teq ((lw_eq _ _).mpr (own_law j6 i5 hj hi) : (lcmpW (own_off j6 i5) (own_exp ((j6 - (1 : Int64)) * (i5.toInt64)) (own_fit i5 (j6 - (1 : Int64)) ((j6 - (1 : Int64)) * (i5.toInt64))))) = (0 : Int32))).2) ?_
  show Steps p.tables e below (T7.setTop (mkF m 146 #[s0, s1, s2, s3, s4, .val (.int i5), .val (.long j6), .second, .val (.ref b5), .val (.long (own_off j6 i5)), .second, .val (.long (j6 - (1 : Int64))), .second, .val (.long ((j6 - (1 : Int64)) * (i5.toInt64))), .second, .val (.int (own_fit i5 (j6 - (1 : Int64)) ((j6 - (1 : Int64)) * (i5.toInt64)))), .val (.long (own_exp ((j6 - (1 : Int64)) * (i5.toInt64)) (own_fit i5 (j6 - (1 : Int64)) ((j6 - (1 : Int64)) * (i5.toInt64))))), .second] [])) _
  refine XS.aload X7.here hx rfl (hb hby at_146) rfl rfl ?_
  show Steps p.tables e below (T7.setTop (mkF m 148 #[s0, s1, s2, s3, s4, .val (.int i5), .val (.long j6), .second, .val (.ref b5), .val (.long (own_off j6 i5)), .second, .val (.long (j6 - (1 : Int64))), .second, .val (.long ((j6 - (1 : Int64)) * (i5.toInt64))), .second, .val (.int (own_fit i5 (j6 - (1 : Int64)) ((j6 - (1 : Int64)) * (i5.toInt64)))), .val (.long (own_exp ((j6 - (1 : Int64)) * (i5.toInt64)) (own_fit i5 (j6 - (1 : Int64)) ((j6 - (1 : Int64)) * (i5.toInt64))))), .second] [(.ref b5)])) _
  refine st8.trans ?_
  show Steps p.tables e below (T8.setTop (mkF m 151 #[s0, s1, s2, s3, s4, .val (.int i5), .val (.long j6), .second, .val (.ref b5), .val (.long (own_off j6 i5)), .second, .val (.long (j6 - (1 : Int64))), .second, .val (.long ((j6 - (1 : Int64)) * (i5.toInt64))), .second, .val (.int (own_fit i5 (j6 - (1 : Int64)) ((j6 - (1 : Int64)) * (i5.toInt64)))), .val (.long (own_exp ((j6 - (1 : Int64)) * (i5.toInt64)) (own_fit i5 (j6 - (1 : Int64)) ((j6 - (1 : Int64)) * (i5.toInt64))))), .second] [(.int i5)])) _
  refine XS.iload X8.here hx rfl (hb hby at_151) rfl ?_
  show Steps p.tables e below (T8.setTop (mkF m 153 #[s0, s1, s2, s3, s4, .val (.int i5), .val (.long j6), .second, .val (.ref b5), .val (.long (own_off j6 i5)), .second, .val (.long (j6 - (1 : Int64))), .second, .val (.long ((j6 - (1 : Int64)) * (i5.toInt64))), .second, .val (.int (own_fit i5 (j6 - (1 : Int64)) ((j6 - (1 : Int64)) * (i5.toInt64)))), .val (.long (own_exp ((j6 - (1 : Int64)) * (i5.toInt64)) (own_fit i5 (j6 - (1 : Int64)) ((j6 - (1 : Int64)) * (i5.toInt64))))), .second] [(.int i5), (.int i5)])) _
  refine XS.icmpNo X8.here hx rfl (hb hby at_153) rfl (teq (rfl : i5 = i5)).2 ?_
  show Steps p.tables e below (T8.setTop (mkF m 156 #[s0, s1, s2, s3, s4, .val (.int i5), .val (.long j6), .second, .val (.ref b5), .val (.long (own_off j6 i5)), .second, .val (.long (j6 - (1 : Int64))), .second, .val (.long ((j6 - (1 : Int64)) * (i5.toInt64))), .second, .val (.int (own_fit i5 (j6 - (1 : Int64)) ((j6 - (1 : Int64)) * (i5.toInt64)))), .val (.long (own_exp ((j6 - (1 : Int64)) * (i5.toInt64)) (own_fit i5 (j6 - (1 : Int64)) ((j6 - (1 : Int64)) * (i5.toInt64))))), .second] [])) _
  refine XS.iconst X8.here hx rfl (hb hby at_156) ?_
  show Steps p.tables e below (T8.setTop (mkF m 157 #[s0, s1, s2, s3, s4, .val (.int i5), .val (.long j6), .second, .val (.ref b5), .val (.long (own_off j6 i5)), .second, .val (.long (j6 - (1 : Int64))), .second, .val (.long ((j6 - (1 : Int64)) * (i5.toInt64))), .second, .val (.int (own_fit i5 (j6 - (1 : Int64)) ((j6 - (1 : Int64)) * (i5.toInt64)))), .val (.long (own_exp ((j6 - (1 : Int64)) * (i5.toInt64)) (own_fit i5 (j6 - (1 : Int64)) ((j6 - (1 : Int64)) * (i5.toInt64))))), .second] [(.int (1 : Int32))])) _
  refine XS.goto X8.here hx rfl (pc0 := 157) (pc' := 161) rfl (hb hby at_157) (by decide) (by decide) ?_
  exact kt
theorem pn_0 : plainName "com/example/proration/proration/store/PageOffsetPinLaw" = true := by first | (simp [plainName, overriddenIn]; done) | decide +kernel
theorem ef_0 (m : MethodId) (x0 : Int64) (x1 : Int32) (x2 : Int32) (x3 : Int32) : entryFrame m #[(.long x0), (.int x1), (.int x2), (.int x3)] maxLocals = mkF m 0 #[.val (.long x0), .second, .val (.int x1), .val (.int x2), .val (.int x3), .unset, .unset, .unset, .unset, .unset, .unset, .unset, .unset, .unset, .unset, .unset, .unset, .unset] [] := by first | (simp [entryFrame, mkF, argsToLocals, Value.category, maxLocals]; done) | rfl
theorem pd_0_m : parseMethodDescriptor "(II)I" = some ⟨[.int, .int], some .int⟩ := by decide +kernel
def Q0 (Z : State) (q1 : Int64) (p2 : Int32) (p3 : Int32) (p4 : Int32) (h0 : Heap) (n0 : Nat) (v : Option Value) (h : Heap) (L : List Loc) : Prop := v = some (.int (1 : Int32)) ∧ Fr n0 L
theorem pd_0_5 : parseMethodDescriptor "(JJ)J" = some ⟨[.long, .long], some .long⟩ := by decide +kernel
set_option maxRecDepth 65536 in
set_option maxHeartbeats 40000000 in
theorem rm0_t (l : Launch) (Z : State) (a0 : Array Value) (hw : ∀ d ∈ tables_1, d.before a0 Z = true) (ws : List Jvm.Cond) (q1 : Int64) (p2 : Int32) (p3 : Int32) (p4 : Int32) (h0 : Heap) (n0 : Nat) (Z0 : n0 ≤ h0.size) (hc13 : (p3 &&& (1 : Int32)) = (0 : Int32)) :
    MetFree l x (head1 (Jvm.Cond.code x code maxLocals ret :: ws) room_1) (fun a U => a = #[(.long q1), (.int p2), (.int p3), (.int p4)] ∧ Z.Warmed39 U.vm ∧ U.heap = h0) (fun _ _ _ _ _ => True) (fun _ U o U' => ∃ v L, o = .returned v ∧ Q0 Z q1 p2 p3 p4 h0 n0 v U'.heap L ∧ FrameEnd U o U' L room_1.cells room_1.slots) := by
  refine MetFree.of_bodySF (plainFor_of_name pn_0) hisR ?_
  intro p e s m args below meth c s₁ Bd hml0 hP hK
  obtain ⟨rfl, hZ, hh⟩ := hP
  have hx := Bd.exec
  have hby := Bd.bytes
  have hml : c.maxLocals = 18 := hml0
  have hown : s.vm.findClass "com/example/proration/proration/store/PageOffsetPinLaw" = some m.cls := findClass_of_methodNamed Bd.named
  have hnm := (name_of_methodNamed Bd.named Bd.method).1
  have X0 : Stand p l e room_1 s m #[(.long q1), (.int p2), (.int p3), (.int p4)] below meth c s₁ [] 0 0 := Stand.of_body Bd
  have e0 : s₁.heap = h0 := by rw [← hh, Bd.state]; rfl
  have N0 := Fr.nil n0
  have pre0 : ∀ t, Steps p.tables e below (s₁.setTop (mkF m 0 #[.val (.long q1), .second, .val (.int p2), .val (.int p3), .val (.int p4), .unset, .unset, .unset, .unset, .unset, .unset, .unset, .unset, .unset, .unset, .unset, .unset, .unset] [])) t → Steps p.tables e below (s₁.setTop (entryFrame m #[(.long q1), (.int p2), (.int p3), (.int p4)] maxLocals)) t := fun t k => castTop (ef_0 m q1 p2 p3 p4) k
  obtain ⟨_, _, ⟨Ta, La, ka, na⟩, -, Xa, ⟨Lca, hQa, la, ya, za⟩, sta⟩ := Jvm.LawKit.callS X0 hx (y := (⟨"java/lang/Math", "max", "(II)I"⟩ : MethodName)) hown (mvT hZ (hw _ (List.mem_of_getElem? (i := 1) rfl))) (mvT hZ (hw _ (List.mem_of_getElem? (i := 2) rfl))) (mvT hZ (hw _ (List.mem_of_getElem? (i := 3) rfl))) (mvT hZ (hw _ (List.mem_of_getElem? (i := 4) rfl))) (by decide) (backOf (W := 0) (rm1 l Z a0 hw [] (1 : Int32) (p2 &&& (2147483647 : Int32)) h0 n0 Z0) hZ (hw _ (List.mem_of_getElem? (i := 4) rfl)) (hw _ (List.mem_of_getElem? (i := 3) rfl)) (by decide) (by decide)) (g := (mkF m 5 #[.val (.long q1), .second, .val (.int p2), .val (.int p3), .val (.int p4), .unset, .unset, .unset, .unset, .unset, .unset, .unset, .unset, .unset, .unset, .unset, .unset, .unset] [(.int (p2 &&& (2147483647 : Int32))), (.int (1 : Int32))])) rfl (by rw [hml]; rfl) (argsL := [(.int (1 : Int32)), (.int (p2 &&& (2147483647 : Int32)))]) (rest := []) (lenOf pd_0_m rfl) rfl (by show 2 * 0 + _ ≤ _; exact Nat.le_of_eq rfl) (hb hby at_5) (fun _ _ => ⟨rfl, e0, (by decide : 0 + 0 ≤ _), (by decide : 0 + 0 ≤ _)⟩)
  dsimp only [Pt.U, Pt.locs, Pt.cells, Pt.slots] at Xa la ya za sta hQa
  subst la ya za
  obtain ⟨rfl, Naq, ea⟩ := hQa
  have Na := Fr.app N0 Naq
  have hi := own_size p2
  have hnz := own_nz hi
  obtain ⟨_, _, ⟨T5, L5, k5, n5⟩, -, X5, ⟨Lc5, hQ5, l5, y5, z5⟩, st5⟩ := Jvm.LawKit.callS Xa hx (y := (⟨"java/lang/Math", "max", "(JJ)J"⟩ : MethodName)) hown (mvT hZ (hw _ (List.mem_of_getElem? (i := 30) rfl))) (mvT hZ (hw _ (List.mem_of_getElem? (i := 31) rfl))) (mvT hZ (hw _ (List.mem_of_getElem? (i := 3) rfl))) (mvT hZ (hw _ (List.mem_of_getElem? (i := 32) rfl))) (by decide) (backOf (W := 0) (rm6 l Z a0 hw [] (1 : Int64) (q1 &&& (9223372036854775807 : Int64)) h0 n0 Z0) hZ (hw _ (List.mem_of_getElem? (i := 32) rfl)) (hw _ (List.mem_of_getElem? (i := 3) rfl)) (by decide) (by decide)) (g := (mkF m 58 #[.val (.long q1), .second, .val (.int p2), .val (.int p3), .val (.int p4), .val (.int (own_max (1 : Int32) (p2 &&& (2147483647 : Int32)))), .unset, .unset, .unset, .unset, .unset, .unset, .unset, .unset, .unset, .unset, .unset, .unset] [(.long (q1 &&& (9223372036854775807 : Int64))), (.long (1 : Int64))])) rfl (by rw [hml]; rfl) (argsL := [(.long (1 : Int64)), (.long (q1 &&& (9223372036854775807 : Int64)))]) (rest := []) (lenOf pd_0_5 rfl) rfl (by show 2 * 0 + _ ≤ _; exact Nat.le_of_eq rfl) (hb hby at_58) (fun _ _ => ⟨rfl, ea, (Nat.le_of_ble_eq_true rfl), (Nat.le_of_ble_eq_true rfl)⟩)
  dsimp only [Pt.U, Pt.locs, Pt.cells, Pt.slots] at X5 l5 y5 z5 st5 hQ5
  subst l5 y5 z5
  obtain ⟨rfl, N5q, e5⟩ := hQ5
  have N5 := Fr.app Na N5q
  obtain ⟨Tz, Lz, Lsz, Xz, Nz, stz⟩ := own_tail_u (s0 := .val (.long q1)) (s1 := .second) (s2 := .val (.int p2)) (s3 := .val (.int p3)) (s4 := .val (.int p4)) (i5 := (own_max (1 : Int32) (p2 &&& (2147483647 : Int32)))) (j6 := (own_maxl (1 : Int64) (q1 &&& (9223372036854775807 : Int64)))) X5 hx hZ hw hby hml hown rfl N5 (by rw [e5]; exact Z0) (own_num1 q1) hi hnz
  obtain ⟨fs, hr, hrun, hended, hW, hsame⟩ := Xz.leave (v := some (.int (1 : Int32))) (fun h => by rw [Bd.returns] at h; cases h)
  refine ⟨_, _, pre0 _ ?_, hrun, hended, _, _, rfl, ?_, ⟨_, rfl⟩, hW, hsame.mono (by decide) (by decide)⟩
  · show Steps p.tables e below (s₁.setTop (mkF m 0 #[.val (.long q1), .second, .val (.int p2), .val (.int p3), .val (.int p4), .unset, .unset, .unset, .unset, .unset, .unset, .unset, .unset, .unset, .unset, .unset, .unset, .unset] [])) _
    refine XS.iconst X0.here hx rfl (hb hby at_0) ?_
    show Steps p.tables e below (s₁.setTop (mkF m 1 #[.val (.long q1), .second, .val (.int p2), .val (.int p3), .val (.int p4), .unset, .unset, .unset, .unset, .unset, .unset, .unset, .unset, .unset, .unset, .unset, .unset, .unset] [(.int (1 : Int32))])) _
    refine XS.iloadN X0.here hx rfl (hb hby at_1) rfl ?_
    show Steps p.tables e below (s₁.setTop (mkF m 2 #[.val (.long q1), .second, .val (.int p2), .val (.int p3), .val (.int p4), .unset, .unset, .unset, .unset, .unset, .unset, .unset, .unset, .unset, .unset, .unset, .unset, .unset] [(.int p2), (.int (1 : Int32))])) _
    refine X0.ldcInt hx hown (mvT hZ (hw _ (List.mem_of_getElem? (i := 0) rfl))) (g := (mkF m 2 #[.val (.long q1), .second, .val (.int p2), .val (.int p3), .val (.int p4), .unset, .unset, .unset, .unset, .unset, .unset, .unset, .unset, .unset, .unset, .unset, .unset, .unset] [(.int p2), (.int (1 : Int32))])) rfl (hb hby at_2) _ ?_
    show Steps p.tables e below (s₁.setTop (mkF m 4 #[.val (.long q1), .second, .val (.int p2), .val (.int p3), .val (.int p4), .unset, .unset, .unset, .unset, .unset, .unset, .unset, .unset, .unset, .unset, .unset, .unset, .unset] [(.int (2147483647 : Int32)), (.int p2), (.int (1 : Int32))])) _
    refine XS.iand X0.here hx rfl (hb hby at_4) rfl ?_
    show Steps p.tables e below (s₁.setTop (mkF m 5 #[.val (.long q1), .second, .val (.int p2), .val (.int p3), .val (.int p4), .unset, .unset, .unset, .unset, .unset, .unset, .unset, .unset, .unset, .unset, .unset, .unset, .unset] [(.int (p2 &&& (2147483647 : Int32))), (.int (1 : Int32))])) _
    refine sta _ ?_
    show Steps p.tables e below (Ta.setTop (mkF m 8 #[.val (.long q1), .second, .val (.int p2), .val (.int p3), .val (.int p4), .unset, .unset, .unset, .unset, .unset, .unset, .unset, .unset, .unset, .unset, .unset, .unset, .unset] [(.int (own_max (1 : Int32) (p2 &&& (2147483647 : Int32))))])) _
    refine XS.istore Xa.here hx rfl (hb hby at_8) rfl (l' := #[.val (.long q1), .second, .val (.int p2), .val (.int p3), .val (.int p4), .val (.int (own_max (1 : Int32) (p2 &&& (2147483647 : Int32)))), .unset, .unset, .unset, .unset, .unset, .unset, .unset, .unset, .unset, .unset, .unset, .unset]) rfl ?_
    show Steps p.tables e below (Ta.setTop (mkF m 10 #[.val (.long q1), .second, .val (.int p2), .val (.int p3), .val (.int p4), .val (.int (own_max (1 : Int32) (p2 &&& (2147483647 : Int32)))), .unset, .unset, .unset, .unset, .unset, .unset, .unset, .unset, .unset, .unset, .unset, .unset] [])) _
    show Steps p.tables e below (Ta.setTop (mkF m 10 #[.val (.long q1), .second, .val (.int p2), .val (.int p3), .val (.int p4), .val (.int (own_max (1 : Int32) (p2 &&& (2147483647 : Int32)))), .unset, .unset, .unset, .unset, .unset, .unset, .unset, .unset, .unset, .unset, .unset, .unset] [])) _
    refine XS.iloadN Xa.here hx rfl (hb hby at_10) rfl ?_
    show Steps p.tables e below (Ta.setTop (mkF m 11 #[.val (.long q1), .second, .val (.int p2), .val (.int p3), .val (.int p4), .val (.int (own_max (1 : Int32) (p2 &&& (2147483647 : Int32)))), .unset, .unset, .unset, .unset, .unset, .unset, .unset, .unset, .unset, .unset, .unset, .unset] [(.int p3)])) _
    refine XS.iconst Xa.here hx rfl (hb hby at_11) ?_
    show Steps p.tables e below (Ta.setTop (mkF m 12 #[.val (.long q1), .second, .val (.int p2), .val (.int p3), .val (.int p4), .val (.int (own_max (1 : Int32) (p2 &&& (2147483647 : Int32)))), .unset, .unset, .unset, .unset, .unset, .unset, .unset, .unset, .unset, .unset, .unset, .unset] [(.int (1 : Int32)), (.int p3)])) _
    refine XS.iand Xa.here hx rfl (hb hby at_12) rfl ?_
    show Steps p.tables e below (Ta.setTop (mkF m 13 #[.val (.long q1), .second, .val (.int p2), .val (.int p3), .val (.int p4), .val (.int (own_max (1 : Int32) (p2 &&& (2147483647 : Int32)))), .unset, .unset, .unset, .unset, .unset, .unset, .unset, .unset, .unset, .unset, .unset, .unset] [(.int (p3 &&& (1 : Int32)))])) _
    refine XS.ifYes Xa.here hx rfl (pc0 := 13) (pc' := 52) rfl (hb hby at_13) rfl ((if0 _ _).trans (teq hc13).1) (by decide) (by decide) ?_
    show Steps p.tables e below (Ta.setTop (mkF m 52 #[.val (.long q1), .second, .val (.int p2), .val (.int p3), .val (.int p4), .val (.int (own_max (1 : Int32) (p2 &&& (2147483647 : Int32)))), .unset, .unset, .unset, .unset, .unset, .unset, .unset, .unset, .unset, .unset, .unset, .unset] [])) _
    refine XS.lconst Xa.here hx rfl (hb hby at_52) ?_
    show Steps p.tables e below (Ta.setTop (mkF m 53 #[.val (.long q1), .second, .val (.int p2), .val (.int p3), .val (.int p4), .val (.int (own_max (1 : Int32) (p2 &&& (2147483647 : Int32)))), .unset, .unset, .unset, .unset, .unset, .unset, .unset, .unset, .unset, .unset, .unset, .unset] [(.long (1 : Int64))])) _
    refine XS.lloadN Xa.here hx rfl (hb hby at_53) rfl ?_
    show Steps p.tables e below (Ta.setTop (mkF m 54 #[.val (.long q1), .second, .val (.int p2), .val (.int p3), .val (.int p4), .val (.int (own_max (1 : Int32) (p2 &&& (2147483647 : Int32)))), .unset, .unset, .unset, .unset, .unset, .unset, .unset, .unset, .unset, .unset, .unset, .unset] [(.long q1), (.long (1 : Int64))])) _
    refine Xa.ldc2Long hx hown (mvT hZ (hw _ (List.mem_of_getElem? (i := 5) rfl))) (g := (mkF m 54 #[.val (.long q1), .second, .val (.int p2), .val (.int p3), .val (.int p4), .val (.int (own_max (1 : Int32) (p2 &&& (2147483647 : Int32)))), .unset, .unset, .unset, .unset, .unset, .unset, .unset, .unset, .unset, .unset, .unset, .unset] [(.long q1), (.long (1 : Int64))])) rfl (hb hby at_54) _ ?_
    show Steps p.tables e below (Ta.setTop (mkF m 57 #[.val (.long q1), .second, .val (.int p2), .val (.int p3), .val (.int p4), .val (.int (own_max (1 : Int32) (p2 &&& (2147483647 : Int32)))), .unset, .unset, .unset, .unset, .unset, .unset, .unset, .unset, .unset, .unset, .unset, .unset] [(.long (9223372036854775807 : Int64)), (.long q1), (.long (1 : Int64))])) _
    refine XS.land Xa.here hx rfl (hb hby at_57) rfl ?_
    show Steps p.tables e below (Ta.setTop (mkF m 58 #[.val (.long q1), .second, .val (.int p2), .val (.int p3), .val (.int p4), .val (.int (own_max (1 : Int32) (p2 &&& (2147483647 : Int32)))), .unset, .unset, .unset, .unset, .unset, .unset, .unset, .unset, .unset, .unset, .unset, .unset] [(.long (q1 &&& (9223372036854775807 : Int64))), (.long (1 : Int64))])) _
    refine st5 _ ?_
    show Steps p.tables e below (T5.setTop (mkF m 61 #[.val (.long q1), .second, .val (.int p2), .val (.int p3), .val (.int p4), .val (.int (own_max (1 : Int32) (p2 &&& (2147483647 : Int32)))), .unset, .unset, .unset, .unset, .unset, .unset, .unset, .unset, .unset, .unset, .unset, .unset] [(.long (own_maxl (1 : Int64) (q1 &&& (9223372036854775807 : Int64))))])) _
    refine XS.lstore X5.here hx rfl (hb hby at_61) rfl (l' := #[.val (.long q1), .second, .val (.int p2), .val (.int p3), .val (.int p4), .val (.int (own_max (1 : Int32) (p2 &&& (2147483647 : Int32)))), .val (.long (own_maxl (1 : Int64) (q1 &&& (9223372036854775807 : Int64)))), .second, .unset, .unset, .unset, .unset, .unset, .unset, .unset, .unset, .unset, .unset]) rfl ?_
    refine stz _ ?_
    exact retN Xz hx (t := .boolean) Bd.returns (by simp) (hb hby at_161) hr
  · exact ⟨rfl, Nz⟩
set_option maxRecDepth 65536 in
set_option maxHeartbeats 40000000 in
theorem rm0_ff (l : Launch) (Z : State) (a0 : Array Value) (hw : ∀ d ∈ tables_1, d.before a0 Z = true) (ws : List Jvm.Cond) (q1 : Int64) (p2 : Int32) (p3 : Int32) (p4 : Int32) (h0 : Heap) (n0 : Nat) (Z0 : n0 ≤ h0.size) (hc13 : ¬ ((p3 &&& (1 : Int32)) = (0 : Int32))) (hc41 : (lcmpW ((((9223372036854775807 : Int64) / ((own_max (1 : Int32) (p2 &&& (2147483647 : Int32))).toInt64)) - (1 : Int64)) + ((p4 &&& (3 : Int32)).toInt64)) (1 : Int64)) < (0 : Int32)) :
    MetFree l x (head1 (Jvm.Cond.code x code maxLocals ret :: ws) room_1) (fun a U => a = #[(.long q1), (.int p2), (.int p3), (.int p4)] ∧ Z.Warmed39 U.vm ∧ U.heap = h0) (fun _ _ _ _ _ => True) (fun _ U o U' => ∃ v L, o = .returned v ∧ Q0 Z q1 p2 p3 p4 h0 n0 v U'.heap L ∧ FrameEnd U o U' L room_1.cells room_1.slots) := by
  refine MetFree.of_bodySF (plainFor_of_name pn_0) hisR ?_
  intro p e s m args below meth c s₁ Bd hml0 hP hK
  obtain ⟨rfl, hZ, hh⟩ := hP
  have hx := Bd.exec
  have hby := Bd.bytes
  have hml : c.maxLocals = 18 := hml0
  have hown : s.vm.findClass "com/example/proration/proration/store/PageOffsetPinLaw" = some m.cls := findClass_of_methodNamed Bd.named
  have hnm := (name_of_methodNamed Bd.named Bd.method).1
  have X0 : Stand p l e room_1 s m #[(.long q1), (.int p2), (.int p3), (.int p4)] below meth c s₁ [] 0 0 := Stand.of_body Bd
  have e0 : s₁.heap = h0 := by rw [← hh, Bd.state]; rfl
  have N0 := Fr.nil n0
  have pre0 : ∀ t, Steps p.tables e below (s₁.setTop (mkF m 0 #[.val (.long q1), .second, .val (.int p2), .val (.int p3), .val (.int p4), .unset, .unset, .unset, .unset, .unset, .unset, .unset, .unset, .unset, .unset, .unset, .unset, .unset] [])) t → Steps p.tables e below (s₁.setTop (entryFrame m #[(.long q1), (.int p2), (.int p3), (.int p4)] maxLocals)) t := fun t k => castTop (ef_0 m q1 p2 p3 p4) k
  obtain ⟨_, _, ⟨Ta, La, ka, na⟩, -, Xa, ⟨Lca, hQa, la, ya, za⟩, sta⟩ := Jvm.LawKit.callS X0 hx (y := (⟨"java/lang/Math", "max", "(II)I"⟩ : MethodName)) hown (mvT hZ (hw _ (List.mem_of_getElem? (i := 1) rfl))) (mvT hZ (hw _ (List.mem_of_getElem? (i := 2) rfl))) (mvT hZ (hw _ (List.mem_of_getElem? (i := 3) rfl))) (mvT hZ (hw _ (List.mem_of_getElem? (i := 4) rfl))) (by decide) (backOf (W := 0) (rm1 l Z a0 hw [] (1 : Int32) (p2 &&& (2147483647 : Int32)) h0 n0 Z0) hZ (hw _ (List.mem_of_getElem? (i := 4) rfl)) (hw _ (List.mem_of_getElem? (i := 3) rfl)) (by decide) (by decide)) (g := (mkF m 5 #[.val (.long q1), .second, .val (.int p2), .val (.int p3), .val (.int p4), .unset, .unset, .unset, .unset, .unset, .unset, .unset, .unset, .unset, .unset, .unset, .unset, .unset] [(.int (p2 &&& (2147483647 : Int32))), (.int (1 : Int32))])) rfl (by rw [hml]; rfl) (argsL := [(.int (1 : Int32)), (.int (p2 &&& (2147483647 : Int32)))]) (rest := []) (lenOf pd_0_m rfl) rfl (by show 2 * 0 + _ ≤ _; exact Nat.le_of_eq rfl) (hb hby at_5) (fun _ _ => ⟨rfl, e0, (by decide : 0 + 0 ≤ _), (by decide : 0 + 0 ≤ _)⟩)
  dsimp only [Pt.U, Pt.locs, Pt.cells, Pt.slots] at Xa la ya za sta hQa
  subst la ya za
  obtain ⟨rfl, Naq, ea⟩ := hQa
  have Na := Fr.app N0 Naq
  have hi := own_size p2
  have hnz := own_nz hi
  obtain ⟨Tz, Lz, Lsz, Xz, Nz, stz⟩ := own_tail_l (s0 := .val (.long q1)) (s1 := .second) (s2 := .val (.int p2)) (s3 := .val (.int p3)) (s4 := .val (.int p4)) (i5 := (own_max (1 : Int32) (p2 &&& (2147483647 : Int32)))) (j6 := (9223372036854775807 : Int64)) (j8 := ((9223372036854775807 : Int64) / ((own_max (1 : Int32) (p2 &&& (2147483647 : Int32))).toInt64))) Xa hx hZ hw hby hml hown ea Na Z0 (by decide) hi hnz
  obtain ⟨fs, hr, hrun, hended, hW, hsame⟩ := Xz.leave (v := some (.int (1 : Int32))) (fun h => by rw [Bd.returns] at h; cases h)
  refine ⟨_, _, pre0 _ ?_, hrun, hended, _, _, rfl, ?_, ⟨_, rfl⟩, hW, hsame.mono (by decide) (by decide)⟩
  · show Steps p.tables e below (s₁.setTop (mkF m 0 #[.val (.long q1), .second, .val (.int p2), .val (.int p3), .val (.int p4), .unset, .unset, .unset, .unset, .unset, .unset, .unset, .unset, .unset, .unset, .unset, .unset, .unset] [])) _
    refine XS.iconst X0.here hx rfl (hb hby at_0) ?_
    show Steps p.tables e below (s₁.setTop (mkF m 1 #[.val (.long q1), .second, .val (.int p2), .val (.int p3), .val (.int p4), .unset, .unset, .unset, .unset, .unset, .unset, .unset, .unset, .unset, .unset, .unset, .unset, .unset] [(.int (1 : Int32))])) _
    refine XS.iloadN X0.here hx rfl (hb hby at_1) rfl ?_
    show Steps p.tables e below (s₁.setTop (mkF m 2 #[.val (.long q1), .second, .val (.int p2), .val (.int p3), .val (.int p4), .unset, .unset, .unset, .unset, .unset, .unset, .unset, .unset, .unset, .unset, .unset, .unset, .unset] [(.int p2), (.int (1 : Int32))])) _
    refine X0.ldcInt hx hown (mvT hZ (hw _ (List.mem_of_getElem? (i := 0) rfl))) (g := (mkF m 2 #[.val (.long q1), .second, .val (.int p2), .val (.int p3), .val (.int p4), .unset, .unset, .unset, .unset, .unset, .unset, .unset, .unset, .unset, .unset, .unset, .unset, .unset] [(.int p2), (.int (1 : Int32))])) rfl (hb hby at_2) _ ?_
    show Steps p.tables e below (s₁.setTop (mkF m 4 #[.val (.long q1), .second, .val (.int p2), .val (.int p3), .val (.int p4), .unset, .unset, .unset, .unset, .unset, .unset, .unset, .unset, .unset, .unset, .unset, .unset, .unset] [(.int (2147483647 : Int32)), (.int p2), (.int (1 : Int32))])) _
    refine XS.iand X0.here hx rfl (hb hby at_4) rfl ?_
    show Steps p.tables e below (s₁.setTop (mkF m 5 #[.val (.long q1), .second, .val (.int p2), .val (.int p3), .val (.int p4), .unset, .unset, .unset, .unset, .unset, .unset, .unset, .unset, .unset, .unset, .unset, .unset, .unset] [(.int (p2 &&& (2147483647 : Int32))), (.int (1 : Int32))])) _
    refine sta _ ?_
    show Steps p.tables e below (Ta.setTop (mkF m 8 #[.val (.long q1), .second, .val (.int p2), .val (.int p3), .val (.int p4), .unset, .unset, .unset, .unset, .unset, .unset, .unset, .unset, .unset, .unset, .unset, .unset, .unset] [(.int (own_max (1 : Int32) (p2 &&& (2147483647 : Int32))))])) _
    refine XS.istore Xa.here hx rfl (hb hby at_8) rfl (l' := #[.val (.long q1), .second, .val (.int p2), .val (.int p3), .val (.int p4), .val (.int (own_max (1 : Int32) (p2 &&& (2147483647 : Int32)))), .unset, .unset, .unset, .unset, .unset, .unset, .unset, .unset, .unset, .unset, .unset, .unset]) rfl ?_
    show Steps p.tables e below (Ta.setTop (mkF m 10 #[.val (.long q1), .second, .val (.int p2), .val (.int p3), .val (.int p4), .val (.int (own_max (1 : Int32) (p2 &&& (2147483647 : Int32)))), .unset, .unset, .unset, .unset, .unset, .unset, .unset, .unset, .unset, .unset, .unset, .unset] [])) _
    show Steps p.tables e below (Ta.setTop (mkF m 10 #[.val (.long q1), .second, .val (.int p2), .val (.int p3), .val (.int p4), .val (.int (own_max (1 : Int32) (p2 &&& (2147483647 : Int32)))), .unset, .unset, .unset, .unset, .unset, .unset, .unset, .unset, .unset, .unset, .unset, .unset] [])) _
    refine XS.iloadN Xa.here hx rfl (hb hby at_10) rfl ?_
    show Steps p.tables e below (Ta.setTop (mkF m 11 #[.val (.long q1), .second, .val (.int p2), .val (.int p3), .val (.int p4), .val (.int (own_max (1 : Int32) (p2 &&& (2147483647 : Int32)))), .unset, .unset, .unset, .unset, .unset, .unset, .unset, .unset, .unset, .unset, .unset, .unset] [(.int p3)])) _
    refine XS.iconst Xa.here hx rfl (hb hby at_11) ?_
    show Steps p.tables e below (Ta.setTop (mkF m 12 #[.val (.long q1), .second, .val (.int p2), .val (.int p3), .val (.int p4), .val (.int (own_max (1 : Int32) (p2 &&& (2147483647 : Int32)))), .unset, .unset, .unset, .unset, .unset, .unset, .unset, .unset, .unset, .unset, .unset, .unset] [(.int (1 : Int32)), (.int p3)])) _
    refine XS.iand Xa.here hx rfl (hb hby at_12) rfl ?_
    show Steps p.tables e below (Ta.setTop (mkF m 13 #[.val (.long q1), .second, .val (.int p2), .val (.int p3), .val (.int p4), .val (.int (own_max (1 : Int32) (p2 &&& (2147483647 : Int32)))), .unset, .unset, .unset, .unset, .unset, .unset, .unset, .unset, .unset, .unset, .unset, .unset] [(.int (p3 &&& (1 : Int32)))])) _
    refine XS.ifNo Xa.here hx rfl (hb hby at_13) rfl ((if0 _ _).trans (feq hc13).1) ?_
    show Steps p.tables e below (Ta.setTop (mkF m 16 #[.val (.long q1), .second, .val (.int p2), .val (.int p3), .val (.int p4), .val (.int (own_max (1 : Int32) (p2 &&& (2147483647 : Int32)))), .unset, .unset, .unset, .unset, .unset, .unset, .unset, .unset, .unset, .unset, .unset, .unset] [])) _
    refine Xa.ldc2Long hx hown (mvT hZ (hw _ (List.mem_of_getElem? (i := 5) rfl))) (g := (mkF m 16 #[.val (.long q1), .second, .val (.int p2), .val (.int p3), .val (.int p4), .val (.int (own_max (1 : Int32) (p2 &&& (2147483647 : Int32)))), .unset, .unset, .unset, .unset, .unset, .unset, .unset, .unset, .unset, .unset, .unset, .unset] [])) rfl (hb hby at_16) _ ?_
    show Steps p.tables e below (Ta.setTop (mkF m 19 #[.val (.long q1), .second, .val (.int p2), .val (.int p3), .val (.int p4), .val (.int (own_max (1 : Int32) (p2 &&& (2147483647 : Int32)))), .unset, .unset, .unset, .unset, .unset, .unset, .unset, .unset, .unset, .unset, .unset, .unset] [(.long (9223372036854775807 : Int64))])) _
    refine XS.iload Xa.here hx rfl (hb hby at_19) rfl ?_
    show Steps p.tables e below (Ta.setTop (mkF m 21 #[.val (.long q1), .second, .val (.int p2), .val (.int p3), .val (.int p4), .val (.int (own_max (1 : Int32) (p2 &&& (2147483647 : Int32)))), .unset, .unset, .unset, .unset, .unset, .unset, .unset, .unset, .unset, .unset, .unset, .unset] [(.int (own_max (1 : Int32) (p2 &&& (2147483647 : Int32)))), (.long (9223372036854775807 : Int64))])) _
    refine XS.i2l Xa.here hx rfl (hb hby at_21) rfl ?_
    show Steps p.tables e below (Ta.setTop (mkF m 22 #[.val (.long q1), .second, .val (.int p2), .val (.int p3), .val (.int p4), .val (.int (own_max (1 : Int32) (p2 &&& (2147483647 : Int32)))), .unset, .unset, .unset, .unset, .unset, .unset, .unset, .unset, .unset, .unset, .unset, .unset] [(.long ((own_max (1 : Int32) (p2 &&& (2147483647 : Int32))).toInt64)), (.long (9223372036854775807 : Int64))])) _
    refine XS.ldiv Xa.here hx rfl (hb hby at_22) rfl hnz ?_
    show Steps p.tables e below (Ta.setTop (mkF m 23 #[.val (.long q1), .second, .val (.int p2), .val (.int p3), .val (.int p4), .val (.int (own_max (1 : Int32) (p2 &&& (2147483647 : Int32)))), .unset, .unset, .unset, .unset, .unset, .unset, .unset, .unset, .unset, .unset, .unset, .unset] [(.long ((9223372036854775807 : Int64) / ((own_max (1 : Int32) (p2 &&& (2147483647 : Int32))).toInt64)))])) _
    refine XS.lstore Xa.here hx rfl (hb hby at_23) rfl (l' := #[.val (.long q1), .second, .val (.int p2), .val (.int p3), .val (.int p4), .val (.int (own_max (1 : Int32) (p2 &&& (2147483647 : Int32)))), .unset, .unset, .val (.long ((9223372036854775807 : Int64) / ((own_max (1 : Int32) (p2 &&& (2147483647 : Int32))).toInt64))), .second, .unset, .unset, .unset, .unset, .unset, .unset, .unset, .unset]) rfl ?_
    show Steps p.tables e below (Ta.setTop (mkF m 25 #[.val (.long q1), .second, .val (.int p2), .val (.int p3), .val (.int p4), .val (.int (own_max (1 : Int32) (p2 &&& (2147483647 : Int32)))), .unset, .unset, .val (.long ((9223372036854775807 : Int64) / ((own_max (1 : Int32) (p2 &&& (2147483647 : Int32))).toInt64))), .second, .unset, .unset, .unset, .unset, .unset, .unset, .unset, .unset] [])) _
    refine XS.lload Xa.here hx rfl (hb hby at_25) rfl ?_
    show Steps p.tables e below (Ta.setTop (mkF m 27 #[.val (.long q1), .second, .val (.int p2), .val (.int p3), .val (.int p4), .val (.int (own_max (1 : Int32) (p2 &&& (2147483647 : Int32)))), .unset, .unset, .val (.long ((9223372036854775807 : Int64) / ((own_max (1 : Int32) (p2 &&& (2147483647 : Int32))).toInt64))), .second, .unset, .unset, .unset, .unset, .unset, .unset, .unset, .unset] [(.long ((9223372036854775807 : Int64) / ((own_max (1 : Int32) (p2 &&& (2147483647 : Int32))).toInt64)))])) _
    refine XS.lconst Xa.here hx rfl (hb hby at_27) ?_
    show Steps p.tables e below (Ta.setTop (mkF m 28 #[.val (.long q1), .second, .val (.int p2), .val (.int p3), .val (.int p4), .val (.int (own_max (1 : Int32) (p2 &&& (2147483647 : Int32)))), .unset, .unset, .val (.long ((9223372036854775807 : Int64) / ((own_max (1 : Int32) (p2 &&& (2147483647 : Int32))).toInt64))), .second, .unset, .unset, .unset, .unset, .unset, .unset, .unset, .unset] [(.long (1 : Int64)), (.long ((9223372036854775807 : Int64) / ((own_max (1 : Int32) (p2 &&& (2147483647 : Int32))).toInt64)))])) _
    refine XS.lsub Xa.here hx rfl (hb hby at_28) rfl ?_
    show Steps p.tables e below (Ta.setTop (mkF m 29 #[.val (.long q1), .second, .val (.int p2), .val (.int p3), .val (.int p4), .val (.int (own_max (1 : Int32) (p2 &&& (2147483647 : Int32)))), .unset, .unset, .val (.long ((9223372036854775807 : Int64) / ((own_max (1 : Int32) (p2 &&& (2147483647 : Int32))).toInt64))), .second, .unset, .unset, .unset, .unset, .unset, .unset, .unset, .unset] [(.long (((9223372036854775807 : Int64) / ((own_max (1 : Int32) (p2 &&& (2147483647 : Int32))).toInt64)) - (1 : Int64)))])) _
    refine XS.iload Xa.here hx rfl (hb hby at_29) rfl ?_
    show Steps p.tables e below (Ta.setTop (mkF m 31 #[.val (.long q1), .second, .val (.int p2), .val (.int p3), .val (.int p4), .val (.int (own_max (1 : Int32) (p2 &&& (2147483647 : Int32)))), .unset, .unset, .val (.long ((9223372036854775807 : Int64) / ((own_max (1 : Int32) (p2 &&& (2147483647 : Int32))).toInt64))), .second, .unset, .unset, .unset, .unset, .unset, .unset, .unset, .unset] [(.int p4), (.long (((9223372036854775807 : Int64) / ((own_max (1 : Int32) (p2 &&& (2147483647 : Int32))).toInt64)) - (1 : Int64)))])) _
    refine XS.iconst Xa.here hx rfl (hb hby at_31) ?_
    show Steps p.tables e below (Ta.setTop (mkF m 32 #[.val (.long q1), .second, .val (.int p2), .val (.int p3), .val (.int p4), .val (.int (own_max (1 : Int32) (p2 &&& (2147483647 : Int32)))), .unset, .unset, .val (.long ((9223372036854775807 : Int64) / ((own_max (1 : Int32) (p2 &&& (2147483647 : Int32))).toInt64))), .second, .unset, .unset, .unset, .unset, .unset, .unset, .unset, .unset] [(.int (3 : Int32)), (.int p4), (.long (((9223372036854775807 : Int64) / ((own_max (1 : Int32) (p2 &&& (2147483647 : Int32))).toInt64)) - (1 : Int64)))])) _
    refine XS.iand Xa.here hx rfl (hb hby at_32) rfl ?_
    show Steps p.tables e below (Ta.setTop (mkF m 33 #[.val (.long q1), .second, .val (.int p2), .val (.int p3), .val (.int p4), .val (.int (own_max (1 : Int32) (p2 &&& (2147483647 : Int32)))), .unset, .unset, .val (.long ((9223372036854775807 : Int64) / ((own_max (1 : Int32) (p2 &&& (2147483647 : Int32))).toInt64))), .second, .unset, .unset, .unset, .unset, .unset, .unset, .unset, .unset] [(.int (p4 &&& (3 : Int32))), (.long (((9223372036854775807 : Int64) / ((own_max (1 : Int32) (p2 &&& (2147483647 : Int32))).toInt64)) - (1 : Int64)))])) _
    refine XS.i2l Xa.here hx rfl (hb hby at_33) rfl ?_
    show Steps p.tables e below (Ta.setTop (mkF m 34 #[.val (.long q1), .second, .val (.int p2), .val (.int p3), .val (.int p4), .val (.int (own_max (1 : Int32) (p2 &&& (2147483647 : Int32)))), .unset, .unset, .val (.long ((9223372036854775807 : Int64) / ((own_max (1 : Int32) (p2 &&& (2147483647 : Int32))).toInt64))), .second, .unset, .unset, .unset, .unset, .unset, .unset, .unset, .unset] [(.long ((p4 &&& (3 : Int32)).toInt64)), (.long (((9223372036854775807 : Int64) / ((own_max (1 : Int32) (p2 &&& (2147483647 : Int32))).toInt64)) - (1 : Int64)))])) _
    refine XS.ladd Xa.here hx rfl (hb hby at_34) rfl ?_
    show Steps p.tables e below (Ta.setTop (mkF m 35 #[.val (.long q1), .second, .val (.int p2), .val (.int p3), .val (.int p4), .val (.int (own_max (1 : Int32) (p2 &&& (2147483647 : Int32)))), .unset, .unset, .val (.long ((9223372036854775807 : Int64) / ((own_max (1 : Int32) (p2 &&& (2147483647 : Int32))).toInt64))), .second, .unset, .unset, .unset, .unset, .unset, .unset, .unset, .unset] [(.long ((((9223372036854775807 : Int64) / ((own_max (1 : Int32) (p2 &&& (2147483647 : Int32))).toInt64)) - (1 : Int64)) + ((p4 &&& (3 : Int32)).toInt64)))])) _
    refine XS.lstore Xa.here hx rfl (hb hby at_35) rfl (l' := #[.val (.long q1), .second, .val (.int p2), .val (.int p3), .val (.int p4), .val (.int (own_max (1 : Int32) (p2 &&& (2147483647 : Int32)))), .val (.long ((((9223372036854775807 : Int64) / ((own_max (1 : Int32) (p2 &&& (2147483647 : Int32))).toInt64)) - (1 : Int64)) + ((p4 &&& (3 : Int32)).toInt64))), .second, .val (.long ((9223372036854775807 : Int64) / ((own_max (1 : Int32) (p2 &&& (2147483647 : Int32))).toInt64))), .second, .unset, .unset, .unset, .unset, .unset, .unset, .unset, .unset]) rfl ?_
    show Steps p.tables e below (Ta.setTop (mkF m 37 #[.val (.long q1), .second, .val (.int p2), .val (.int p3), .val (.int p4), .val (.int (own_max (1 : Int32) (p2 &&& (2147483647 : Int32)))), .val (.long ((((9223372036854775807 : Int64) / ((own_max (1 : Int32) (p2 &&& (2147483647 : Int32))).toInt64)) - (1 : Int64)) + ((p4 &&& (3 : Int32)).toInt64))), .second, .val (.long ((9223372036854775807 : Int64) / ((own_max (1 : Int32) (p2 &&& (2147483647 : Int32))).toInt64))), .second, .unset, .unset, .unset, .unset, .unset, .unset, .unset, .unset] [])) _
    refine XS.lload Xa.here hx rfl (hb hby at_37) rfl ?_
    show Steps p.tables e below (Ta.setTop (mkF m 39 #[.val (.long q1), .second, .val (.int p2), .val (.int p3), .val (.int p4), .val (.int (own_max (1 : Int32) (p2 &&& (2147483647 : Int32)))), .val (.long ((((9223372036854775807 : Int64) / ((own_max (1 : Int32) (p2 &&& (2147483647 : Int32))).toInt64)) - (1 : Int64)) + ((p4 &&& (3 : Int32)).toInt64))), .second, .val (.long ((9223372036854775807 : Int64) / ((own_max (1 : Int32) (p2 &&& (2147483647 : Int32))).toInt64))), .second, .unset, .unset, .unset, .unset, .unset, .unset, .unset, .unset] [(.long ((((9223372036854775807 : Int64) / ((own_max (1 : Int32) (p2 &&& (2147483647 : Int32))).toInt64)) - (1 : Int64)) + ((p4 &&& (3 : Int32)).toInt64)))])) _
    refine XS.lconst Xa.here hx rfl (hb hby at_39) ?_
    show Steps p.tables e below (Ta.setTop (mkF m 40 #[.val (.long q1), .second, .val (.int p2), .val (.int p3), .val (.int p4), .val (.int (own_max (1 : Int32) (p2 &&& (2147483647 : Int32)))), .val (.long ((((9223372036854775807 : Int64) / ((own_max (1 : Int32) (p2 &&& (2147483647 : Int32))).toInt64)) - (1 : Int64)) + ((p4 &&& (3 : Int32)).toInt64))), .second, .val (.long ((9223372036854775807 : Int64) / ((own_max (1 : Int32) (p2 &&& (2147483647 : Int32))).toInt64))), .second, .unset, .unset, .unset, .unset, .unset, .unset, .unset, .unset] [(.long (1 : Int64)), (.long ((((9223372036854775807 : Int64) / ((own_max (1 : Int32) (p2 &&& (2147483647 : Int32))).toInt64)) - (1 : Int64)) + ((p4 &&& (3 : Int32)).toInt64)))])) _
    refine XS.lcmp Xa.here hx rfl (hb hby at_40) rfl ?_
    show Steps p.tables e below (Ta.setTop (mkF m 41 #[.val (.long q1), .second, .val (.int p2), .val (.int p3), .val (.int p4), .val (.int (own_max (1 : Int32) (p2 &&& (2147483647 : Int32)))), .val (.long ((((9223372036854775807 : Int64) / ((own_max (1 : Int32) (p2 &&& (2147483647 : Int32))).toInt64)) - (1 : Int64)) + ((p4 &&& (3 : Int32)).toInt64))), .second, .val (.long ((9223372036854775807 : Int64) / ((own_max (1 : Int32) (p2 &&& (2147483647 : Int32))).toInt64))), .second, .unset, .unset, .unset, .unset, .unset, .unset, .unset, .unset] [(.int (lcmpW ((((9223372036854775807 : Int64) / ((own_max (1 : Int32) (p2 &&& (2147483647 : Int32))).toInt64)) - (1 : Int64)) + ((p4 &&& (3 : Int32)).toInt64)) (1 : Int64)))])) _
    refine XS.ifNo Xa.here hx rfl (hb hby at_41) rfl ((if0 _ _).trans (tlt hc41).2.1) ?_
    show Steps p.tables e below (Ta.setTop (mkF m 44 #[.val (.long q1), .second, .val (.int p2), .val (.int p3), .val (.int p4), .val (.int (own_max (1 : Int32) (p2 &&& (2147483647 : Int32)))), .val (.long ((((9223372036854775807 : Int64) / ((own_max (1 : Int32) (p2 &&& (2147483647 : Int32))).toInt64)) - (1 : Int64)) + ((p4 &&& (3 : Int32)).toInt64))), .second, .val (.long ((9223372036854775807 : Int64) / ((own_max (1 : Int32) (p2 &&& (2147483647 : Int32))).toInt64))), .second, .unset, .unset, .unset, .unset, .unset, .unset, .unset, .unset] [])) _
    refine Xa.ldc2Long hx hown (mvT hZ (hw _ (List.mem_of_getElem? (i := 5) rfl))) (g := (mkF m 44 #[.val (.long q1), .second, .val (.int p2), .val (.int p3), .val (.int p4), .val (.int (own_max (1 : Int32) (p2 &&& (2147483647 : Int32)))), .val (.long ((((9223372036854775807 : Int64) / ((own_max (1 : Int32) (p2 &&& (2147483647 : Int32))).toInt64)) - (1 : Int64)) + ((p4 &&& (3 : Int32)).toInt64))), .second, .val (.long ((9223372036854775807 : Int64) / ((own_max (1 : Int32) (p2 &&& (2147483647 : Int32))).toInt64))), .second, .unset, .unset, .unset, .unset, .unset, .unset, .unset, .unset] [])) rfl (hb hby at_44) _ ?_
    show Steps p.tables e below (Ta.setTop (mkF m 47 #[.val (.long q1), .second, .val (.int p2), .val (.int p3), .val (.int p4), .val (.int (own_max (1 : Int32) (p2 &&& (2147483647 : Int32)))), .val (.long ((((9223372036854775807 : Int64) / ((own_max (1 : Int32) (p2 &&& (2147483647 : Int32))).toInt64)) - (1 : Int64)) + ((p4 &&& (3 : Int32)).toInt64))), .second, .val (.long ((9223372036854775807 : Int64) / ((own_max (1 : Int32) (p2 &&& (2147483647 : Int32))).toInt64))), .second, .unset, .unset, .unset, .unset, .unset, .unset, .unset, .unset] [(.long (9223372036854775807 : Int64))])) _
    refine XS.lstore Xa.here hx rfl (hb hby at_47) rfl (l' := #[.val (.long q1), .second, .val (.int p2), .val (.int p3), .val (.int p4), .val (.int (own_max (1 : Int32) (p2 &&& (2147483647 : Int32)))), .val (.long (9223372036854775807 : Int64)), .second, .val (.long ((9223372036854775807 : Int64) / ((own_max (1 : Int32) (p2 &&& (2147483647 : Int32))).toInt64))), .second, .unset, .unset, .unset, .unset, .unset, .unset, .unset, .unset]) rfl ?_
    show Steps p.tables e below (Ta.setTop (mkF m 49 #[.val (.long q1), .second, .val (.int p2), .val (.int p3), .val (.int p4), .val (.int (own_max (1 : Int32) (p2 &&& (2147483647 : Int32)))), .val (.long (9223372036854775807 : Int64)), .second, .val (.long ((9223372036854775807 : Int64) / ((own_max (1 : Int32) (p2 &&& (2147483647 : Int32))).toInt64))), .second, .unset, .unset, .unset, .unset, .unset, .unset, .unset, .unset] [])) _
    refine XS.goto Xa.here hx rfl (pc0 := 49) (pc' := 63) rfl (hb hby at_49) (by decide) (by decide) ?_
    refine stz _ ?_
    exact retN Xz hx (t := .boolean) Bd.returns (by simp) (hb hby at_161) hr
  · exact ⟨rfl, Nz⟩
set_option maxRecDepth 65536 in
set_option maxHeartbeats 40000000 in
theorem rm0_ft (l : Launch) (Z : State) (a0 : Array Value) (hw : ∀ d ∈ tables_1, d.before a0 Z = true) (ws : List Jvm.Cond) (q1 : Int64) (p2 : Int32) (p3 : Int32) (p4 : Int32) (h0 : Heap) (n0 : Nat) (Z0 : n0 ≤ h0.size) (hc13 : ¬ ((p3 &&& (1 : Int32)) = (0 : Int32))) (hc41 : ¬ ((lcmpW ((((9223372036854775807 : Int64) / ((own_max (1 : Int32) (p2 &&& (2147483647 : Int32))).toInt64)) - (1 : Int64)) + ((p4 &&& (3 : Int32)).toInt64)) (1 : Int64)) < (0 : Int32))) :
    MetFree l x (head1 (Jvm.Cond.code x code maxLocals ret :: ws) room_1) (fun a U => a = #[(.long q1), (.int p2), (.int p3), (.int p4)] ∧ Z.Warmed39 U.vm ∧ U.heap = h0) (fun _ _ _ _ _ => True) (fun _ U o U' => ∃ v L, o = .returned v ∧ Q0 Z q1 p2 p3 p4 h0 n0 v U'.heap L ∧ FrameEnd U o U' L room_1.cells room_1.slots) := by
  refine MetFree.of_bodySF (plainFor_of_name pn_0) hisR ?_
  intro p e s m args below meth c s₁ Bd hml0 hP hK
  obtain ⟨rfl, hZ, hh⟩ := hP
  have hx := Bd.exec
  have hby := Bd.bytes
  have hml : c.maxLocals = 18 := hml0
  have hown : s.vm.findClass "com/example/proration/proration/store/PageOffsetPinLaw" = some m.cls := findClass_of_methodNamed Bd.named
  have hnm := (name_of_methodNamed Bd.named Bd.method).1
  have X0 : Stand p l e room_1 s m #[(.long q1), (.int p2), (.int p3), (.int p4)] below meth c s₁ [] 0 0 := Stand.of_body Bd
  have e0 : s₁.heap = h0 := by rw [← hh, Bd.state]; rfl
  have N0 := Fr.nil n0
  have pre0 : ∀ t, Steps p.tables e below (s₁.setTop (mkF m 0 #[.val (.long q1), .second, .val (.int p2), .val (.int p3), .val (.int p4), .unset, .unset, .unset, .unset, .unset, .unset, .unset, .unset, .unset, .unset, .unset, .unset, .unset] [])) t → Steps p.tables e below (s₁.setTop (entryFrame m #[(.long q1), (.int p2), (.int p3), (.int p4)] maxLocals)) t := fun t k => castTop (ef_0 m q1 p2 p3 p4) k
  obtain ⟨_, _, ⟨Ta, La, ka, na⟩, -, Xa, ⟨Lca, hQa, la, ya, za⟩, sta⟩ := Jvm.LawKit.callS X0 hx (y := (⟨"java/lang/Math", "max", "(II)I"⟩ : MethodName)) hown (mvT hZ (hw _ (List.mem_of_getElem? (i := 1) rfl))) (mvT hZ (hw _ (List.mem_of_getElem? (i := 2) rfl))) (mvT hZ (hw _ (List.mem_of_getElem? (i := 3) rfl))) (mvT hZ (hw _ (List.mem_of_getElem? (i := 4) rfl))) (by decide) (backOf (W := 0) (rm1 l Z a0 hw [] (1 : Int32) (p2 &&& (2147483647 : Int32)) h0 n0 Z0) hZ (hw _ (List.mem_of_getElem? (i := 4) rfl)) (hw _ (List.mem_of_getElem? (i := 3) rfl)) (by decide) (by decide)) (g := (mkF m 5 #[.val (.long q1), .second, .val (.int p2), .val (.int p3), .val (.int p4), .unset, .unset, .unset, .unset, .unset, .unset, .unset, .unset, .unset, .unset, .unset, .unset, .unset] [(.int (p2 &&& (2147483647 : Int32))), (.int (1 : Int32))])) rfl (by rw [hml]; rfl) (argsL := [(.int (1 : Int32)), (.int (p2 &&& (2147483647 : Int32)))]) (rest := []) (lenOf pd_0_m rfl) rfl (by show 2 * 0 + _ ≤ _; exact Nat.le_of_eq rfl) (hb hby at_5) (fun _ _ => ⟨rfl, e0, (by decide : 0 + 0 ≤ _), (by decide : 0 + 0 ≤ _)⟩)
  dsimp only [Pt.U, Pt.locs, Pt.cells, Pt.slots] at Xa la ya za sta hQa
  subst la ya za
  obtain ⟨rfl, Naq, ea⟩ := hQa
  have Na := Fr.app N0 Naq
  have hi := own_size p2
  have hnz := own_nz hi
  obtain ⟨Tz, Lz, Lsz, Xz, Nz, stz⟩ := own_tail_l (s0 := .val (.long q1)) (s1 := .second) (s2 := .val (.int p2)) (s3 := .val (.int p3)) (s4 := .val (.int p4)) (i5 := (own_max (1 : Int32) (p2 &&& (2147483647 : Int32)))) (j6 := ((((9223372036854775807 : Int64) / ((own_max (1 : Int32) (p2 &&& (2147483647 : Int32))).toInt64)) - (1 : Int64)) + ((p4 &&& (3 : Int32)).toInt64))) (j8 := ((9223372036854775807 : Int64) / ((own_max (1 : Int32) (p2 &&& (2147483647 : Int32))).toInt64))) Xa hx hZ hw hby hml hown ea Na Z0 hc41 hi hnz
  obtain ⟨fs, hr, hrun, hended, hW, hsame⟩ := Xz.leave (v := some (.int (1 : Int32))) (fun h => by rw [Bd.returns] at h; cases h)
  refine ⟨_, _, pre0 _ ?_, hrun, hended, _, _, rfl, ?_, ⟨_, rfl⟩, hW, hsame.mono (by decide) (by decide)⟩
  · show Steps p.tables e below (s₁.setTop (mkF m 0 #[.val (.long q1), .second, .val (.int p2), .val (.int p3), .val (.int p4), .unset, .unset, .unset, .unset, .unset, .unset, .unset, .unset, .unset, .unset, .unset, .unset, .unset] [])) _
    refine XS.iconst X0.here hx rfl (hb hby at_0) ?_
    show Steps p.tables e below (s₁.setTop (mkF m 1 #[.val (.long q1), .second, .val (.int p2), .val (.int p3), .val (.int p4), .unset, .unset, .unset, .unset, .unset, .unset, .unset, .unset, .unset, .unset, .unset, .unset, .unset] [(.int (1 : Int32))])) _
    refine XS.iloadN X0.here hx rfl (hb hby at_1) rfl ?_
    show Steps p.tables e below (s₁.setTop (mkF m 2 #[.val (.long q1), .second, .val (.int p2), .val (.int p3), .val (.int p4), .unset, .unset, .unset, .unset, .unset, .unset, .unset, .unset, .unset, .unset, .unset, .unset, .unset] [(.int p2), (.int (1 : Int32))])) _
    refine X0.ldcInt hx hown (mvT hZ (hw _ (List.mem_of_getElem? (i := 0) rfl))) (g := (mkF m 2 #[.val (.long q1), .second, .val (.int p2), .val (.int p3), .val (.int p4), .unset, .unset, .unset, .unset, .unset, .unset, .unset, .unset, .unset, .unset, .unset, .unset, .unset] [(.int p2), (.int (1 : Int32))])) rfl (hb hby at_2) _ ?_
    show Steps p.tables e below (s₁.setTop (mkF m 4 #[.val (.long q1), .second, .val (.int p2), .val (.int p3), .val (.int p4), .unset, .unset, .unset, .unset, .unset, .unset, .unset, .unset, .unset, .unset, .unset, .unset, .unset] [(.int (2147483647 : Int32)), (.int p2), (.int (1 : Int32))])) _
    refine XS.iand X0.here hx rfl (hb hby at_4) rfl ?_
    show Steps p.tables e below (s₁.setTop (mkF m 5 #[.val (.long q1), .second, .val (.int p2), .val (.int p3), .val (.int p4), .unset, .unset, .unset, .unset, .unset, .unset, .unset, .unset, .unset, .unset, .unset, .unset, .unset] [(.int (p2 &&& (2147483647 : Int32))), (.int (1 : Int32))])) _
    refine sta _ ?_
    show Steps p.tables e below (Ta.setTop (mkF m 8 #[.val (.long q1), .second, .val (.int p2), .val (.int p3), .val (.int p4), .unset, .unset, .unset, .unset, .unset, .unset, .unset, .unset, .unset, .unset, .unset, .unset, .unset] [(.int (own_max (1 : Int32) (p2 &&& (2147483647 : Int32))))])) _
    refine XS.istore Xa.here hx rfl (hb hby at_8) rfl (l' := #[.val (.long q1), .second, .val (.int p2), .val (.int p3), .val (.int p4), .val (.int (own_max (1 : Int32) (p2 &&& (2147483647 : Int32)))), .unset, .unset, .unset, .unset, .unset, .unset, .unset, .unset, .unset, .unset, .unset, .unset]) rfl ?_
    show Steps p.tables e below (Ta.setTop (mkF m 10 #[.val (.long q1), .second, .val (.int p2), .val (.int p3), .val (.int p4), .val (.int (own_max (1 : Int32) (p2 &&& (2147483647 : Int32)))), .unset, .unset, .unset, .unset, .unset, .unset, .unset, .unset, .unset, .unset, .unset, .unset] [])) _
    show Steps p.tables e below (Ta.setTop (mkF m 10 #[.val (.long q1), .second, .val (.int p2), .val (.int p3), .val (.int p4), .val (.int (own_max (1 : Int32) (p2 &&& (2147483647 : Int32)))), .unset, .unset, .unset, .unset, .unset, .unset, .unset, .unset, .unset, .unset, .unset, .unset] [])) _
    refine XS.iloadN Xa.here hx rfl (hb hby at_10) rfl ?_
    show Steps p.tables e below (Ta.setTop (mkF m 11 #[.val (.long q1), .second, .val (.int p2), .val (.int p3), .val (.int p4), .val (.int (own_max (1 : Int32) (p2 &&& (2147483647 : Int32)))), .unset, .unset, .unset, .unset, .unset, .unset, .unset, .unset, .unset, .unset, .unset, .unset] [(.int p3)])) _
    refine XS.iconst Xa.here hx rfl (hb hby at_11) ?_
    show Steps p.tables e below (Ta.setTop (mkF m 12 #[.val (.long q1), .second, .val (.int p2), .val (.int p3), .val (.int p4), .val (.int (own_max (1 : Int32) (p2 &&& (2147483647 : Int32)))), .unset, .unset, .unset, .unset, .unset, .unset, .unset, .unset, .unset, .unset, .unset, .unset] [(.int (1 : Int32)), (.int p3)])) _
    refine XS.iand Xa.here hx rfl (hb hby at_12) rfl ?_
    show Steps p.tables e below (Ta.setTop (mkF m 13 #[.val (.long q1), .second, .val (.int p2), .val (.int p3), .val (.int p4), .val (.int (own_max (1 : Int32) (p2 &&& (2147483647 : Int32)))), .unset, .unset, .unset, .unset, .unset, .unset, .unset, .unset, .unset, .unset, .unset, .unset] [(.int (p3 &&& (1 : Int32)))])) _
    refine XS.ifNo Xa.here hx rfl (hb hby at_13) rfl ((if0 _ _).trans (feq hc13).1) ?_
    show Steps p.tables e below (Ta.setTop (mkF m 16 #[.val (.long q1), .second, .val (.int p2), .val (.int p3), .val (.int p4), .val (.int (own_max (1 : Int32) (p2 &&& (2147483647 : Int32)))), .unset, .unset, .unset, .unset, .unset, .unset, .unset, .unset, .unset, .unset, .unset, .unset] [])) _
    refine Xa.ldc2Long hx hown (mvT hZ (hw _ (List.mem_of_getElem? (i := 5) rfl))) (g := (mkF m 16 #[.val (.long q1), .second, .val (.int p2), .val (.int p3), .val (.int p4), .val (.int (own_max (1 : Int32) (p2 &&& (2147483647 : Int32)))), .unset, .unset, .unset, .unset, .unset, .unset, .unset, .unset, .unset, .unset, .unset, .unset] [])) rfl (hb hby at_16) _ ?_
    show Steps p.tables e below (Ta.setTop (mkF m 19 #[.val (.long q1), .second, .val (.int p2), .val (.int p3), .val (.int p4), .val (.int (own_max (1 : Int32) (p2 &&& (2147483647 : Int32)))), .unset, .unset, .unset, .unset, .unset, .unset, .unset, .unset, .unset, .unset, .unset, .unset] [(.long (9223372036854775807 : Int64))])) _
    refine XS.iload Xa.here hx rfl (hb hby at_19) rfl ?_
    show Steps p.tables e below (Ta.setTop (mkF m 21 #[.val (.long q1), .second, .val (.int p2), .val (.int p3), .val (.int p4), .val (.int (own_max (1 : Int32) (p2 &&& (2147483647 : Int32)))), .unset, .unset, .unset, .unset, .unset, .unset, .unset, .unset, .unset, .unset, .unset, .unset] [(.int (own_max (1 : Int32) (p2 &&& (2147483647 : Int32)))), (.long (9223372036854775807 : Int64))])) _
    refine XS.i2l Xa.here hx rfl (hb hby at_21) rfl ?_
    show Steps p.tables e below (Ta.setTop (mkF m 22 #[.val (.long q1), .second, .val (.int p2), .val (.int p3), .val (.int p4), .val (.int (own_max (1 : Int32) (p2 &&& (2147483647 : Int32)))), .unset, .unset, .unset, .unset, .unset, .unset, .unset, .unset, .unset, .unset, .unset, .unset] [(.long ((own_max (1 : Int32) (p2 &&& (2147483647 : Int32))).toInt64)), (.long (9223372036854775807 : Int64))])) _
    refine XS.ldiv Xa.here hx rfl (hb hby at_22) rfl hnz ?_
    show Steps p.tables e below (Ta.setTop (mkF m 23 #[.val (.long q1), .second, .val (.int p2), .val (.int p3), .val (.int p4), .val (.int (own_max (1 : Int32) (p2 &&& (2147483647 : Int32)))), .unset, .unset, .unset, .unset, .unset, .unset, .unset, .unset, .unset, .unset, .unset, .unset] [(.long ((9223372036854775807 : Int64) / ((own_max (1 : Int32) (p2 &&& (2147483647 : Int32))).toInt64)))])) _
    refine XS.lstore Xa.here hx rfl (hb hby at_23) rfl (l' := #[.val (.long q1), .second, .val (.int p2), .val (.int p3), .val (.int p4), .val (.int (own_max (1 : Int32) (p2 &&& (2147483647 : Int32)))), .unset, .unset, .val (.long ((9223372036854775807 : Int64) / ((own_max (1 : Int32) (p2 &&& (2147483647 : Int32))).toInt64))), .second, .unset, .unset, .unset, .unset, .unset, .unset, .unset, .unset]) rfl ?_
    show Steps p.tables e below (Ta.setTop (mkF m 25 #[.val (.long q1), .second, .val (.int p2), .val (.int p3), .val (.int p4), .val (.int (own_max (1 : Int32) (p2 &&& (2147483647 : Int32)))), .unset, .unset, .val (.long ((9223372036854775807 : Int64) / ((own_max (1 : Int32) (p2 &&& (2147483647 : Int32))).toInt64))), .second, .unset, .unset, .unset, .unset, .unset, .unset, .unset, .unset] [])) _
    refine XS.lload Xa.here hx rfl (hb hby at_25) rfl ?_
    show Steps p.tables e below (Ta.setTop (mkF m 27 #[.val (.long q1), .second, .val (.int p2), .val (.int p3), .val (.int p4), .val (.int (own_max (1 : Int32) (p2 &&& (2147483647 : Int32)))), .unset, .unset, .val (.long ((9223372036854775807 : Int64) / ((own_max (1 : Int32) (p2 &&& (2147483647 : Int32))).toInt64))), .second, .unset, .unset, .unset, .unset, .unset, .unset, .unset, .unset] [(.long ((9223372036854775807 : Int64) / ((own_max (1 : Int32) (p2 &&& (2147483647 : Int32))).toInt64)))])) _
    refine XS.lconst Xa.here hx rfl (hb hby at_27) ?_
    show Steps p.tables e below (Ta.setTop (mkF m 28 #[.val (.long q1), .second, .val (.int p2), .val (.int p3), .val (.int p4), .val (.int (own_max (1 : Int32) (p2 &&& (2147483647 : Int32)))), .unset, .unset, .val (.long ((9223372036854775807 : Int64) / ((own_max (1 : Int32) (p2 &&& (2147483647 : Int32))).toInt64))), .second, .unset, .unset, .unset, .unset, .unset, .unset, .unset, .unset] [(.long (1 : Int64)), (.long ((9223372036854775807 : Int64) / ((own_max (1 : Int32) (p2 &&& (2147483647 : Int32))).toInt64)))])) _
    refine XS.lsub Xa.here hx rfl (hb hby at_28) rfl ?_
    show Steps p.tables e below (Ta.setTop (mkF m 29 #[.val (.long q1), .second, .val (.int p2), .val (.int p3), .val (.int p4), .val (.int (own_max (1 : Int32) (p2 &&& (2147483647 : Int32)))), .unset, .unset, .val (.long ((9223372036854775807 : Int64) / ((own_max (1 : Int32) (p2 &&& (2147483647 : Int32))).toInt64))), .second, .unset, .unset, .unset, .unset, .unset, .unset, .unset, .unset] [(.long (((9223372036854775807 : Int64) / ((own_max (1 : Int32) (p2 &&& (2147483647 : Int32))).toInt64)) - (1 : Int64)))])) _
    refine XS.iload Xa.here hx rfl (hb hby at_29) rfl ?_
    show Steps p.tables e below (Ta.setTop (mkF m 31 #[.val (.long q1), .second, .val (.int p2), .val (.int p3), .val (.int p4), .val (.int (own_max (1 : Int32) (p2 &&& (2147483647 : Int32)))), .unset, .unset, .val (.long ((9223372036854775807 : Int64) / ((own_max (1 : Int32) (p2 &&& (2147483647 : Int32))).toInt64))), .second, .unset, .unset, .unset, .unset, .unset, .unset, .unset, .unset] [(.int p4), (.long (((9223372036854775807 : Int64) / ((own_max (1 : Int32) (p2 &&& (2147483647 : Int32))).toInt64)) - (1 : Int64)))])) _
    refine XS.iconst Xa.here hx rfl (hb hby at_31) ?_
    show Steps p.tables e below (Ta.setTop (mkF m 32 #[.val (.long q1), .second, .val (.int p2), .val (.int p3), .val (.int p4), .val (.int (own_max (1 : Int32) (p2 &&& (2147483647 : Int32)))), .unset, .unset, .val (.long ((9223372036854775807 : Int64) / ((own_max (1 : Int32) (p2 &&& (2147483647 : Int32))).toInt64))), .second, .unset, .unset, .unset, .unset, .unset, .unset, .unset, .unset] [(.int (3 : Int32)), (.int p4), (.long (((9223372036854775807 : Int64) / ((own_max (1 : Int32) (p2 &&& (2147483647 : Int32))).toInt64)) - (1 : Int64)))])) _
    refine XS.iand Xa.here hx rfl (hb hby at_32) rfl ?_
    show Steps p.tables e below (Ta.setTop (mkF m 33 #[.val (.long q1), .second, .val (.int p2), .val (.int p3), .val (.int p4), .val (.int (own_max (1 : Int32) (p2 &&& (2147483647 : Int32)))), .unset, .unset, .val (.long ((9223372036854775807 : Int64) / ((own_max (1 : Int32) (p2 &&& (2147483647 : Int32))).toInt64))), .second, .unset, .unset, .unset, .unset, .unset, .unset, .unset, .unset] [(.int (p4 &&& (3 : Int32))), (.long (((9223372036854775807 : Int64) / ((own_max (1 : Int32) (p2 &&& (2147483647 : Int32))).toInt64)) - (1 : Int64)))])) _
    refine XS.i2l Xa.here hx rfl (hb hby at_33) rfl ?_
    show Steps p.tables e below (Ta.setTop (mkF m 34 #[.val (.long q1), .second, .val (.int p2), .val (.int p3), .val (.int p4), .val (.int (own_max (1 : Int32) (p2 &&& (2147483647 : Int32)))), .unset, .unset, .val (.long ((9223372036854775807 : Int64) / ((own_max (1 : Int32) (p2 &&& (2147483647 : Int32))).toInt64))), .second, .unset, .unset, .unset, .unset, .unset, .unset, .unset, .unset] [(.long ((p4 &&& (3 : Int32)).toInt64)), (.long (((9223372036854775807 : Int64) / ((own_max (1 : Int32) (p2 &&& (2147483647 : Int32))).toInt64)) - (1 : Int64)))])) _
    refine XS.ladd Xa.here hx rfl (hb hby at_34) rfl ?_
    show Steps p.tables e below (Ta.setTop (mkF m 35 #[.val (.long q1), .second, .val (.int p2), .val (.int p3), .val (.int p4), .val (.int (own_max (1 : Int32) (p2 &&& (2147483647 : Int32)))), .unset, .unset, .val (.long ((9223372036854775807 : Int64) / ((own_max (1 : Int32) (p2 &&& (2147483647 : Int32))).toInt64))), .second, .unset, .unset, .unset, .unset, .unset, .unset, .unset, .unset] [(.long ((((9223372036854775807 : Int64) / ((own_max (1 : Int32) (p2 &&& (2147483647 : Int32))).toInt64)) - (1 : Int64)) + ((p4 &&& (3 : Int32)).toInt64)))])) _
    refine XS.lstore Xa.here hx rfl (hb hby at_35) rfl (l' := #[.val (.long q1), .second, .val (.int p2), .val (.int p3), .val (.int p4), .val (.int (own_max (1 : Int32) (p2 &&& (2147483647 : Int32)))), .val (.long ((((9223372036854775807 : Int64) / ((own_max (1 : Int32) (p2 &&& (2147483647 : Int32))).toInt64)) - (1 : Int64)) + ((p4 &&& (3 : Int32)).toInt64))), .second, .val (.long ((9223372036854775807 : Int64) / ((own_max (1 : Int32) (p2 &&& (2147483647 : Int32))).toInt64))), .second, .unset, .unset, .unset, .unset, .unset, .unset, .unset, .unset]) rfl ?_
    show Steps p.tables e below (Ta.setTop (mkF m 37 #[.val (.long q1), .second, .val (.int p2), .val (.int p3), .val (.int p4), .val (.int (own_max (1 : Int32) (p2 &&& (2147483647 : Int32)))), .val (.long ((((9223372036854775807 : Int64) / ((own_max (1 : Int32) (p2 &&& (2147483647 : Int32))).toInt64)) - (1 : Int64)) + ((p4 &&& (3 : Int32)).toInt64))), .second, .val (.long ((9223372036854775807 : Int64) / ((own_max (1 : Int32) (p2 &&& (2147483647 : Int32))).toInt64))), .second, .unset, .unset, .unset, .unset, .unset, .unset, .unset, .unset] [])) _
    refine XS.lload Xa.here hx rfl (hb hby at_37) rfl ?_
    show Steps p.tables e below (Ta.setTop (mkF m 39 #[.val (.long q1), .second, .val (.int p2), .val (.int p3), .val (.int p4), .val (.int (own_max (1 : Int32) (p2 &&& (2147483647 : Int32)))), .val (.long ((((9223372036854775807 : Int64) / ((own_max (1 : Int32) (p2 &&& (2147483647 : Int32))).toInt64)) - (1 : Int64)) + ((p4 &&& (3 : Int32)).toInt64))), .second, .val (.long ((9223372036854775807 : Int64) / ((own_max (1 : Int32) (p2 &&& (2147483647 : Int32))).toInt64))), .second, .unset, .unset, .unset, .unset, .unset, .unset, .unset, .unset] [(.long ((((9223372036854775807 : Int64) / ((own_max (1 : Int32) (p2 &&& (2147483647 : Int32))).toInt64)) - (1 : Int64)) + ((p4 &&& (3 : Int32)).toInt64)))])) _
    refine XS.lconst Xa.here hx rfl (hb hby at_39) ?_
    show Steps p.tables e below (Ta.setTop (mkF m 40 #[.val (.long q1), .second, .val (.int p2), .val (.int p3), .val (.int p4), .val (.int (own_max (1 : Int32) (p2 &&& (2147483647 : Int32)))), .val (.long ((((9223372036854775807 : Int64) / ((own_max (1 : Int32) (p2 &&& (2147483647 : Int32))).toInt64)) - (1 : Int64)) + ((p4 &&& (3 : Int32)).toInt64))), .second, .val (.long ((9223372036854775807 : Int64) / ((own_max (1 : Int32) (p2 &&& (2147483647 : Int32))).toInt64))), .second, .unset, .unset, .unset, .unset, .unset, .unset, .unset, .unset] [(.long (1 : Int64)), (.long ((((9223372036854775807 : Int64) / ((own_max (1 : Int32) (p2 &&& (2147483647 : Int32))).toInt64)) - (1 : Int64)) + ((p4 &&& (3 : Int32)).toInt64)))])) _
    refine XS.lcmp Xa.here hx rfl (hb hby at_40) rfl ?_
    show Steps p.tables e below (Ta.setTop (mkF m 41 #[.val (.long q1), .second, .val (.int p2), .val (.int p3), .val (.int p4), .val (.int (own_max (1 : Int32) (p2 &&& (2147483647 : Int32)))), .val (.long ((((9223372036854775807 : Int64) / ((own_max (1 : Int32) (p2 &&& (2147483647 : Int32))).toInt64)) - (1 : Int64)) + ((p4 &&& (3 : Int32)).toInt64))), .second, .val (.long ((9223372036854775807 : Int64) / ((own_max (1 : Int32) (p2 &&& (2147483647 : Int32))).toInt64))), .second, .unset, .unset, .unset, .unset, .unset, .unset, .unset, .unset] [(.int (lcmpW ((((9223372036854775807 : Int64) / ((own_max (1 : Int32) (p2 &&& (2147483647 : Int32))).toInt64)) - (1 : Int64)) + ((p4 &&& (3 : Int32)).toInt64)) (1 : Int64)))])) _
    refine XS.ifYes Xa.here hx rfl (pc0 := 41) (pc' := 49) rfl (hb hby at_41) rfl ((if0 _ _).trans (flt hc41).2.1) (by decide) (by decide) ?_
    show Steps p.tables e below (Ta.setTop (mkF m 49 #[.val (.long q1), .second, .val (.int p2), .val (.int p3), .val (.int p4), .val (.int (own_max (1 : Int32) (p2 &&& (2147483647 : Int32)))), .val (.long ((((9223372036854775807 : Int64) / ((own_max (1 : Int32) (p2 &&& (2147483647 : Int32))).toInt64)) - (1 : Int64)) + ((p4 &&& (3 : Int32)).toInt64))), .second, .val (.long ((9223372036854775807 : Int64) / ((own_max (1 : Int32) (p2 &&& (2147483647 : Int32))).toInt64))), .second, .unset, .unset, .unset, .unset, .unset, .unset, .unset, .unset] [])) _
    refine XS.goto Xa.here hx rfl (pc0 := 49) (pc' := 63) rfl (hb hby at_49) (by decide) (by decide) ?_
    refine stz _ ?_
    exact retN Xz hx (t := .boolean) Bd.returns (by simp) (hb hby at_161) hr
  · exact ⟨rfl, Nz⟩
theorem rm0 (l : Launch) (Z : State) (a0 : Array Value) (hw : ∀ d ∈ tables_1, d.before a0 Z = true) (ws : List Jvm.Cond) (q1 : Int64) (p2 : Int32) (p3 : Int32) (p4 : Int32) (h0 : Heap) (n0 : Nat) (Z0 : n0 ≤ h0.size) :
    MetFree l x (head1 (Jvm.Cond.code x code maxLocals ret :: ws) room_1) (fun a U => a = #[(.long q1), (.int p2), (.int p3), (.int p4)] ∧ Z.Warmed39 U.vm ∧ U.heap = h0) (fun _ _ _ _ _ => True) (fun _ U o U' => ∃ v L, o = .returned v ∧ Q0 Z q1 p2 p3 p4 h0 n0 v U'.heap L ∧ FrameEnd U o U' L room_1.cells room_1.slots) := by
  by_cases hc13 : (p3 &&& (1 : Int32)) = (0 : Int32)
  · exact rm0_t l Z a0 hw ws q1 p2 p3 p4 h0 n0 Z0 hc13
  · by_cases hc41 : (lcmpW ((((9223372036854775807 : Int64) / ((own_max (1 : Int32) (p2 &&& (2147483647 : Int32))).toInt64)) - (1 : Int64)) + ((p4 &&& (3 : Int32)).toInt64)) (1 : Int64)) < (0 : Int32)
    · exact rm0_ff l Z a0 hw ws q1 p2 p3 p4 h0 n0 Z0 hc13 hc41
    · exact rm0_ft l Z a0 hw ws q1 p2 p3 p4 h0 n0 Z0 hc13 hc41
set_option maxRecDepth 65536 in
set_option maxHeartbeats 40000000 in
theorem comes_1 {Post : Tables → Env → Array Value → State → Outcome → State → Prop} (hpost : ∀ tb e args s v u, (limb_1_1.after args s (.returned v) u = true ∧ limb_1_2.after args s (.returned v) u = true ∧ True) → FrameEnd s (.returned v) u (Jvm.fieldLocs frame_1_writes args s ++ Jvm.arrayLocs frame_1_arrays args s ++ Jvm.staticLocs frame_1_statics s) 16 128 → Post tb e args s (.returned v) u) :
    ArmFor flags0 classFile x code maxLocals ret World_1 tables_1 room_1 Calls_1 rest_1 Pre_1 Post := by
  intro l hfl _ _ p e ha hc hk s m args below hf hA hF happ hP
  obtain ⟨hcalls, hrest, hpre⟩ := hP
  obtain ⟨-, -, -, hnamed, -, -, -, hat⟩ := (Spec.applies_iff hf).mp happ
  obtain ⟨hg, hn⟩ := and_e (Cond.before_iff.mp (show (Jvm.Cond.and given_1 narrow_1).before args s = true from hpre))
  obtain ⟨g13, g14⟩ := and_e hg
  obtain ⟨g15, g16⟩ := and_e g14
  obtain ⟨g17, g18⟩ := and_e g16
  obtain ⟨g19, g20⟩ := and_e g18
  obtain ⟨w0, w1, w2, w3, rfl⟩ : ∃ w0 w1 w2 w3 : Value, args = #[w0, w1, w2, w3] := by
    have hs : args.size = 4 := by simpa [Cond.value, given_1] using g13
    obtain ⟨L⟩ := args
    match L, hs with
    | [w0, w1, w2, w3], _ => exact ⟨w0, w1, w2, w3, rfl⟩
  have hw := fun d (hd : d ∈ tables_1) => atoms_spec (ws := Jvm.Cond.code x code maxLocals ret :: tables_1) hat d (List.mem_cons_of_mem _ hd)
  have hfit : Fit s := fun {y c} hc i hi => by
    obtain ⟨ha, rfl⟩ := Array.getElem?_eq_some_iff.mp hc
    have q := List.all_eq_true.mp ((Array.all_eq_true_iff_forall_mem.mp hF) _ (Array.getElem_mem ha)) i (List.mem_range.mpr hi)
    simpa [Array.getElem?_eq_getElem hi] using q
  obtain ⟨i0, ei0⟩ := isL_v g15
  obtain rfl : w0 = (.long i0) := Option.some.inj ei0
  obtain ⟨i1, ei1⟩ := is_v g17
  obtain rfl : w1 = (.int i1) := Option.some.inj ei1
  obtain ⟨i2, ei2⟩ := is_v g19
  obtain rfl : w2 = (.int i2) := Option.some.inj ei2
  obtain ⟨i3, ei3⟩ := is_v g20
  obtain rfl : w3 = (.int i3) := Option.some.inj ei3
  obtain ⟨n, o, h1, h2, h3, _, L, rfl, ⟨rfl, N⟩, hq⟩ := rm0 l s _ hw tables_1 i0 i1 i2 i3 s.heap s.heap.size (Nat.le_refl _) p e ha hc hk s m _ below hf ((Spec.applies_iff_loose hf).mp happ).1 ⟨rfl, State.Warmed39.refl s, rfl⟩ trivial
  refine ⟨n, _, h1, h2, h3, hpost _ _ _ _ _ _ ⟨Cond.after_iff.mpr rfl, Cond.after_iff.mpr (eq_i res_at (Term.int_eval (1)) rfl), trivial⟩ ⟨hq.1, hq.2.1, (hq.2.2.sift fun y hy => Or.inr (N y hy)).mono (by decide) (by decide)⟩⟩
theorem main_1_1 : Claimed_1_1 := comes_1 fun _ _ _ _ _ _ h hF => ⟨h.1, hF⟩
theorem main_1_2 : Claimed_1_2 := comes_1 fun _ _ _ _ _ _ h hF => ⟨h.2.1, hF⟩
end Jvm.Pilot.@@N@@
namespace Jvm.Pilot.@@N@@
open Jvm Jvm.ClassFile Sem Op Lib Jvm.Free Jvm.Stand Jvm.Pilot.@@N@@.Jvm.D
/-! MADE BY PROGRAM (witnessworld.py) out of the Statement's table words and the real class files: 10 classes; the members and pool entries that the words name. The judged class is class 1, her method 1. -/
namespace start1
open Jvm.ClassFile
def u (s : String) : CpInfo := .utf8 (stringToUtf16 s)
/-- a pool by its gaps: so many unusable entries, then the entry; so many at the end -/
def gap : Nat → List CpInfo → List CpInfo
  | 0, r => r
  | n + 1, r => .unusable :: gap n r
def poolList (es : List (Nat × CpInfo)) (last : Nat) : List CpInfo := es.foldr (fun e r => gap e.1 (e.2 :: r)) (gap last [])
def pool (es : List (Nat × CpInfo)) (last : Nat) : Array CpInfo := ⟨poolList es last⟩
def fileOf (pool : Array CpInfo) (this : Nat) (attrs : Array Attribute := #[]) (ms : Array MethodInfo := #[]) (fl : Nat := 33) (sup : Nat := 0) (ifs : Array Nat := #[]) (fds : Array FieldInfo := #[]) : ClassFile where
  minorVersion := 0
  majorVersion := 65
  constantPool := pool
  accessFlags := fl
  thisClass := this
  superClass := sup
  interfaces := ifs
  fields := fds
  methods := ms
  attributes := attrs
def plain (name : String) (sup : Option ClassId) : Class where
  name := name
  kind := .ordinary
  loader := none
  accessFlags := 33
  super := sup
  interfaces := #[]
  cf := none
  fields := #[]
  methods := #[]
  instanceTypes := #[]
  staticTypes := #[]
  resolved := #[]
  callSites := []
  init := .initialized
  statics := none
  mirror := none

def pool0 : Array CpInfo := pool [(5, u "<init>"), (0, u "()V"), (1, .class_ 10), (1, u "java/lang/Object")] 113

def k0c0 : Code := { maxStack := 0, maxLocals := 1, code := object_method_1_code, exceptionTable := #[], attributes := #[] }
def k0m0 : Method := { name := "<init>", desc := "()V", sig := { parameters := [], returnType := none }, accessFlags := 1, code := some k0c0 }
/-- java/lang/Object -/
def k0 : Class := { plain "java/lang/Object" none with
  accessFlags := 33
  interfaces := #[]
  cf := some (fileOf pool0 8 #[] #[{ accessFlags := 1, nameIndex := 5, descriptorIndex := 6, attributes := #[] }] 33 0 #[] #[])
  fields := #[]
  methods := #[k0m0]
  instanceTypes := #[]
  staticTypes := #[]
  resolved := Array.replicate 124 none
  statics := none }

def pool1 : Array CpInfo := pool [(2, .class_ 4), (1, u "java/lang/Object"), (0, u "<init>"), (0, u "()V"), (0, .integer 2147483647), (0, .methodref 9 10), (0, .class_ 11), (0, .nameAndType 12 13), (0, u "java/lang/Math"), (0, u "max"), (0, u "(II)I"), (2, .long 9223372036854775807), (1, .methodref 9 19), (0, .nameAndType 12 20), (0, u "(JJ)J"), (0, .class_ 22), (0, u "com/example/proration/proration/store/Page"), (0, .methodref 21 24), (0, .nameAndType 5 25), (0, u "(JI)V"), (0, .methodref 21 27), (0, .nameAndType 28 29), (0, u "offset"), (0, u "()J"), (0, .methodref 21 31), (0, .nameAndType 32 33), (0, u "size"), (0, u "()I"), (0, .class_ 35), (0, u "com/example/proration/proration/store/PageOffsetPinLaw"), (2, u "law"), (0, u "(JIII)Z")] 3

def k1m0 : Method := { name := "<init>", desc := "()V", sig := { parameters := [], returnType := none }, accessFlags := 1, code := none }
def k1c1 : Code := { maxStack := 6, maxLocals := 18, code := code, exceptionTable := #[], attributes := #[] }
def k1m1 : Method := { name := "law", desc := "(JIII)Z", sig := { parameters := [.long, .int, .int, .int], returnType := some .boolean }, accessFlags := 9, code := some k1c1 }
/-- com/example/proration/proration/store/PageOffsetPinLaw -/
def k1 : Class := { plain "com/example/proration/proration/store/PageOffsetPinLaw" (some 0) with
  accessFlags := 49
  interfaces := #[]
  cf := some (fileOf pool1 34 #[] #[{ accessFlags := 1, nameIndex := 5, descriptorIndex := 6, attributes := #[] }, { accessFlags := 9, nameIndex := 38, descriptorIndex := 39, attributes := #[] }] 49 2 #[] #[])
  fields := #[]
  methods := #[k1m0, k1m1]
  instanceTypes := #[]
  staticTypes := #[]
  resolved := Array.replicate 43 none
  statics := none }

def pool2 : Array CpInfo := pool [(1, .class_ 2), (0, u "java/lang/Math"), (1, .class_ 6), (1, u "java/lang/Object"), (0, u "<init>"), (0, u "()V"), (89, .class_ 100), (1, u "java/lang/Math$RandomNumberGeneratorHolder"), (20, u "(JJ)J"), (50, u "negativeZeroFloatBits"), (0, u "J"), (2, u "negativeZeroDoubleBits"), (21, u "max"), (46, u "$assertionsDisabled"), (0, u "Z"), (88, u "(II)I"), (2, u "twoToTheDoubleScaleDown"), (0, u "D"), (4, u "twoToTheDoubleScaleUp"), (9, u "E"), (3, u "PI"), (2, u "TAU"), (2, u "DEGREES_TO_RADIANS"), (0, u "RADIANS_TO_DEGREES")] 94

def k2m0 : Method := { name := "<init>", desc := "()V", sig := { parameters := [], returnType := none }, accessFlags := 2, code := none }
def k2c1 : Code := { maxStack := 2, maxLocals := 2, code := jdk_29_method_65_code, exceptionTable := #[], attributes := #[] }
def k2m1 : Method := { name := "max", desc := "(II)I", sig := { parameters := [.int, .int], returnType := some .int }, accessFlags := 9, code := some k2c1 }
def k2c2 : Code := { maxStack := 4, maxLocals := 4, code := jdk_29_method_66_code, exceptionTable := #[], attributes := #[] }
def k2m2 : Method := { name := "max", desc := "(JJ)J", sig := { parameters := [.long, .long], returnType := some .long }, accessFlags := 9, code := some k2c2 }
/-- java/lang/Math -/
def k2 : Class := { plain "java/lang/Math" (some 0) with
  accessFlags := 49
  interfaces := #[]
  cf := some (fileOf pool2 1 #[.nestMembers #[98]] #[{ accessFlags := 2, nameIndex := 7, descriptorIndex := 8, attributes := #[] }, { accessFlags := 9, nameIndex := 198, descriptorIndex := 335, attributes := #[] }, { accessFlags := 9, nameIndex := 198, descriptorIndex := 121, attributes := #[] }] 49 4 #[] #[{ accessFlags := 25, nameIndex := 354, descriptorIndex := 339, attributes := #[] }, { accessFlags := 25, nameIndex := 358, descriptorIndex := 339, attributes := #[] }, { accessFlags := 25, nameIndex := 361, descriptorIndex := 339, attributes := #[] }, { accessFlags := 26, nameIndex := 364, descriptorIndex := 339, attributes := #[] }, { accessFlags := 26, nameIndex := 365, descriptorIndex := 339, attributes := #[] }, { accessFlags := 26, nameIndex := 172, descriptorIndex := 173, attributes := #[] }, { accessFlags := 26, nameIndex := 176, descriptorIndex := 173, attributes := #[] }, { accessFlags := 8, nameIndex := 344, descriptorIndex := 339, attributes := #[] }, { accessFlags := 8, nameIndex := 338, descriptorIndex := 339, attributes := #[] }, { accessFlags := 4120, nameIndex := 245, descriptorIndex := 246, attributes := #[] }])
  fields := #[{ name := "E", type := .double, accessFlags := 25, slot := 0, constantValue := 0 }, { name := "PI", type := .double, accessFlags := 25, slot := 1, constantValue := 0 }, { name := "TAU", type := .double, accessFlags := 25, slot := 2, constantValue := 0 }, { name := "DEGREES_TO_RADIANS", type := .double, accessFlags := 26, slot := 3, constantValue := 0 }, { name := "RADIANS_TO_DEGREES", type := .double, accessFlags := 26, slot := 4, constantValue := 0 }, { name := "negativeZeroFloatBits", type := .long, accessFlags := 26, slot := 5, constantValue := 0 }, { name := "negativeZeroDoubleBits", type := .long, accessFlags := 26, slot := 6, constantValue := 0 }, { name := "twoToTheDoubleScaleUp", type := .double, accessFlags := 8, slot := 7, constantValue := 0 }, { name := "twoToTheDoubleScaleDown", type := .double, accessFlags := 8, slot := 8, constantValue := 0 }, { name := "$assertionsDisabled", type := .boolean, accessFlags := 4120, slot := 9, constantValue := 0 }]
  methods := #[k2m0, k2m1, k2m2]
  instanceTypes := #[]
  staticTypes := #[.double, .double, .double, .double, .double, .long, .long, .double, .double, .boolean]
  resolved := Array.replicate 460 none
  statics := none }

def pool3 : Array CpInfo := pool [(1, .methodref 2 3), (0, .class_ 4), (0, .nameAndType 5 6), (0, u "java/lang/Object"), (0, u "<init>"), (0, u "()V"), (9, .fieldref 17 18), (0, .class_ 19), (0, .nameAndType 20 21), (0, u "com/example/proration/proration/store/Page"), (0, u "number"), (0, u "J"), (0, .fieldref 17 23), (0, .nameAndType 24 25), (0, u "size"), (0, u "I"), (2, .long 9223372036854775807), (1, u "(JI)V"), (3, u "()I"), (0, u "offset"), (0, u "()J")] 17

def k3c0 : Code := { maxStack := 5, maxLocals := 4, code := prog_27_method_1_code, exceptionTable := #[], attributes := #[] }
def k3m0 : Method := { name := "<init>", desc := "(JI)V", sig := { parameters := [.long, .int], returnType := none }, accessFlags := 1, code := some k3c0 }
def k3c1 : Code := { maxStack := 1, maxLocals := 1, code := prog_27_method_2_code, exceptionTable := #[], attributes := #[] }
def k3m1 : Method := { name := "size", desc := "()I", sig := { parameters := [], returnType := some .int }, accessFlags := 1, code := some k3c1 }
def k3c2 : Code := { maxStack := 6, maxLocals := 3, code := prog_27_method_3_code, exceptionTable := #[], attributes := #[] }
def k3m2 : Method := { name := "offset", desc := "()J", sig := { parameters := [], returnType := some .long }, accessFlags := 0, code := some k3c2 }
/-- com/example/proration/proration/store/Page -/
def k3 : Class := { plain "com/example/proration/proration/store/Page" (some 0) with
  accessFlags := 49
  interfaces := #[]
  cf := some (fileOf pool3 17 #[] #[{ accessFlags := 1, nameIndex := 5, descriptorIndex := 30, attributes := #[] }, { accessFlags := 1, nameIndex := 24, descriptorIndex := 34, attributes := #[] }, { accessFlags := 0, nameIndex := 35, descriptorIndex := 36, attributes := #[] }] 49 2 #[] #[{ accessFlags := 18, nameIndex := 20, descriptorIndex := 21, attributes := #[] }, { accessFlags := 18, nameIndex := 24, descriptorIndex := 25, attributes := #[] }])
  fields := #[{ name := "number", type := .long, accessFlags := 18, slot := 0, constantValue := 0 }, { name := "size", type := .int, accessFlags := 18, slot := 1, constantValue := 0 }]
  methods := #[k3m0, k3m1, k3m2]
  instanceTypes := #[.long, .int]
  staticTypes := #[]
  resolved := Array.replicate 54 none
  statics := none }

def pool4 : Array CpInfo := pool [(1, u "java/lang/Cloneable"), (0, .class_ 1), (0, u "java/lang/Object"), (0, .class_ 3)] 3

/-- java/lang/Cloneable -/
def k4 : Class := { plain "java/lang/Cloneable" (some 0) with
  accessFlags := 1537
  interfaces := #[]
  cf := some (fileOf pool4 2 #[] #[] 1537 4 #[] #[])
  fields := #[]
  methods := #[]
  instanceTypes := #[]
  staticTypes := #[]
  resolved := Array.replicate 8 none
  statics := none }

def pool5 : Array CpInfo := pool [(1, u "java/io/Serializable"), (0, .class_ 1), (0, u "java/lang/Object"), (0, .class_ 3)] 3

/-- java/io/Serializable -/
def k5 : Class := { plain "java/io/Serializable" (some 0) with
  accessFlags := 1537
  interfaces := #[]
  cf := some (fileOf pool5 2 #[] #[] 1537 4 #[] #[])
  fields := #[]
  methods := #[]
  instanceTypes := #[]
  staticTypes := #[]
  resolved := Array.replicate 8 none
  statics := none }

/-- the primitive byte -/
def k6 : Class := { plain "byte" none with kind := .primitive 'B', accessFlags := 0x411 }
/-- [B -/
def k7 : Class := { plain "[B" (some 0) with kind := .array 6 .byte, interfaces := #[4, 5], accessFlags := 1041 }

/-- the primitive int -/
def k8 : Class := { plain "int" none with kind := .primitive 'I', accessFlags := 0x411 }
/-- [I -/
def k9 : Class := { plain "[I" (some 0) with kind := .array 8 .int, interfaces := #[4, 5], accessFlags := 1041 }

def heap : Heap := #[]
def classes : Array Class := #[k0, k1, k2, k3, k4, k5, k6, k7, k8, k9]
def interned : List (Array UInt16 × Addr) := []
def slotsUsed : Nat := 0
def theMethod : MethodId := ⟨1, 1⟩
def args0 : Array Value := #[.long 5, .int 7, .int 7, .int 7]
def aboutOver (below : List Frame) : State where
  vm := { classes := classes, interned := interned.toArray }
  heap := heap
  slotsUsed := slotsUsed
  threads := #[{ frames := .invoking theMethod args0 :: below }]
def below0 : List Frame := [.native { method := ⟨0, 0⟩, args := #[] }]
def about1 : State := aboutOver below0
def p0 : Program := .bare "" "" ""
def e0 : Env := launch0.env 0 0 0
theorem w_frames : about1.frames = Frame.invoking theMethod args0 :: below0 := rfl
set_option maxRecDepth 65536 in
theorem w_args : argsFit about1.vm theMethod args0 = true := by decide +kernel
set_option maxRecDepth 65536 in
theorem w_heap : heapFits about1 = true := by decide +kernel
set_option maxRecDepth 65536 in
theorem w_runnable : about1.curStatus? = some .runnable := by decide +kernel
set_option maxRecDepth 65536 in
theorem w_alone : about1.alone = true := by decide +kernel
set_option maxRecDepth 65536 in
theorem w_named : about1.methodNamed? x = some theMethod := by decide +kernel
set_option maxRecDepth 65536 in
theorem w_hears : about1.hears theMethod below0 = true := by decide +kernel
set_option maxRecDepth 65536 in
theorem w_ripe : about1.ripe theMethod args0 below0 = true := by decide +kernel
theorem w_running : about1.status = .running := rfl
set_option maxRecDepth 65536 in
theorem w_room : about1.hasRoom e0.platform room_1 = true :=
  launch0.hasRoom_least _ room_1 (by decide +kernel) (by decide +kernel) (by decide +kernel) (by decide +kernel) (by decide +kernel) (by decide +kernel)
theorem allAtoms_all (ts : List Jvm.Cond) (a : Array Jvm.Value) (st : Jvm.State) : (allAtoms ts).before a st = ts.all (fun c => c.before a st) := by
  induction ts with
  | nil => rfl
  | cons c t ih =>
    show (Jvm.Cond.and c (allAtoms t)).before a st = _
    rw [Jvm.Cond.before_and, ih, List.all_cons]
def words1 : List Jvm.Cond := Jvm.Cond.code x code maxLocals ret :: tables_1
/-- a 'code' word, met by the world's own term for the bytes: nothing is compared byte by byte -/
theorem code_word {y : MethodName} {bytes : ByteArray} {mx : Nat} {rt : Option FieldType} {a : Array Value} {s : State} {m : MethodId} {meth : Method} {c : Code} (h1 : s.methodNamed? y = some m) (h2 : s.vm.method? m = some meth) (h3 : meth.code = some c) (h4 : c.code = bytes)
    (h5 : (c.maxLocals == mx && c.exceptionTable.isEmpty && decide (c.maxStack ≤ mostOperands) && decide (meth.sig.returnType = rt) && !meth.locks && decide (parseMethodDescriptor y.desc = some meth.sig)) = true) : (Jvm.Cond.code y bytes mx rt).before a s = true := by
  simp only [Bool.and_eq_true, beq_iff_eq, Bool.not_eq_true', decide_eq_true_eq] at h5
  obtain ⟨⟨⟨⟨⟨g1, g2⟩, g3⟩, g4⟩, g5⟩, g6⟩ := h5
  simp [Cond.before, Cond.holds, Cond.value, h1, h2, h3, h4, g1, g2, g3, g4, g5, g6]
def isCode : Jvm.Cond → Bool
  | .code _ _ _ _ => true
  | _ => false
theorem all_split {L : List Jvm.Cond} {P : Jvm.Cond → Bool} (h1 : L.all (fun c => isCode c || P c) = true) (h2 : ∀ c ∈ L.filter isCode, P c = true) : L.all P = true := by
  refine List.all_eq_true.mpr fun c hc => ?_
  have h := List.all_eq_true.mp h1 c hc
  rcases Bool.eq_false_or_eq_true (isCode c) with hi | hi
  · exact h2 c (List.mem_filter.mpr ⟨hc, hi⟩)
  · simpa [hi] using h
set_option maxRecDepth 65536 in
theorem w_c0 : (Jvm.Cond.code x code maxLocals ret).before args0 about1 = true := code_word (m := ⟨1, 1⟩) (meth := k1m1) (c := k1c1) (by decide +kernel) rfl rfl rfl (by decide +kernel)
set_option maxRecDepth 65536 in
theorem w_c1 : (Jvm.Cond.code ({ cls := "java/lang/Math", name := "max", desc := "(II)I" } : Jvm.MethodName) jdk_29_method_65_code (2 : Nat) (Option.some Jvm.ClassFile.FieldType.int)).before args0 about1 = true := code_word (m := ⟨2, 1⟩) (meth := k2m1) (c := k2c1) (by decide +kernel) rfl rfl rfl (by decide +kernel)
set_option maxRecDepth 65536 in
theorem w_c2 : (Jvm.Cond.code ({ cls := "com/example/proration/proration/store/Page", name := "<init>", desc := "(JI)V" } : Jvm.MethodName) prog_27_method_1_code (4 : Nat) (Option.none : Option Jvm.ClassFile.FieldType)).before args0 about1 = true := code_word (m := ⟨3, 0⟩) (meth := k3m0) (c := k3c0) (by decide +kernel) rfl rfl rfl (by decide +kernel)
set_option maxRecDepth 65536 in
theorem w_c3 : (Jvm.Cond.code ({ cls := "java/lang/Object", name := "<init>", desc := "()V" } : Jvm.MethodName) object_method_1_code (1 : Nat) (Option.none : Option Jvm.ClassFile.FieldType)).before args0 about1 = true := code_word (m := ⟨0, 0⟩) (meth := k0m0) (c := k0c0) (by decide +kernel) rfl rfl rfl (by decide +kernel)
set_option maxRecDepth 65536 in
theorem w_c4 : (Jvm.Cond.code ({ cls := "com/example/proration/proration/store/Page", name := "offset", desc := "()J" } : Jvm.MethodName) prog_27_method_3_code (3 : Nat) (Option.some Jvm.ClassFile.FieldType.long)).before args0 about1 = true := code_word (m := ⟨3, 2⟩) (meth := k3m2) (c := k3c2) (by decide +kernel) rfl rfl rfl (by decide +kernel)
set_option maxRecDepth 65536 in
theorem w_c5 : (Jvm.Cond.code ({ cls := "com/example/proration/proration/store/Page", name := "size", desc := "()I" } : Jvm.MethodName) prog_27_method_2_code (1 : Nat) (Option.some Jvm.ClassFile.FieldType.int)).before args0 about1 = true := code_word (m := ⟨3, 1⟩) (meth := k3m1) (c := k3c1) (by decide +kernel) rfl rfl rfl (by decide +kernel)
set_option maxRecDepth 65536 in
theorem w_c6 : (Jvm.Cond.code ({ cls := "java/lang/Math", name := "max", desc := "(JJ)J" } : Jvm.MethodName) jdk_29_method_66_code (4 : Nat) (Option.some Jvm.ClassFile.FieldType.long)).before args0 about1 = true := code_word (m := ⟨2, 2⟩) (meth := k2m2) (c := k2c2) (by decide +kernel) rfl rfl rfl (by decide +kernel)
def codes1 : List Jvm.Cond := [Jvm.Cond.code x code maxLocals ret, Jvm.Cond.code ({ cls := "java/lang/Math", name := "max", desc := "(II)I" } : Jvm.MethodName) jdk_29_method_65_code (2 : Nat) (Option.some Jvm.ClassFile.FieldType.int), Jvm.Cond.code ({ cls := "com/example/proration/proration/store/Page", name := "<init>", desc := "(JI)V" } : Jvm.MethodName) prog_27_method_1_code (4 : Nat) (Option.none : Option Jvm.ClassFile.FieldType), Jvm.Cond.code ({ cls := "java/lang/Object", name := "<init>", desc := "()V" } : Jvm.MethodName) object_method_1_code (1 : Nat) (Option.none : Option Jvm.ClassFile.FieldType), Jvm.Cond.code ({ cls := "com/example/proration/proration/store/Page", name := "offset", desc := "()J" } : Jvm.MethodName) prog_27_method_3_code (3 : Nat) (Option.some Jvm.ClassFile.FieldType.long), Jvm.Cond.code ({ cls := "com/example/proration/proration/store/Page", name := "size", desc := "()I" } : Jvm.MethodName) prog_27_method_2_code (1 : Nat) (Option.some Jvm.ClassFile.FieldType.int), Jvm.Cond.code ({ cls := "java/lang/Math", name := "max", desc := "(JJ)J" } : Jvm.MethodName) jdk_29_method_66_code (4 : Nat) (Option.some Jvm.ClassFile.FieldType.long)]
set_option maxRecDepth 65536 in
theorem codes_eq : words1.filter isCode = codes1 := rfl
theorem w_codes : ∀ c ∈ words1.filter isCode, c.before args0 about1 = true := by
  rw [codes_eq]
  intro c hc
  simp only [codes1, List.mem_cons, List.not_mem_nil, or_false] at hc
  rcases hc with rfl | rfl | rfl | rfl | rfl | rfl | rfl
  · exact w_c0
  · exact w_c1
  · exact w_c2
  · exact w_c3
  · exact w_c4
  · exact w_c5
  · exact w_c6
set_option maxRecDepth 65536 in
theorem w_t1 : (words1.take 24).all (fun c => isCode c || c.before args0 about1) = true := by decide +kernel
set_option maxRecDepth 65536 in
theorem w_t2 : (words1.drop 24).all (fun c => isCode c || c.before args0 about1) = true := by decide +kernel
theorem w_tables : (allAtoms (Jvm.Cond.code x code maxLocals ret :: tables_1)).before args0 about1 = true := by
  rw [allAtoms_all]
  show words1.all (fun c => c.before args0 about1) = true
  refine all_split ?_ w_codes
  rw [← List.take_append_drop 24 words1, List.all_append, w_t1, w_t2]
  rfl
set_option maxRecDepth 65536 in
theorem w_case : (Jvm.Cond.and given_1 narrow_1).before args0 about1 = true := by decide +kernel
theorem w_applies : (headSpec (Jvm.Cond.code x code maxLocals ret :: tables_1) room_1).applies x e0.platform about1 = true :=
  (Spec.applies_iff w_frames).mpr ⟨w_running, w_runnable, w_alone, w_named, w_hears, w_ripe, w_room, w_tables⟩
theorem atStart : AtStart classFile x code maxLocals ret World_1 tables_1 room_1 Calls_1 rest_1 Pre_1 launch0 p0 e0 about1 theMethod args0 below0 :=
  ⟨lists_1, trivial, launch0.admits_env _ _ _, launch0.least_env, fairChoices_fair.cas, fairChoices_fair.clock, w_frames, w_args, w_heap, w_applies, trivial, trivial, w_case⟩
end start1
theorem witness_1 : WitnessClaimed_1 := ⟨start1.p0, start1.e0, start1.about1, start1.theMethod, start1.args0, start1.below0, start1.atStart⟩
end Jvm.Pilot.@@N@@
