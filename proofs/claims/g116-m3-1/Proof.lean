import JvmDerived
import JvmDerived.Pilot.@@N@@Statement
import JvmDerived.Pilot.@@N@@Code
set_option linter.unusedVariables false
set_option linter.unusedSimpArgs false
namespace Jvm.RoadKit
open Sem ClassFile Op Lib Jvm.Stand Jvm.Free Jvm.LawKit
section New
variable {p : Program} {l : Launch} {e : Env} {R : Room} {s : State} {m : MethodId} {args : Array Value} {below : List Frame} {meth : Method} {c : Code} {T : State} {locs : List Loc} {cells slots : Nat}
theorem retI (X : Stand p l e R s m args below meth c T locs cells slots) (hx : p.tables.exec = Jvm.exec) {pc : Nat} {Ls : Array Slot} {z : Int32} {rest : List Value} (hret : meth.sig.returnType = some .int) (hd : decode c.code pc = .ok (.ireturn, 1)) {fs : List Frame}
    (hl : ∀ (f : JFrame) (acts : List Action), f.method = m → f.locked = none → f.entered = [] → (doReturn e (T.setTop f) acts (some (.int z))).1 = T.setFrames fs) : Steps p.tables e below (T.setTop (mkF m pc Ls (.int z :: rest))) (T.setFrames fs) := by
  have hm' : T.vm.method? m = some meth := X.method'
  have hn : narrow .int (.int z) = .int z := rfl
  show Steps p.tables e below (T.setTop { method := m, pc := pc, locals := Ls, stack := _ :: rest, locked := none }) _
  jvm_step X.here [X.here.top, hx, hd, hm', hret, hn]
  first | (intro acts; rw [hl _ acts rfl rfl rfl]) | rw [hl _ _ rfl rfl rfl]
  exact Steps.refl _
end New
end Jvm.RoadKit
namespace Jvm.Pilot.@@N@@
open Jvm Jvm.ClassFile Sem Op Lib Jvm.Free Jvm.Stand Jvm.LawKit Jvm.RoadKit Bundle Jvm.Pilot.@@N@@.Jvm.D
def own_I (Z : State) (h : Heap) (a w : Addr) (k : ClassId) (z len : Int32) : Prop := Exa Z h a "descry/read/TextPrefix" ∧ Fld Z h a "descry/read/TextPrefix" "held" "[C" (.ref w) ∧ Fld Z h a "descry/read/TextPrefix" "length" "I" (.int len) ∧ (∃ c : Int32, Fld Z h a "descry/read/TextPrefix" "cut" "Z" (.int c)) ∧ ∃ vd : List Value, vd.length = 4 ∧ Arv Z h w k .char z vd (.int (0 : Int32))
def own_min (a b : Int32) : Int32 := if b < a then b else a
def own_emp (a : Int32) : Int32 := if a = 0 then 1 else 0
theorem d6_0 : decode jdk_29_method_69_code 0 = .ok (.iload_n 0, 1) := by decide +kernel
theorem d6_1 : decode jdk_29_method_69_code 1 = .ok (.iload_n 1, 1) := by decide +kernel
theorem d6_2 : decode jdk_29_method_69_code 2 = .ok (.if_icmp .gt 7, 3) := by decide +kernel
theorem d6_9 : decode jdk_29_method_69_code 9 = .ok (.iload_n 1, 1) := by decide +kernel
theorem d6_10 : decode jdk_29_method_69_code 10 = .ok (.ireturn, 1) := by decide +kernel
theorem ef_6 (m : MethodId) (x0 : Int32) (x1 : Int32) : entryFrame m #[(.int x0), (.int x1)] 2 = mkF m 0 #[.val (.int x0), .val (.int x1)] [] := by first | (simp [entryFrame, mkF, argsToLocals, Value.category]; done) | rfl
def Q6 (Z : State) (p1 : Int32) (p2 : Int32) (h0 : Heap) (n0 : Nat) (v : Option Value) (h : Heap) (L : List Loc) : Prop := v = some (.int (own_min p1 p2)) ∧ Fr n0 L ∧ h = h0
set_option maxRecDepth 65536 in
set_option maxHeartbeats 40000000 in
theorem rm6_t (l : Launch) (Z : State) (a0 : Array Value) (hw : ∀ d ∈ tables_1, d.before a0 Z = true) (ws : List Jvm.Cond) (p1 : Int32) (p2 : Int32) (h0 : Heap) (n0 : Nat) (Z0 : n0 ≤ h0.size) (hc2 : p2 < p1) :
    MetFree l (⟨"java/lang/Math", "min", "(II)I"⟩ : MethodName) (head1 (Jvm.Cond.code (⟨"java/lang/Math", "min", "(II)I"⟩ : MethodName) jdk_29_method_69_code 2 (some .int) :: ws) ({ frames := 0, cells := 0, slots := 0, locals := 0 } : Room)) (fun a U => a = #[(.int p1), (.int p2)] ∧ Z.Warmed39 U.vm ∧ U.heap = h0) (fun _ _ _ _ _ => True) (fun _ U o U' => ∃ v L, o = .returned v ∧ Q6 Z p1 p2 h0 n0 v U'.heap L ∧ FrameEnd U o U' L ({ frames := 0, cells := 0, slots := 0, locals := 0 } : Room).cells ({ frames := 0, cells := 0, slots := 0, locals := 0 } : Room).slots) := by
  refine MetFree.of_bodySF (Jvm.Free.JP.mathPlain rfl (by decide +kernel)) hisR ?_
  intro p e s m args below meth c s₁ Bd hml0 hP hK
  obtain ⟨rfl, hZ, hh⟩ := hP
  have hx := Bd.exec
  have hby := Bd.bytes
  have hml : c.maxLocals = 2 := hml0
  have hown : s.vm.findClass "java/lang/Math" = some m.cls := findClass_of_methodNamed Bd.named
  have hnm := (name_of_methodNamed Bd.named Bd.method).1
  have X0 : Stand p l e ({ frames := 0, cells := 0, slots := 0, locals := 0 } : Room) s m #[(.int p1), (.int p2)] below meth c s₁ [] 0 0 := Stand.of_body Bd
  have e0 : s₁.heap = h0 := by rw [← hh, Bd.state]; rfl
  have N0 := Fr.nil n0
  have pre0 : ∀ t, Steps p.tables e below (s₁.setTop (mkF m 0 #[.val (.int p1), .val (.int p2)] [])) t → Steps p.tables e below (s₁.setTop (entryFrame m #[(.int p1), (.int p2)] 2)) t := fun t k => castTop (ef_6 m p1 p2) k

  obtain ⟨fs, hr, hrun, hended, hW, hsame⟩ := X0.leave (v := some (.int p2)) (fun h => by rw [Bd.returns] at h; cases h)
  refine ⟨_, _, pre0 _ ?_, hrun, hended, _, _, rfl, ?_, ⟨_, rfl⟩, hW, hsame.mono (by decide) (by decide)⟩
  · show Steps p.tables e below (s₁.setTop (mkF m 0 #[.val (.int p1), .val (.int p2)] [])) _
    refine XS.iloadN X0.here hx rfl (hb hby d6_0) rfl ?_
    show Steps p.tables e below (s₁.setTop (mkF m 1 #[.val (.int p1), .val (.int p2)] [(.int p1)])) _
    refine XS.iloadN X0.here hx rfl (hb hby d6_1) rfl ?_
    show Steps p.tables e below (s₁.setTop (mkF m 2 #[.val (.int p1), .val (.int p2)] [(.int p2), (.int p1)])) _
    refine XS.icmpYes X0.here hx rfl (pc0 := 2) (pc' := 9) rfl (hb hby d6_2) rfl (tlt hc2).2.2.1 (by decide) (by decide) ?_
    show Steps p.tables e below (s₁.setTop (mkF m 9 #[.val (.int p1), .val (.int p2)] [])) _
    refine XS.iloadN X0.here hx rfl (hb hby d6_9) rfl ?_
    show Steps p.tables e below (s₁.setTop (mkF m 10 #[.val (.int p1), .val (.int p2)] [(.int p2)])) _
    exact retI X0 hx Bd.returns (hb hby d6_10) hr
  · show Q6 Z p1 p2 h0 n0 _ s₁.heap _
    rw [e0]
    exact ⟨by rw [own_min, if_pos hc2], N0, rfl⟩
theorem d6_5 : decode jdk_29_method_69_code 5 = .ok (.iload_n 0, 1) := by decide +kernel
theorem d6_6 : decode jdk_29_method_69_code 6 = .ok (.goto 4, 3) := by decide +kernel
set_option maxRecDepth 65536 in
set_option maxHeartbeats 40000000 in
theorem rm6_f (l : Launch) (Z : State) (a0 : Array Value) (hw : ∀ d ∈ tables_1, d.before a0 Z = true) (ws : List Jvm.Cond) (p1 : Int32) (p2 : Int32) (h0 : Heap) (n0 : Nat) (Z0 : n0 ≤ h0.size) (hc2 : ¬ (p2 < p1)) :
    MetFree l (⟨"java/lang/Math", "min", "(II)I"⟩ : MethodName) (head1 (Jvm.Cond.code (⟨"java/lang/Math", "min", "(II)I"⟩ : MethodName) jdk_29_method_69_code 2 (some .int) :: ws) ({ frames := 0, cells := 0, slots := 0, locals := 0 } : Room)) (fun a U => a = #[(.int p1), (.int p2)] ∧ Z.Warmed39 U.vm ∧ U.heap = h0) (fun _ _ _ _ _ => True) (fun _ U o U' => ∃ v L, o = .returned v ∧ Q6 Z p1 p2 h0 n0 v U'.heap L ∧ FrameEnd U o U' L ({ frames := 0, cells := 0, slots := 0, locals := 0 } : Room).cells ({ frames := 0, cells := 0, slots := 0, locals := 0 } : Room).slots) := by
  refine MetFree.of_bodySF (Jvm.Free.JP.mathPlain rfl (by decide +kernel)) hisR ?_
  intro p e s m args below meth c s₁ Bd hml0 hP hK
  obtain ⟨rfl, hZ, hh⟩ := hP
  have hx := Bd.exec
  have hby := Bd.bytes
  have hml : c.maxLocals = 2 := hml0
  have hown : s.vm.findClass "java/lang/Math" = some m.cls := findClass_of_methodNamed Bd.named
  have hnm := (name_of_methodNamed Bd.named Bd.method).1
  have X0 : Stand p l e ({ frames := 0, cells := 0, slots := 0, locals := 0 } : Room) s m #[(.int p1), (.int p2)] below meth c s₁ [] 0 0 := Stand.of_body Bd
  have e0 : s₁.heap = h0 := by rw [← hh, Bd.state]; rfl
  have N0 := Fr.nil n0
  have pre0 : ∀ t, Steps p.tables e below (s₁.setTop (mkF m 0 #[.val (.int p1), .val (.int p2)] [])) t → Steps p.tables e below (s₁.setTop (entryFrame m #[(.int p1), (.int p2)] 2)) t := fun t k => castTop (ef_6 m p1 p2) k

  obtain ⟨fs, hr, hrun, hended, hW, hsame⟩ := X0.leave (v := some (.int p1)) (fun h => by rw [Bd.returns] at h; cases h)
  refine ⟨_, _, pre0 _ ?_, hrun, hended, _, _, rfl, ?_, ⟨_, rfl⟩, hW, hsame.mono (by decide) (by decide)⟩
  · show Steps p.tables e below (s₁.setTop (mkF m 0 #[.val (.int p1), .val (.int p2)] [])) _
    refine XS.iloadN X0.here hx rfl (hb hby d6_0) rfl ?_
    show Steps p.tables e below (s₁.setTop (mkF m 1 #[.val (.int p1), .val (.int p2)] [(.int p1)])) _
    refine XS.iloadN X0.here hx rfl (hb hby d6_1) rfl ?_
    show Steps p.tables e below (s₁.setTop (mkF m 2 #[.val (.int p1), .val (.int p2)] [(.int p2), (.int p1)])) _
    refine XS.icmpNo X0.here hx rfl (hb hby d6_2) rfl (flt hc2).2.2.1 ?_
    show Steps p.tables e below (s₁.setTop (mkF m 5 #[.val (.int p1), .val (.int p2)] [])) _
    refine XS.iloadN X0.here hx rfl (hb hby d6_5) rfl ?_
    show Steps p.tables e below (s₁.setTop (mkF m 6 #[.val (.int p1), .val (.int p2)] [(.int p1)])) _
    refine XS.goto X0.here hx rfl (pc0 := 6) (pc' := 10) rfl (hb hby d6_6) (by decide) (by decide) ?_
    show Steps p.tables e below (s₁.setTop (mkF m 10 #[.val (.int p1), .val (.int p2)] [(.int p1)])) _
    exact retI X0 hx Bd.returns (hb hby d6_10) hr
  · show Q6 Z p1 p2 h0 n0 _ s₁.heap _
    rw [e0]
    exact ⟨by rw [own_min, if_neg hc2], N0, rfl⟩
theorem rm6 (l : Launch) (Z : State) (a0 : Array Value) (hw : ∀ d ∈ tables_1, d.before a0 Z = true) (ws : List Jvm.Cond) (p1 : Int32) (p2 : Int32) (h0 : Heap) (n0 : Nat) (Z0 : n0 ≤ h0.size) :
    MetFree l (⟨"java/lang/Math", "min", "(II)I"⟩ : MethodName) (head1 (Jvm.Cond.code (⟨"java/lang/Math", "min", "(II)I"⟩ : MethodName) jdk_29_method_69_code 2 (some .int) :: ws) ({ frames := 0, cells := 0, slots := 0, locals := 0 } : Room)) (fun a U => a = #[(.int p1), (.int p2)] ∧ Z.Warmed39 U.vm ∧ U.heap = h0) (fun _ _ _ _ _ => True) (fun _ U o U' => ∃ v L, o = .returned v ∧ Q6 Z p1 p2 h0 n0 v U'.heap L ∧ FrameEnd U o U' L ({ frames := 0, cells := 0, slots := 0, locals := 0 } : Room).cells ({ frames := 0, cells := 0, slots := 0, locals := 0 } : Room).slots) := by
  by_cases hc : p2 < p1
  · exact rm6_t l Z a0 hw ws p1 p2 h0 n0 Z0 hc
  · exact rm6_f l Z a0 hw ws p1 p2 h0 n0 Z0 hc
theorem d4_0 : decode prog_46_method_7_code 0 = .ok (.aload_n 0, 1) := by decide +kernel
theorem d4_1 : decode prog_46_method_7_code 1 = .ok (.getfield 13, 3) := by decide +kernel
theorem d4_4 : decode prog_46_method_7_code 4 = .ok (.ifCond .ne 7, 3) := by decide +kernel
theorem d4_11 : decode prog_46_method_7_code 11 = .ok (.iconst 0, 1) := by decide +kernel
theorem d4_12 : decode prog_46_method_7_code 12 = .ok (.ireturn, 1) := by decide +kernel
theorem pn_4 : plainName "descry/read/TextPrefix" = true := by first | (simp [plainName, overriddenIn]; done) | decide +kernel
theorem ef_4 (m : MethodId) (x0 : Addr) : entryFrame m #[(.ref x0)] 1 = mkF m 0 #[.val (.ref x0)] [] := by first | (simp [entryFrame, mkF, argsToLocals, Value.category]; done) | rfl
def Q4 (Z : State) (a1 : Addr) (w2 : Int32) (h0 : Heap) (n0 : Nat) (v : Option Value) (h : Heap) (L : List Loc) : Prop := v = some (.int (own_emp w2)) ∧ Fr n0 L ∧ h = h0
set_option maxRecDepth 65536 in
set_option maxHeartbeats 40000000 in
theorem rm4_t (l : Launch) (Z : State) (a0 : Array Value) (hw : ∀ d ∈ tables_1, d.before a0 Z = true) (ws : List Jvm.Cond) (a1 : Addr) (w2 : Int32) (h0 : Heap) (n0 : Nat) (Z0 : n0 ≤ h0.size) (F_length_a1 : Fld Z h0 a1 "descry/read/TextPrefix" "length" "I" (.int w2)) (hc4 : ¬ (w2 = (0 : Int32))) :
    MetFree l (⟨"descry/read/TextPrefix", "isEmpty", "()Z"⟩ : MethodName) (head1 (Jvm.Cond.code (⟨"descry/read/TextPrefix", "isEmpty", "()Z"⟩ : MethodName) prog_46_method_7_code 1 (some .boolean) :: ws) ({ frames := 0, cells := 0, slots := 0, locals := 0 } : Room)) (fun a U => a = #[(.ref a1)] ∧ Z.Warmed39 U.vm ∧ U.heap = h0) (fun _ _ _ _ _ => True) (fun _ U o U' => ∃ v L, o = .returned v ∧ Q4 Z a1 w2 h0 n0 v U'.heap L ∧ FrameEnd U o U' L ({ frames := 0, cells := 0, slots := 0, locals := 0 } : Room).cells ({ frames := 0, cells := 0, slots := 0, locals := 0 } : Room).slots) := by
  refine MetFree.of_bodySF (plainFor_of_name pn_4) hisR ?_
  intro p e s m args below meth c s₁ Bd hml0 hP hK
  obtain ⟨rfl, hZ, hh⟩ := hP
  have hx := Bd.exec
  have hby := Bd.bytes
  have hml : c.maxLocals = 1 := hml0
  have hown : s.vm.findClass "descry/read/TextPrefix" = some m.cls := findClass_of_methodNamed Bd.named
  have hnm := (name_of_methodNamed Bd.named Bd.method).1
  have X0 : Stand p l e ({ frames := 0, cells := 0, slots := 0, locals := 0 } : Room) s m #[(.ref a1)] below meth c s₁ [] 0 0 := Stand.of_body Bd
  have e0 : s₁.heap = h0 := by rw [← hh, Bd.state]; rfl
  have N0 := Fr.nil n0
  have pre0 : ∀ t, Steps p.tables e below (s₁.setTop (mkF m 0 #[.val (.ref a1)] [])) t → Steps p.tables e below (s₁.setTop (entryFrame m #[(.ref a1)] 1)) t := fun t k => castTop (ef_4 m a1) k
  obtain ⟨T3, X3, e3, st3⟩ := getF X0 hx hZ hown (host := "") (Or.inl (hw _ (List.mem_of_getElem? (i := 24) rfl))) Via.refl e0 F_length_a1 (g := (mkF m 1 #[.val (.ref a1)] [(.ref a1)])) rfl rfl (hb hby d4_1)
  obtain ⟨fs, hr, hrun, hended, hW, hsame⟩ := X3.leave (v := some (.int (0 : Int32))) (fun h => by rw [Bd.returns] at h; cases h)
  refine ⟨_, _, pre0 _ ?_, hrun, hended, _, _, rfl, ?_, ⟨_, rfl⟩, hW, hsame.mono (by decide) (by decide)⟩
  · show Steps p.tables e below (s₁.setTop (mkF m 0 #[.val (.ref a1)] [])) _
    refine XS.aloadN X0.here hx rfl (hb hby d4_0) rfl rfl ?_
    show Steps p.tables e below (s₁.setTop (mkF m 1 #[.val (.ref a1)] [(.ref a1)])) _
    refine st3 _ ?_
    show Steps p.tables e below (T3.setTop (mkF m 4 #[.val (.ref a1)] [(.int w2)])) _
    refine XS.ifYes X3.here hx rfl (pc0 := 4) (pc' := 11) rfl (hb hby d4_4) rfl ((if0 _ _).trans (feq hc4).2) (by decide) (by decide) ?_
    show Steps p.tables e below (T3.setTop (mkF m 11 #[.val (.ref a1)] [])) _
    refine XS.iconst X3.here hx rfl (hb hby d4_11) ?_
    show Steps p.tables e below (T3.setTop (mkF m 12 #[.val (.ref a1)] [(.int (0 : Int32))])) _
    exact retN X3 hx (t := .boolean) Bd.returns (by simp) (hb hby d4_12) hr
  · show Q4 Z a1 w2 h0 n0 _ T3.heap _
    rw [e3]
    exact ⟨by rw [own_emp, if_neg hc4], N0, rfl⟩
theorem d4_7 : decode prog_46_method_7_code 7 = .ok (.iconst 1, 1) := by decide +kernel
theorem d4_8 : decode prog_46_method_7_code 8 = .ok (.goto 4, 3) := by decide +kernel
set_option maxRecDepth 65536 in
set_option maxHeartbeats 40000000 in
theorem rm4_f (l : Launch) (Z : State) (a0 : Array Value) (hw : ∀ d ∈ tables_1, d.before a0 Z = true) (ws : List Jvm.Cond) (a1 : Addr) (w2 : Int32) (h0 : Heap) (n0 : Nat) (Z0 : n0 ≤ h0.size) (F_length_a1 : Fld Z h0 a1 "descry/read/TextPrefix" "length" "I" (.int w2)) (hc4 : w2 = (0 : Int32)) :
    MetFree l (⟨"descry/read/TextPrefix", "isEmpty", "()Z"⟩ : MethodName) (head1 (Jvm.Cond.code (⟨"descry/read/TextPrefix", "isEmpty", "()Z"⟩ : MethodName) prog_46_method_7_code 1 (some .boolean) :: ws) ({ frames := 0, cells := 0, slots := 0, locals := 0 } : Room)) (fun a U => a = #[(.ref a1)] ∧ Z.Warmed39 U.vm ∧ U.heap = h0) (fun _ _ _ _ _ => True) (fun _ U o U' => ∃ v L, o = .returned v ∧ Q4 Z a1 w2 h0 n0 v U'.heap L ∧ FrameEnd U o U' L ({ frames := 0, cells := 0, slots := 0, locals := 0 } : Room).cells ({ frames := 0, cells := 0, slots := 0, locals := 0 } : Room).slots) := by
  refine MetFree.of_bodySF (plainFor_of_name pn_4) hisR ?_
  intro p e s m args below meth c s₁ Bd hml0 hP hK
  obtain ⟨rfl, hZ, hh⟩ := hP
  have hx := Bd.exec
  have hby := Bd.bytes
  have hml : c.maxLocals = 1 := hml0
  have hown : s.vm.findClass "descry/read/TextPrefix" = some m.cls := findClass_of_methodNamed Bd.named
  have hnm := (name_of_methodNamed Bd.named Bd.method).1
  have X0 : Stand p l e ({ frames := 0, cells := 0, slots := 0, locals := 0 } : Room) s m #[(.ref a1)] below meth c s₁ [] 0 0 := Stand.of_body Bd
  have e0 : s₁.heap = h0 := by rw [← hh, Bd.state]; rfl
  have N0 := Fr.nil n0
  have pre0 : ∀ t, Steps p.tables e below (s₁.setTop (mkF m 0 #[.val (.ref a1)] [])) t → Steps p.tables e below (s₁.setTop (entryFrame m #[(.ref a1)] 1)) t := fun t k => castTop (ef_4 m a1) k
  obtain ⟨T3, X3, e3, st3⟩ := getF X0 hx hZ hown (host := "") (Or.inl (hw _ (List.mem_of_getElem? (i := 24) rfl))) Via.refl e0 F_length_a1 (g := (mkF m 1 #[.val (.ref a1)] [(.ref a1)])) rfl rfl (hb hby d4_1)
  obtain ⟨fs, hr, hrun, hended, hW, hsame⟩ := X3.leave (v := some (.int (1 : Int32))) (fun h => by rw [Bd.returns] at h; cases h)
  refine ⟨_, _, pre0 _ ?_, hrun, hended, _, _, rfl, ?_, ⟨_, rfl⟩, hW, hsame.mono (by decide) (by decide)⟩
  · show Steps p.tables e below (s₁.setTop (mkF m 0 #[.val (.ref a1)] [])) _
    refine XS.aloadN X0.here hx rfl (hb hby d4_0) rfl rfl ?_
    show Steps p.tables e below (s₁.setTop (mkF m 1 #[.val (.ref a1)] [(.ref a1)])) _
    refine st3 _ ?_
    show Steps p.tables e below (T3.setTop (mkF m 4 #[.val (.ref a1)] [(.int w2)])) _
    refine XS.ifNo X3.here hx rfl (hb hby d4_4) rfl ((if0 _ _).trans (teq hc4).2) ?_
    show Steps p.tables e below (T3.setTop (mkF m 7 #[.val (.ref a1)] [])) _
    refine XS.iconst X3.here hx rfl (hb hby d4_7) ?_
    show Steps p.tables e below (T3.setTop (mkF m 8 #[.val (.ref a1)] [(.int (1 : Int32))])) _
    refine XS.goto X3.here hx rfl (pc0 := 8) (pc' := 12) rfl (hb hby d4_8) (by decide) (by decide) ?_
    show Steps p.tables e below (T3.setTop (mkF m 12 #[.val (.ref a1)] [(.int (1 : Int32))])) _
    exact retN X3 hx (t := .boolean) Bd.returns (by simp) (hb hby d4_12) hr
  · show Q4 Z a1 w2 h0 n0 _ T3.heap _
    rw [e3]
    exact ⟨by rw [own_emp, if_pos hc4], N0, rfl⟩
theorem rm4 (l : Launch) (Z : State) (a0 : Array Value) (hw : ∀ d ∈ tables_1, d.before a0 Z = true) (ws : List Jvm.Cond) (a1 : Addr) (w2 : Int32) (h0 : Heap) (n0 : Nat) (Z0 : n0 ≤ h0.size) (F_length_a1 : Fld Z h0 a1 "descry/read/TextPrefix" "length" "I" (.int w2)) :
    MetFree l (⟨"descry/read/TextPrefix", "isEmpty", "()Z"⟩ : MethodName) (head1 (Jvm.Cond.code (⟨"descry/read/TextPrefix", "isEmpty", "()Z"⟩ : MethodName) prog_46_method_7_code 1 (some .boolean) :: ws) ({ frames := 0, cells := 0, slots := 0, locals := 0 } : Room)) (fun a U => a = #[(.ref a1)] ∧ Z.Warmed39 U.vm ∧ U.heap = h0) (fun _ _ _ _ _ => True) (fun _ U o U' => ∃ v L, o = .returned v ∧ Q4 Z a1 w2 h0 n0 v U'.heap L ∧ FrameEnd U o U' L ({ frames := 0, cells := 0, slots := 0, locals := 0 } : Room).cells ({ frames := 0, cells := 0, slots := 0, locals := 0 } : Room).slots) := by
  by_cases hc : w2 = (0 : Int32)
  · exact rm4_f l Z a0 hw ws a1 w2 h0 n0 Z0 F_length_a1 hc
  · exact rm4_t l Z a0 hw ws a1 w2 h0 n0 Z0 F_length_a1 hc
theorem d2_0 : decode jdk_2052_method_2_code 0 = .ok (.aload_n 0, 1) := by decide +kernel
theorem d2_1 : decode jdk_2052_method_2_code 1 = .ok (.invokespecial 7, 3) := by decide +kernel
theorem d2_4 : decode jdk_2052_method_2_code 4 = .ok (.aload_n 0, 1) := by decide +kernel
theorem d2_5 : decode jdk_2052_method_2_code 5 = .ok (.aload_n 0, 1) := by decide +kernel
theorem d2_6 : decode jdk_2052_method_2_code 6 = .ok (.putfield 10, 3) := by decide +kernel
theorem d2_9 : decode jdk_2052_method_2_code 9 = .ok (.return_, 1) := by decide +kernel
theorem pn_2 : plainName "java/io/Writer" = true := by first | (simp [plainName, overriddenIn]; done) | decide +kernel
theorem ef_2 (m : MethodId) (x0 : Addr) : entryFrame m #[(.ref x0)] 1 = mkF m 0 #[.val (.ref x0)] [] := by first | (simp [entryFrame, mkF, argsToLocals, Value.category]; done) | rfl
def Q2 (Z : State) (a1 : Addr) (u_lock_a1 : Value) (h0 : Heap) (n0 : Nat) (v : Option Value) (h : Heap) (L : List Loc) : Prop := v = none ∧ Fr n0 L ∧ Wr h0 h a1 (Jvm.RoadKit.slotOf Z "java/io/Writer" "lock" "Ljava/lang/Object;") (.ref a1)
set_option maxRecDepth 65536 in
set_option maxHeartbeats 40000000 in
theorem rm2 (l : Launch) (Z : State) (a0 : Array Value) (hw : ∀ d ∈ tables_1, d.before a0 Z = true) (ws : List Jvm.Cond) (a1 : Addr) (u_lock_a1 : Value) (h0 : Heap) (n0 : Nat) (Z0 : n0 ≤ h0.size) (E_a1 : Exa Z h0 a1 "descry/read/TextPrefix") (F_lock_a1 : Fld Z h0 a1 "java/io/Writer" "lock" "Ljava/lang/Object;" u_lock_a1) (g_a1 : n0 ≤ a1) :
    MetFree l (⟨"java/io/Writer", "<init>", "()V"⟩ : MethodName) (head1 (Jvm.Cond.code (⟨"java/io/Writer", "<init>", "()V"⟩ : MethodName) jdk_2052_method_2_code 1 none :: ws) ({ frames := 1, cells := 0, slots := 0, locals := 12 } : Room)) (fun a U => a = #[(.ref a1)] ∧ Z.Warmed39 U.vm ∧ U.heap = h0) (fun _ _ _ _ _ => True) (fun _ U o U' => ∃ v L, o = .returned v ∧ Q2 Z a1 u_lock_a1 h0 n0 v U'.heap L ∧ FrameEnd U o U' L ({ frames := 1, cells := 0, slots := 0, locals := 12 } : Room).cells ({ frames := 1, cells := 0, slots := 0, locals := 12 } : Room).slots) := by
  refine MetFree.of_bodySF (plainFor_of_name pn_2) hisR ?_
  intro p e s m args below meth c s₁ Bd hml0 hP hK
  obtain ⟨rfl, hZ, hh⟩ := hP
  have hx := Bd.exec
  have hby := Bd.bytes
  have hml : c.maxLocals = 1 := hml0
  have hown : s.vm.findClass "java/io/Writer" = some m.cls := findClass_of_methodNamed Bd.named
  have hnm := (name_of_methodNamed Bd.named Bd.method).1
  have X0 : Stand p l e ({ frames := 1, cells := 0, slots := 0, locals := 12 } : Room) s m #[(.ref a1)] below meth c s₁ [] 0 0 := Stand.of_body Bd
  have e0 : s₁.heap = h0 := by rw [← hh, Bd.state]; rfl
  have N0 := Fr.nil n0
  have pre0 : ∀ t, Steps p.tables e below (s₁.setTop (mkF m 0 #[.val (.ref a1)] [])) t → Steps p.tables e below (s₁.setTop (entryFrame m #[(.ref a1)] 1)) t := fun t k => castTop (ef_2 m a1) k
  obtain ⟨T2, X2, e2, st2⟩ := initO X0 hx hZ hown (hw _ (List.mem_of_getElem? (i := 12) rfl)) (hw _ (List.mem_of_getElem? (i := 13) rfl)) (hw _ (List.mem_of_getElem? (i := 14) rfl)) e0 (g := (mkF m 1 #[.val (.ref a1)] [(.ref a1)])) rfl (by rw [hml]; rfl) rfl (hb hby d2_1) (by decide) (W := 0) (by show 2 * 0 + _ ≤ _; exact Nat.le_of_eq rfl) (by decide)
  obtain ⟨T3, h3, X3, e3, W3, st3⟩ := putF X2 hx hZ hown (host := "") (Or.inl (hw _ (List.mem_of_getElem? (i := 15) rfl))) Via.refl e2 F_lock_a1 E_a1 (Or.inl (hw _ (List.mem_of_getElem? (i := 16) rfl))) (hw _ (List.mem_of_getElem? (i := 2) rfl)) (ty := (.object "java/lang/Object")) (by decide) rfl rfl (g := (mkF m 6 #[.val (.ref a1)] [(.ref a1), (.ref a1)])) rfl rfl (hb hby d2_6)
  have Fw3 := F_lock_a1.same W3
  have K3 : Keep h0 h3 [a1] := (Keep.refl h0 [a1]).wr W3 (Or.inl (List.mem_of_getElem? (i := 0) rfl))
  have N3 := Fr.snoc X3 N0 g_a1
  obtain ⟨fs, hr, hrun, hended, hW, hsame⟩ := X3.leave (v := none) (fun _ => rfl)
  refine ⟨_, _, pre0 _ ?_, hrun, hended, _, _, rfl, ?_, ⟨_, rfl⟩, hW, hsame.mono (by decide) (by decide)⟩
  · show Steps p.tables e below (s₁.setTop (mkF m 0 #[.val (.ref a1)] [])) _
    refine XS.aloadN X0.here hx rfl (hb hby d2_0) rfl rfl ?_
    show Steps p.tables e below (s₁.setTop (mkF m 1 #[.val (.ref a1)] [(.ref a1)])) _
    refine st2 _ ?_
    show Steps p.tables e below (T2.setTop (mkF m 4 #[.val (.ref a1)] [])) _
    refine XS.aloadN X2.here hx rfl (hb hby d2_4) rfl rfl ?_
    show Steps p.tables e below (T2.setTop (mkF m 5 #[.val (.ref a1)] [(.ref a1)])) _
    refine XS.aloadN X2.here hx rfl (hb hby d2_5) rfl rfl ?_
    show Steps p.tables e below (T2.setTop (mkF m 6 #[.val (.ref a1)] [(.ref a1), (.ref a1)])) _
    refine st3 _ ?_
    show Steps p.tables e below (T3.setTop (mkF m 9 #[.val (.ref a1)] [])) _
    exact X3.returnOut hx Bd.returns (hb hby d2_9) hr
  · show Q2 Z a1 u_lock_a1 h0 n0 _ T3.heap _
    rw [e3]
    exact ⟨rfl, N3, W3⟩
theorem d1_0 : decode prog_46_method_1_code 0 = .ok (.aload_n 0, 1) := by decide +kernel
theorem d1_1 : decode prog_46_method_1_code 1 = .ok (.invokespecial 1, 3) := by decide +kernel
theorem d1_4 : decode prog_46_method_1_code 4 = .ok (.aload_n 0, 1) := by decide +kernel
theorem d1_5 : decode prog_46_method_1_code 5 = .ok (.iload_n 1, 1) := by decide +kernel
theorem d1_6 : decode prog_46_method_1_code 6 = .ok (.newarray .char, 2) := by decide +kernel
theorem d1_8 : decode prog_46_method_1_code 8 = .ok (.putfield 7, 3) := by decide +kernel
theorem d1_11 : decode prog_46_method_1_code 11 = .ok (.return_, 1) := by decide +kernel
theorem pn_1 : plainName "descry/read/TextPrefix" = true := by first | (simp [plainName, overriddenIn]; done) | decide +kernel
theorem pd_1_1 : parseMethodDescriptor "()V" = some ⟨[], none⟩ := by decide +kernel
theorem ef_1 (m : MethodId) (x0 : Addr) (x1 : Int32) : entryFrame m #[(.ref x0), (.int x1)] 2 = mkF m 0 #[.val (.ref x0), .val (.int x1)] [] := by first | (simp [entryFrame, mkF, argsToLocals, Value.category]; done) | rfl
def Q1 (Z : State) (a1 : Addr) (p2 : Int32) (h0 : Heap) (n0 : Nat) (v : Option Value) (h : Heap) (L : List Loc) : Prop := v = none ∧ Fr n0 L ∧ Keep h0 h [a1] ∧ ∃ (w : Addr) (k : ClassId), h0.size ≤ w ∧ own_I Z h a1 w k p2 0
set_option maxRecDepth 65536 in
set_option maxHeartbeats 40000000 in
theorem rm1 (l : Launch) (Z : State) (a0 : Array Value) (hw : ∀ d ∈ tables_1, d.before a0 Z = true) (ws : List Jvm.Cond) (a1 : Addr) (p2 : Int32) (h0 : Heap) (n0 : Nat) (Z0 : n0 ≤ h0.size) (E_a1 : Exa Z h0 a1 "descry/read/TextPrefix") (F_held_a1 : Fld Z h0 a1 "descry/read/TextPrefix" "held" "[C" .null) (g_a1 : n0 ≤ a1) (F_lock_a1 : Fld Z h0 a1 "java/io/Writer" "lock" "Ljava/lang/Object;" .null) (F_length_a1 : Fld Z h0 a1 "descry/read/TextPrefix" "length" "I" (.int (0 : Int32))) (F_cut_a1 : Fld Z h0 a1 "descry/read/TextPrefix" "cut" "Z" (.int (0 : Int32))) (hp0 : ¬ p2 < 0) (hp4 : p2.toNatClampNeg ≤ 4) :
    MetFree l (⟨"descry/read/TextPrefix", "<init>", "(I)V"⟩ : MethodName) (head1 (Jvm.Cond.code (⟨"descry/read/TextPrefix", "<init>", "(I)V"⟩ : MethodName) prog_46_method_1_code 2 none :: ws) ({ frames := 2, cells := 1, slots := 4, locals := 24 } : Room)) (fun a U => a = #[(.ref a1), (.int p2)] ∧ Z.Warmed39 U.vm ∧ U.heap = h0) (fun _ _ _ _ _ => True) (fun _ U o U' => ∃ v L, o = .returned v ∧ Q1 Z a1 p2 h0 n0 v U'.heap L ∧ FrameEnd U o U' L ({ frames := 2, cells := 1, slots := 4, locals := 24 } : Room).cells ({ frames := 2, cells := 1, slots := 4, locals := 24 } : Room).slots) := by
  refine MetFree.of_bodySF (plainFor_of_name pn_1) hisR ?_
  intro p e s m args below meth c s₁ Bd hml0 hP hK
  obtain ⟨rfl, hZ, hh⟩ := hP
  have hx := Bd.exec
  have hby := Bd.bytes
  have hml : c.maxLocals = 2 := hml0
  have hown : s.vm.findClass "descry/read/TextPrefix" = some m.cls := findClass_of_methodNamed Bd.named
  have hnm := (name_of_methodNamed Bd.named Bd.method).1
  have X0 : Stand p l e ({ frames := 2, cells := 1, slots := 4, locals := 24 } : Room) s m #[(.ref a1), (.int p2)] below meth c s₁ [] 0 0 := Stand.of_body Bd
  have e0 : s₁.heap = h0 := by rw [← hh, Bd.state]; rfl
  have N0 := Fr.nil n0
  have pre0 : ∀ t, Steps p.tables e below (s₁.setTop (mkF m 0 #[.val (.ref a1), .val (.int p2)] [])) t → Steps p.tables e below (s₁.setTop (entryFrame m #[(.ref a1), (.int p2)] 2)) t := fun t k => castTop (ef_1 m a1 p2) k
  obtain ⟨_, _, ⟨T3, L3, k3, n3⟩, -, X3, ⟨Lc3, hQ3, l3, y3, z3⟩, st3⟩ := X0.specialBack hx (y := (⟨"java/io/Writer", "<init>", "()V"⟩ : MethodName)) rfl hown (mvT hZ (hw _ (List.mem_of_getElem? (i := 7) rfl))) (mvT hZ (hw _ (List.mem_of_getElem? (i := 8) rfl))) (mvT hZ (hw _ (List.mem_of_getElem? (i := 11) rfl))) (by decide) (backOf (W := 0) (rm2 l Z a0 hw [] a1 .null h0 n0 Z0 E_a1 F_lock_a1 g_a1) hZ (hw _ (List.mem_of_getElem? (i := 11) rfl)) (hw _ (List.mem_of_getElem? (i := 10) rfl)) (by decide) (by decide)) (g := (mkF m 1 #[.val (.ref a1), .val (.int p2)] [(.ref a1)])) rfl (by rw [hml]; rfl) (Steps.refl _) (a := a1) (argsL := []) (rest := []) (lenOf pd_1_1 rfl) rfl (by show 2 * 0 + _ ≤ _; exact Nat.le_of_eq rfl) (hb hby d1_1) (fun _ _ => ⟨rfl, e0, (by decide : 0 + 0 ≤ _), (by decide : 0 + 0 ≤ _)⟩)
  dsimp only [Pt.U, Pt.locs, Pt.cells, Pt.slots] at X3 l3 y3 z3 st3 hQ3
  subst l3 y3 z3
  obtain ⟨rfl, N3q, W3⟩ := hQ3
  have N3 := Fr.app N0 N3q
  have K3 : Keep h0 T3.heap [a1] := Keep.of_wr W3
  have Fh3 : Fld Z T3.heap a1 "descry/read/TextPrefix" "held" "[C" .null := F_held_a1.other W3 (Or.inr (slot_ne (Or.inr (hw _ (List.mem_of_getElem? (i := 18) rfl))) (Or.inl (hw _ (List.mem_of_getElem? (i := 16) rfl))) (by decide) (t := (.array .char)) (t' := (.object "java/lang/Object")) (by decide) (by decide)))
  have Fl3 : Fld Z T3.heap a1 "descry/read/TextPrefix" "length" "I" (.int (0 : Int32)) := F_length_a1.other W3 (Or.inr (slot_ne (Or.inl (hw _ (List.mem_of_getElem? (i := 25) rfl))) (Or.inl (hw _ (List.mem_of_getElem? (i := 16) rfl))) (by decide) (t := .int) (t' := (.object "java/lang/Object")) (by decide) (by decide)))
  have Fc3 : Fld Z T3.heap a1 "descry/read/TextPrefix" "cut" "Z" (.int (0 : Int32)) := F_cut_a1.other W3 (Or.inr (slot_ne (Or.inl (hw _ (List.mem_of_getElem? (i := 40) rfl))) (Or.inl (hw _ (List.mem_of_getElem? (i := 16) rfl))) (by decide) (t := .boolean) (t' := (.object "java/lang/Object")) (by decide) (by decide)))
  have Ex3 : Exa Z T3.heap a1 "descry/read/TextPrefix" := E_a1.wr W3
  obtain ⟨T4, h4, k4, X4, e4, E4, A4, st4⟩ := newP X3 hx hZ (hw _ (List.mem_of_getElem? (i := 0) rfl)) rfl (g := (mkF m 6 #[.val (.ref a1), .val (.int p2)] [(.int p2), (.ref a1)])) rfl (hb hby d1_6) rfl hp0 (cap := 4) hp4 (by decide) (by decide) (by decide)
  obtain ⟨b4, g4⟩ : ∃ z, z = T3.heap.size := ⟨_, rfl⟩
  rw [← g4] at A4 st4
  have V_b4 := Arv.new A4 hp0
  have g_b4 : n0 ≤ b4 := Nat.le_trans (Nat.le_trans Z0 K3.1) (Nat.le_of_eq g4.symm)
  have sz_b4 : h0.size ≤ b4 := (Nat.le_trans K3.1 (Nat.le_of_eq g4.symm))
  have K4 : Keep h0 h4 [a1] := K3.ext E4
  obtain ⟨T5, h5, X5, e5, W5, st5⟩ := putF X4 hx hZ hown (host := "") (Or.inl (hw _ (List.mem_of_getElem? (i := 17) rfl))) Via.refl e4 (Fh3.ext E4) (Ex3.ext E4) (Or.inr ⟨(hw _ (List.mem_of_getElem? (i := 18) rfl)), rfl, hnm⟩) (hw _ (List.mem_of_getElem? (i := 2) rfl)) (ty := (.array .char)) (by decide) rfl rfl (g := (mkF m 8 #[.val (.ref a1), .val (.int p2)] [(.ref b4), (.ref a1)])) rfl rfl (hb hby d1_8)
  have Fw5 := (Fh3.ext E4).same W5
  have K5 : Keep h0 h5 [a1] := K4.wr W5 (Or.inl (List.mem_of_getElem? (i := 0) rfl))
  have N5 := Fr.snoc X5 N3 g_a1
  obtain ⟨fs, hr, hrun, hended, hW, hsame⟩ := X5.leave (v := none) (fun _ => rfl)
  refine ⟨_, _, pre0 _ ?_, hrun, hended, _, _, rfl, ?_, ⟨_, rfl⟩, hW, hsame.mono (by decide) (by decide)⟩
  · show Steps p.tables e below (s₁.setTop (mkF m 0 #[.val (.ref a1), .val (.int p2)] [])) _
    refine XS.aloadN X0.here hx rfl (hb hby d1_0) rfl rfl ?_
    show Steps p.tables e below (s₁.setTop (mkF m 1 #[.val (.ref a1), .val (.int p2)] [(.ref a1)])) _
    refine st3.trans ?_
    show Steps p.tables e below (T3.setTop (mkF m 4 #[.val (.ref a1), .val (.int p2)] [])) _
    refine XS.aloadN X3.here hx rfl (hb hby d1_4) rfl rfl ?_
    show Steps p.tables e below (T3.setTop (mkF m 5 #[.val (.ref a1), .val (.int p2)] [(.ref a1)])) _
    refine XS.iloadN X3.here hx rfl (hb hby d1_5) rfl ?_
    show Steps p.tables e below (T3.setTop (mkF m 6 #[.val (.ref a1), .val (.int p2)] [(.int p2), (.ref a1)])) _
    refine st4 _ ?_
    show Steps p.tables e below (T4.setTop (mkF m 8 #[.val (.ref a1), .val (.int p2)] [(.ref b4), (.ref a1)])) _
    refine st5 _ ?_
    show Steps p.tables e below (T5.setTop (mkF m 11 #[.val (.ref a1), .val (.int p2)] [])) _
    exact X5.returnOut hx Bd.returns (hb hby d1_11) hr
  · show Q1 Z a1 p2 h0 n0 _ T5.heap _
    rw [e5]
    have V4 : Arv Z h4 b4 k4 .char p2 [(.int (0 : Int32)), (.int (0 : Int32)), (.int (0 : Int32)), (.int (0 : Int32))] (.int (0 : Int32)) := V_b4.pad (pad_rep [] (.int (0 : Int32)) 4)
    have ne : b4 ≠ a1 := Nat.ne_of_gt (by rw [g4]; exact Ex3.lt)
    exact ⟨rfl, N5, K5, b4, k4, sz_b4, (Ex3.ext E4).wr W5, Fw5, (Fl3.ext E4).other W5 (Or.inr (slot_ne (Or.inl (hw _ (List.mem_of_getElem? (i := 25) rfl))) (Or.inr (hw _ (List.mem_of_getElem? (i := 18) rfl))) (by decide) (t := .int) (t' := (.array .char)) (by decide) (by decide))), ⟨_, (Fc3.ext E4).other W5 (Or.inr (slot_ne (Or.inl (hw _ (List.mem_of_getElem? (i := 40) rfl))) (Or.inr (hw _ (List.mem_of_getElem? (i := 18) rfl))) (by decide) (t := .boolean) (t' := (.array .char)) (by decide) (by decide)))⟩, _, rfl, V4.other W5 ne⟩
theorem d7_0 : decode prog_46_method_2_code 0 = .ok (.aload_n 0, 1) := by decide +kernel
theorem d7_1 : decode prog_46_method_2_code 1 = .ok (.iconst 0, 1) := by decide +kernel
theorem d7_2 : decode prog_46_method_2_code 2 = .ok (.putfield 13, 3) := by decide +kernel
theorem d7_5 : decode prog_46_method_2_code 5 = .ok (.aload_n 0, 1) := by decide +kernel
theorem d7_6 : decode prog_46_method_2_code 6 = .ok (.iconst 0, 1) := by decide +kernel
theorem d7_7 : decode prog_46_method_2_code 7 = .ok (.putfield 17, 3) := by decide +kernel
theorem d7_10 : decode prog_46_method_2_code 10 = .ok (.return_, 1) := by decide +kernel
theorem pn_7 : plainName "descry/read/TextPrefix" = true := by first | (simp [plainName, overriddenIn]; done) | decide +kernel
theorem ef_7 (m : MethodId) (x0 : Addr) : entryFrame m #[(.ref x0)] 1 = mkF m 0 #[.val (.ref x0)] [] := by first | (simp [entryFrame, mkF, argsToLocals, Value.category]; done) | rfl
def Q7 (Z : State) (a1 : Addr) (u_length_a1 : Value) (u_cut_a1 : Value) (wh : Addr) (h0 : Heap) (n0 : Nat) (v : Option Value) (h : Heap) (L : List Loc) : Prop := v = none ∧ Fr n0 L ∧ Keep h0 h [a1] ∧ Exa Z h a1 "descry/read/TextPrefix" ∧ Fld Z h a1 "descry/read/TextPrefix" "length" "I" (.int (0 : Int32)) ∧ Fld Z h a1 "descry/read/TextPrefix" "cut" "Z" (.int (nar .boolean (0 : Int32))) ∧ Fld Z h a1 "descry/read/TextPrefix" "held" "[C" (.ref wh)
set_option maxRecDepth 65536 in
set_option maxHeartbeats 40000000 in
theorem rm7 (l : Launch) (Z : State) (a0 : Array Value) (hw : ∀ d ∈ tables_1, d.before a0 Z = true) (ws : List Jvm.Cond) (a1 : Addr) (u_length_a1 : Value) (u_cut_a1 : Value) (wh : Addr) (h0 : Heap) (n0 : Nat) (Z0 : n0 ≤ h0.size) (E_a1 : Exa Z h0 a1 "descry/read/TextPrefix") (F_length_a1 : Fld Z h0 a1 "descry/read/TextPrefix" "length" "I" u_length_a1) (g_a1 : n0 ≤ a1) (F_cut_a1 : Fld Z h0 a1 "descry/read/TextPrefix" "cut" "Z" u_cut_a1) (F_held_a1 : Fld Z h0 a1 "descry/read/TextPrefix" "held" "[C" (.ref wh)) :
    MetFree l (⟨"descry/read/TextPrefix", "clear", "()V"⟩ : MethodName) (head1 (Jvm.Cond.code (⟨"descry/read/TextPrefix", "clear", "()V"⟩ : MethodName) prog_46_method_2_code 1 none :: ws) ({ frames := 0, cells := 0, slots := 0, locals := 0 } : Room)) (fun a U => a = #[(.ref a1)] ∧ Z.Warmed39 U.vm ∧ U.heap = h0) (fun _ _ _ _ _ => True) (fun _ U o U' => ∃ v L, o = .returned v ∧ Q7 Z a1 u_length_a1 u_cut_a1 wh h0 n0 v U'.heap L ∧ FrameEnd U o U' L ({ frames := 0, cells := 0, slots := 0, locals := 0 } : Room).cells ({ frames := 0, cells := 0, slots := 0, locals := 0 } : Room).slots) := by
  refine MetFree.of_bodySF (plainFor_of_name pn_7) hisR ?_
  intro p e s m args below meth c s₁ Bd hml0 hP hK
  obtain ⟨rfl, hZ, hh⟩ := hP
  have hx := Bd.exec
  have hby := Bd.bytes
  have hml : c.maxLocals = 1 := hml0
  have hown : s.vm.findClass "descry/read/TextPrefix" = some m.cls := findClass_of_methodNamed Bd.named
  have hnm := (name_of_methodNamed Bd.named Bd.method).1
  have X0 : Stand p l e ({ frames := 0, cells := 0, slots := 0, locals := 0 } : Room) s m #[(.ref a1)] below meth c s₁ [] 0 0 := Stand.of_body Bd
  have e0 : s₁.heap = h0 := by rw [← hh, Bd.state]; rfl
  have N0 := Fr.nil n0
  have pre0 : ∀ t, Steps p.tables e below (s₁.setTop (mkF m 0 #[.val (.ref a1)] [])) t → Steps p.tables e below (s₁.setTop (entryFrame m #[(.ref a1)] 1)) t := fun t k => castTop (ef_7 m a1) k
  obtain ⟨T2, h2, X2, e2, W2, st2⟩ := putF X0 hx hZ hown (host := "") (Or.inl (hw _ (List.mem_of_getElem? (i := 24) rfl))) Via.refl e0 F_length_a1 E_a1 (Or.inl (hw _ (List.mem_of_getElem? (i := 25) rfl))) (hw _ (List.mem_of_getElem? (i := 2) rfl)) (ty := .int) (by decide) rfl rfl (g := (mkF m 2 #[.val (.ref a1)] [(.int (0 : Int32)), (.ref a1)])) rfl rfl (hb hby d7_2)
  have Fw2 := F_length_a1.same W2
  have K2 : Keep h0 h2 [a1] := (Keep.refl h0 [a1]).wr W2 (Or.inl (List.mem_of_getElem? (i := 0) rfl))
  have N2 := Fr.snoc X2 N0 g_a1
  obtain ⟨T3, h3, X3, e3, W3, st3⟩ := putFN X2 hx hZ hown (hw _ (List.mem_of_getElem? (i := 39) rfl)) Via.refl e2 (F_cut_a1.other W2 (Or.inr (slot_ne (Or.inl (hw _ (List.mem_of_getElem? (i := 40) rfl))) (Or.inl (hw _ (List.mem_of_getElem? (i := 25) rfl))) (by decide) (t := .boolean) (t' := .int) (by decide) (by decide)))) (E_a1.wr W2) (Or.inl (hw _ (List.mem_of_getElem? (i := 40) rfl))) (hw _ (List.mem_of_getElem? (i := 2) rfl)) (ty := .boolean) (v' := .int (nar .boolean (0 : Int32))) (by decide) rfl (fits_nar_bool _) (g := (mkF m 7 #[.val (.ref a1)] [(.int (0 : Int32)), (.ref a1)])) rfl rfl (hb hby d7_7)
  have Fw3 := (F_cut_a1.other W2 (Or.inr (slot_ne (Or.inl (hw _ (List.mem_of_getElem? (i := 40) rfl))) (Or.inl (hw _ (List.mem_of_getElem? (i := 25) rfl))) (by decide) (t := .boolean) (t' := .int) (by decide) (by decide)))).same W3
  have K3 : Keep h0 h3 [a1] := K2.wr W3 (Or.inl (List.mem_of_getElem? (i := 0) rfl))
  have N3 := Fr.snoc X3 N2 g_a1
  obtain ⟨fs, hr, hrun, hended, hW, hsame⟩ := X3.leave (v := none) (fun _ => rfl)
  refine ⟨_, _, pre0 _ ?_, hrun, hended, _, _, rfl, ?_, ⟨_, rfl⟩, hW, hsame.mono (by decide) (by decide)⟩
  · show Steps p.tables e below (s₁.setTop (mkF m 0 #[.val (.ref a1)] [])) _
    refine XS.aloadN X0.here hx rfl (hb hby d7_0) rfl rfl ?_
    show Steps p.tables e below (s₁.setTop (mkF m 1 #[.val (.ref a1)] [(.ref a1)])) _
    refine XS.iconst X0.here hx rfl (hb hby d7_1) ?_
    show Steps p.tables e below (s₁.setTop (mkF m 2 #[.val (.ref a1)] [(.int (0 : Int32)), (.ref a1)])) _
    refine st2 _ ?_
    show Steps p.tables e below (T2.setTop (mkF m 5 #[.val (.ref a1)] [])) _
    refine XS.aloadN X2.here hx rfl (hb hby d7_5) rfl rfl ?_
    show Steps p.tables e below (T2.setTop (mkF m 6 #[.val (.ref a1)] [(.ref a1)])) _
    refine XS.iconst X2.here hx rfl (hb hby d7_6) ?_
    show Steps p.tables e below (T2.setTop (mkF m 7 #[.val (.ref a1)] [(.int (0 : Int32)), (.ref a1)])) _
    refine st3 _ ?_
    show Steps p.tables e below (T3.setTop (mkF m 10 #[.val (.ref a1)] [])) _
    exact X3.returnOut hx Bd.returns (hb hby d7_10) hr
  · show Q7 Z a1 u_length_a1 u_cut_a1 wh h0 n0 _ T3.heap _
    rw [e3]
    exact ⟨rfl, N3, K3, ((E_a1.wr W2).wr W3), (Fw2.other W3 (Or.inr (slot_ne (Or.inl (hw _ (List.mem_of_getElem? (i := 25) rfl))) (Or.inl (hw _ (List.mem_of_getElem? (i := 40) rfl))) (by decide) (t := .int) (t' := .boolean) (by decide) (by decide)))), Fw3, (F_held_a1.other W2 (Or.inr (slot_ne (Or.inr (hw _ (List.mem_of_getElem? (i := 18) rfl))) (Or.inl (hw _ (List.mem_of_getElem? (i := 25) rfl))) (by decide) (t := (.array .char)) (t' := .int) (by decide) (by decide)))).other W3 (Or.inr (slot_ne (Or.inr (hw _ (List.mem_of_getElem? (i := 18) rfl))) (Or.inl (hw _ (List.mem_of_getElem? (i := 40) rfl))) (by decide) (t := (.array .char)) (t' := .boolean) (by decide) (by decide)))⟩
def Q5 (Z : State) (a1 : Addr) (w5 : Addr) (k5 : ClassId) (z_w5 : Int32) (w7 : Int32) (p4 : Int32) (h0 : Heap) (n0 : Nat) (v : Option Value) (h : Heap) (L : List Loc) : Prop := v = none ∧ Fr n0 L ∧ Keep h0 h [a1, w5] ∧ own_I Z h a1 w5 k5 z_w5 (w7 + (own_min p4 (z_w5 - w7)))
theorem own_len4 (vd us : List Value) (d n : Nat) (h : vd.length = 4) (hu : us.length = n) (hd : d + n ≤ 4) : (vd.take d ++ us ++ vd.drop (d + n)).length = 4 := by
  simp only [List.length_append, List.length_take, List.length_drop, h, hu]
  omega
theorem d5_0 : decode prog_46_method_3_code 0 = .ok (.iload_n 3, 1) := by decide +kernel
theorem d5_1 : decode prog_46_method_3_code 1 = .ok (.aload_n 0, 1) := by decide +kernel
theorem d5_2 : decode prog_46_method_3_code 2 = .ok (.getfield 7, 3) := by decide +kernel
theorem d5_5 : decode prog_46_method_3_code 5 = .ok (.arraylength, 1) := by decide +kernel
theorem d5_6 : decode prog_46_method_3_code 6 = .ok (.aload_n 0, 1) := by decide +kernel
theorem d5_7 : decode prog_46_method_3_code 7 = .ok (.getfield 13, 3) := by decide +kernel
theorem d5_10 : decode prog_46_method_3_code 10 = .ok (.isub, 1) := by decide +kernel
theorem d5_11 : decode prog_46_method_3_code 11 = .ok (.invokestatic 21, 3) := by decide +kernel
theorem d5_14 : decode prog_46_method_3_code 14 = .ok (.istore 4, 2) := by decide +kernel
theorem d5_16 : decode prog_46_method_3_code 16 = .ok (.aload_n 1, 1) := by decide +kernel
theorem d5_17 : decode prog_46_method_3_code 17 = .ok (.iload_n 2, 1) := by decide +kernel
theorem d5_18 : decode prog_46_method_3_code 18 = .ok (.aload_n 0, 1) := by decide +kernel
theorem d5_19 : decode prog_46_method_3_code 19 = .ok (.getfield 7, 3) := by decide +kernel
theorem d5_22 : decode prog_46_method_3_code 22 = .ok (.aload_n 0, 1) := by decide +kernel
theorem d5_23 : decode prog_46_method_3_code 23 = .ok (.getfield 13, 3) := by decide +kernel
theorem d5_26 : decode prog_46_method_3_code 26 = .ok (.iload 4, 2) := by decide +kernel
theorem d5_28 : decode prog_46_method_3_code 28 = .ok (.invokestatic 27, 3) := by decide +kernel
theorem d5_31 : decode prog_46_method_3_code 31 = .ok (.aload_n 0, 1) := by decide +kernel
theorem d5_32 : decode prog_46_method_3_code 32 = .ok (.dup, 1) := by decide +kernel
theorem d5_33 : decode prog_46_method_3_code 33 = .ok (.getfield 13, 3) := by decide +kernel
theorem d5_36 : decode prog_46_method_3_code 36 = .ok (.iload 4, 2) := by decide +kernel
theorem d5_38 : decode prog_46_method_3_code 38 = .ok (.iadd, 1) := by decide +kernel
theorem d5_39 : decode prog_46_method_3_code 39 = .ok (.putfield 13, 3) := by decide +kernel
theorem d5_42 : decode prog_46_method_3_code 42 = .ok (.aload_n 0, 1) := by decide +kernel
theorem d5_43 : decode prog_46_method_3_code 43 = .ok (.dup, 1) := by decide +kernel
theorem d5_44 : decode prog_46_method_3_code 44 = .ok (.getfield 17, 3) := by decide +kernel
theorem d5_47 : decode prog_46_method_3_code 47 = .ok (.iload 4, 2) := by decide +kernel
theorem d5_49 : decode prog_46_method_3_code 49 = .ok (.iload_n 3, 1) := by decide +kernel
theorem d5_50 : decode prog_46_method_3_code 50 = .ok (.if_icmp .ge 7, 3) := by decide +kernel
theorem d5_57 : decode prog_46_method_3_code 57 = .ok (.iconst 0, 1) := by decide +kernel
theorem d5_58 : decode prog_46_method_3_code 58 = .ok (.ior, 1) := by decide +kernel
theorem d5_59 : decode prog_46_method_3_code 59 = .ok (.putfield 17, 3) := by decide +kernel
theorem d5_62 : decode prog_46_method_3_code 62 = .ok (.return_, 1) := by decide +kernel
theorem pn_5 : plainName "descry/read/TextPrefix" = true := by first | (simp [plainName, overriddenIn]; done) | decide +kernel
theorem pd_5_4 : parseMethodDescriptor "(II)I" = some ⟨[.int, .int], some .int⟩ := by decide +kernel
theorem pd_5_5 : parseMethodDescriptor "(Ljava/lang/Object;ILjava/lang/Object;II)V" = some ⟨[(.object "java/lang/Object"), .int, (.object "java/lang/Object"), .int, .int], none⟩ := by decide +kernel
theorem ef_5 (m : MethodId) (x0 : Addr) (x1 : Addr) (x2 : Int32) (x3 : Int32) : entryFrame m #[(.ref x0), (.ref x1), (.int x2), (.int x3)] 5 = mkF m 0 #[.val (.ref x0), .val (.ref x1), .val (.int x2), .val (.int x3), .unset] [] := by first | (simp [entryFrame, mkF, argsToLocals, Value.category]; done) | rfl
set_option maxRecDepth 65536 in
set_option maxHeartbeats 40000000 in
theorem rm5_t (l : Launch) (Z : State) (a0 : Array Value) (hw : ∀ d ∈ tables_1, d.before a0 Z = true) (ws : List Jvm.Cond) (a1 : Addr) (a2 : Addr) (p3 : Int32) (p4 : Int32) (w5 : Addr) (k5 : ClassId) (z_w5 : Int32) (w7 : Int32) (k2 : ClassId) (z2 : Int32) (vs : List Value) (h0 : Heap) (n0 : Nat) (Z0 : n0 ≤ h0.size) (I : own_I Z h0 a1 w5 k5 z_w5 w7) (V_a2 : Arv Z h0 a2 k2 .char z2 vs (.int (0 : Int32))) (g_a1 : n0 ≤ a1) (g_w5 : n0 ≤ w5) (ne1 : a1 ≠ w5) (c1 : ¬ p3 < 0) (c2 : ¬ w7 < 0) (c3 : ¬ (own_min p4 (z_w5 - w7)) < 0) (c4 : p3.toNatClampNeg + (own_min p4 (z_w5 - w7)).toNatClampNeg ≤ z2.toNatClampNeg) (c5 : w7.toNatClampNeg + (own_min p4 (z_w5 - w7)).toNatClampNeg ≤ z_w5.toNatClampNeg) (c6 : w7.toNatClampNeg + (own_min p4 (z_w5 - w7)).toNatClampNeg ≤ 4) (hc50 : ¬ ((own_min p4 (z_w5 - w7)) < p4)) :
    MetFree l (⟨"descry/read/TextPrefix", "write", "([CII)V"⟩ : MethodName) (head1 (Jvm.Cond.code (⟨"descry/read/TextPrefix", "write", "([CII)V"⟩ : MethodName) prog_46_method_3_code 5 none :: ws) ({ frames := 1, cells := 0, slots := 0, locals := 18 } : Room)) (fun a U => a = #[(.ref a1), (.ref a2), (.int p3), (.int p4)] ∧ Z.Warmed39 U.vm ∧ U.heap = h0) (fun _ _ _ _ _ => True) (fun _ U o U' => ∃ v L, o = .returned v ∧ Q5 Z a1 w5 k5 z_w5 w7 p4 h0 n0 v U'.heap L ∧ FrameEnd U o U' L ({ frames := 1, cells := 0, slots := 0, locals := 18 } : Room).cells ({ frames := 1, cells := 0, slots := 0, locals := 18 } : Room).slots) := by
  refine MetFree.of_bodySF (plainFor_of_name pn_5) hisR ?_
  intro p e s m args below meth c s₁ Bd hml0 hP hK
  obtain ⟨rfl, hZ, hh⟩ := hP
  have hx := Bd.exec
  have hby := Bd.bytes
  have hml : c.maxLocals = 5 := hml0
  have hown : s.vm.findClass "descry/read/TextPrefix" = some m.cls := findClass_of_methodNamed Bd.named
  have hnm := (name_of_methodNamed Bd.named Bd.method).1
  have X0 : Stand p l e ({ frames := 1, cells := 0, slots := 0, locals := 18 } : Room) s m #[(.ref a1), (.ref a2), (.int p3), (.int p4)] below meth c s₁ [] 0 0 := Stand.of_body Bd
  have e0 : s₁.heap = h0 := by rw [← hh, Bd.state]; rfl
  have N0 := Fr.nil n0
  obtain ⟨E_a1, F_held_a1, F_length_a1, ⟨w18, F_cut_a1⟩, vd, hvd, V_w5⟩ := I
  have V_w5c := V_w5
  obtain ⟨cl_w5, Ar_w5, q_w5, S_w5, N_w5, H_w5, G_w5⟩ := V_w5c
  have pre0 : ∀ t, Steps p.tables e below (s₁.setTop (mkF m 0 #[.val (.ref a1), .val (.ref a2), .val (.int p3), .val (.int p4), .unset] [])) t → Steps p.tables e below (s₁.setTop (entryFrame m #[(.ref a1), (.ref a2), (.int p3), (.int p4)] 5)) t := fun t k => castTop (ef_5 m a1 a2 p3 p4) k
  obtain ⟨T6, X6, e6, st6⟩ := getF X0 hx hZ hown (host := "") (Or.inl (hw _ (List.mem_of_getElem? (i := 17) rfl))) Via.refl e0 F_held_a1 (g := (mkF m 2 #[.val (.ref a1), .val (.ref a2), .val (.int p3), .val (.int p4), .unset] [(.ref a1), (.int p4)])) rfl rfl (hb hby d5_2)
  obtain ⟨T8, X8, e8, st8⟩ := getF X6 hx hZ hown (host := "") (Or.inl (hw _ (List.mem_of_getElem? (i := 24) rfl))) Via.refl e6 F_length_a1 (g := (mkF m 7 #[.val (.ref a1), .val (.ref a2), .val (.int p3), .val (.int p4), .unset] [(.ref a1), (.int z_w5), (.int p4)])) rfl rfl (hb hby d5_7)
  obtain ⟨_, _, ⟨T9, L9, k9, n9⟩, -, X9, ⟨Lc9, hQ9, l9, y9, z9⟩, st9⟩ := Jvm.LawKit.callS X8 hx (y := (⟨"java/lang/Math", "min", "(II)I"⟩ : MethodName)) hown (mvT hZ (hw _ (List.mem_of_getElem? (i := 31) rfl))) (mvT hZ (hw _ (List.mem_of_getElem? (i := 32) rfl))) (mvT hZ (hw _ (List.mem_of_getElem? (i := 33) rfl))) (mvT hZ (hw _ (List.mem_of_getElem? (i := 34) rfl))) (by decide) (backOf (W := 0) (rm6 l Z a0 hw [] p4 (z_w5 - w7) h0 n0 Z0) hZ (hw _ (List.mem_of_getElem? (i := 34) rfl)) (hw _ (List.mem_of_getElem? (i := 33) rfl)) (by decide) (by decide)) (g := (mkF m 11 #[.val (.ref a1), .val (.ref a2), .val (.int p3), .val (.int p4), .unset] [(.int (z_w5 - w7)), (.int p4)])) rfl (by rw [hml]; rfl) (argsL := [(.int p4), (.int (z_w5 - w7))]) (rest := []) (lenOf pd_5_4 rfl) rfl (by show 2 * 0 + _ ≤ _; exact Nat.le_of_eq rfl) (hb hby d5_11) (fun _ _ => ⟨rfl, e8, (by decide : 0 + 0 ≤ _), (by decide : 0 + 0 ≤ _)⟩)
  dsimp only [Pt.U, Pt.locs, Pt.cells, Pt.slots] at X9 l9 y9 z9 st9 hQ9
  subst l9 y9 z9
  obtain ⟨rfl, N9q, e9⟩ := hQ9
  have K9 : Keep h0 T9.heap [] := by rw [e9]; exact Keep.refl _ _
  have K9a : Keep h0 T9.heap [a1, w5] := by rw [e9]; exact Keep.refl _ _
  have N9 := Fr.app N0 N9q
  obtain ⟨T11, X11, e11, st11⟩ := getF X9 hx hZ hown (host := "") (Or.inl (hw _ (List.mem_of_getElem? (i := 17) rfl))) Via.refl rfl (F_held_a1.keep K9 nin0) (g := (mkF m 19 #[.val (.ref a1), .val (.ref a2), .val (.int p3), .val (.int p4), .val (.int (own_min p4 (z_w5 - w7)))] [(.ref a1), (.int p3), (.ref a2)])) rfl rfl (hb hby d5_19)
  obtain ⟨T13, X13, e13, st13⟩ := getF X11 hx hZ hown (host := "") (Or.inl (hw _ (List.mem_of_getElem? (i := 24) rfl))) Via.refl e11 (F_length_a1.keep K9 nin0) (g := (mkF m 23 #[.val (.ref a1), .val (.ref a2), .val (.int p3), .val (.int p4), .val (.int (own_min p4 (z_w5 - w7)))] [(.ref a1), (.ref w5), (.int p3), (.ref a2)])) rfl rfl (hb hby d5_23)
  obtain ⟨T14, h14, L14, X14, e14, N14, K14, V14, st14⟩ := cpA X13 hx hZ hown (hw _ (List.mem_of_getElem? (i := 35) rfl)) (hw _ (List.mem_of_getElem? (i := 38) rfl)) (hw _ (List.mem_of_getElem? (i := 36) rfl)) (hw _ (List.mem_of_getElem? (i := 37) rfl)) e13 (V_a2.keep K9 nin0) (V_w5.keep K9 nin0) (sp := p3) (dp := w7) (nn := (own_min p4 (z_w5 - w7))) (Or.inl ⟨rfl, rfl⟩) c1 c2 c3 c4 c5 rfl (by rw [hvd]; exact c6) N9 g_w5 (g := (mkF m 28 #[.val (.ref a1), .val (.ref a2), .val (.int p3), .val (.int p4), .val (.int (own_min p4 (z_w5 - w7)))] [(.int (own_min p4 (z_w5 - w7))), (.int w7), (.ref w5), (.int p3), (.ref a2)])) rfl (by rw [hml]; rfl) (rest := []) rfl (hb hby d5_28) (by decide) (W := 0) (by show 2 * 0 + _ ≤ _; exact Nat.le_of_eq rfl) (by decide)
  subst e14
  have K14a : Keep h0 T14.heap [a1, w5] := K9a.trans K14 (allS (Or.inl (List.mem_of_getElem? (i := 1) rfl)) all0)
  have nw : a1 ∉ [w5] := ninS ne1 nin0
  obtain ⟨T16, X16, e16, st16⟩ := getF X14 hx hZ hown (host := "") (Or.inl (hw _ (List.mem_of_getElem? (i := 24) rfl))) Via.refl rfl ((F_length_a1.keep K9 nin0).keep K14 nw) (g := (mkF m 33 #[.val (.ref a1), .val (.ref a2), .val (.int p3), .val (.int p4), .val (.int (own_min p4 (z_w5 - w7)))] [(.ref a1), (.ref a1)])) rfl rfl (hb hby d5_33)
  obtain ⟨T17, h17, X17, e17, W17, st17⟩ := putF X16 hx hZ hown (host := "") (Or.inl (hw _ (List.mem_of_getElem? (i := 24) rfl))) Via.refl e16 ((F_length_a1.keep K9 nin0).keep K14 nw) ((E_a1.keep K9).keep K14) (Or.inl (hw _ (List.mem_of_getElem? (i := 25) rfl))) (hw _ (List.mem_of_getElem? (i := 2) rfl)) (ty := .int) (by decide) rfl rfl (g := (mkF m 39 #[.val (.ref a1), .val (.ref a2), .val (.int p3), .val (.int p4), .val (.int (own_min p4 (z_w5 - w7)))] [(.int (w7 + (own_min p4 (z_w5 - w7)))), (.ref a1)])) rfl rfl (hb hby d5_39)
  have Fw17 := ((F_length_a1.keep K9 nin0).keep K14 nw).same W17
  have K17 : Keep h0 h17 [a1, w5] := K14a.wr W17 (Or.inl (List.mem_of_getElem? (i := 0) rfl))
  have N17 := Fr.snoc X17 N14 g_a1
  obtain ⟨T19, X19, e19, st19⟩ := getF X17 hx hZ hown (host := "") (Or.inl (hw _ (List.mem_of_getElem? (i := 39) rfl))) Via.refl e17 (((F_cut_a1.keep K9 nin0).keep K14 nw).other W17 (Or.inr (slot_ne (Or.inl (hw _ (List.mem_of_getElem? (i := 40) rfl))) (Or.inl (hw _ (List.mem_of_getElem? (i := 25) rfl))) (by decide) (t := .boolean) (t' := .int) (by decide) (by decide)))) (g := (mkF m 44 #[.val (.ref a1), .val (.ref a2), .val (.int p3), .val (.int p4), .val (.int (own_min p4 (z_w5 - w7)))] [(.ref a1), (.ref a1)])) rfl rfl (hb hby d5_44)
  obtain ⟨T20, h20, X20, e20, W20, st20⟩ := putFN X19 hx hZ hown (hw _ (List.mem_of_getElem? (i := 39) rfl)) Via.refl e19 (((F_cut_a1.keep K9 nin0).keep K14 nw).other W17 (Or.inr (slot_ne (Or.inl (hw _ (List.mem_of_getElem? (i := 40) rfl))) (Or.inl (hw _ (List.mem_of_getElem? (i := 25) rfl))) (by decide) (t := .boolean) (t' := .int) (by decide) (by decide)))) (((E_a1.keep K9).keep K14).wr W17) (Or.inl (hw _ (List.mem_of_getElem? (i := 40) rfl))) (hw _ (List.mem_of_getElem? (i := 2) rfl)) (ty := .boolean) (v' := .int (nar .boolean (w18 ||| (0 : Int32)))) (by decide) rfl (fits_nar_bool _) (g := (mkF m 59 #[.val (.ref a1), .val (.ref a2), .val (.int p3), .val (.int p4), .val (.int (own_min p4 (z_w5 - w7)))] [(.int (w18 ||| (0 : Int32))), (.ref a1)])) rfl rfl (hb hby d5_59)
  have Fw20 := (((F_cut_a1.keep K9 nin0).keep K14 nw).other W17 (Or.inr (slot_ne (Or.inl (hw _ (List.mem_of_getElem? (i := 40) rfl))) (Or.inl (hw _ (List.mem_of_getElem? (i := 25) rfl))) (by decide) (t := .boolean) (t' := .int) (by decide) (by decide)))).same W20
  have K20 : Keep h0 h20 [a1, w5] := K17.wr W20 (Or.inl (List.mem_of_getElem? (i := 0) rfl))
  have N20 := Fr.snoc X20 N17 g_a1
  obtain ⟨fs, hr, hrun, hended, hW, hsame⟩ := X20.leave (v := none) (fun _ => rfl)
  refine ⟨_, _, pre0 _ ?_, hrun, hended, _, _, rfl, ?_, ⟨_, rfl⟩, hW, hsame.mono (by decide) (by decide)⟩
  · show Steps p.tables e below (s₁.setTop (mkF m 0 #[.val (.ref a1), .val (.ref a2), .val (.int p3), .val (.int p4), .unset] [])) _
    refine XS.iloadN X0.here hx rfl (hb hby d5_0) rfl ?_
    show Steps p.tables e below (s₁.setTop (mkF m 1 #[.val (.ref a1), .val (.ref a2), .val (.int p3), .val (.int p4), .unset] [(.int p4)])) _
    refine XS.aloadN X0.here hx rfl (hb hby d5_1) rfl rfl ?_
    show Steps p.tables e below (s₁.setTop (mkF m 2 #[.val (.ref a1), .val (.ref a2), .val (.int p3), .val (.int p4), .unset] [(.ref a1), (.int p4)])) _
    refine st6 _ ?_
    show Steps p.tables e below (T6.setTop (mkF m 5 #[.val (.ref a1), .val (.ref a2), .val (.int p3), .val (.int p4), .unset] [(.ref w5), (.int p4)])) _
    refine X6.arraylength hx (by rw [e6]; exact Ar_w5.1) (State.isArrayOf_alike hZ.alike Ar_w5.2.1) (g := (mkF m 5 #[.val (.ref a1), .val (.ref a2), .val (.int p3), .val (.int p4), .unset] [(.ref w5), (.int p4)])) rfl rfl (hb hby d5_5) _ ?_
    rw [len_of S_w5 N_w5]
    show Steps p.tables e below (T6.setTop (mkF m 6 #[.val (.ref a1), .val (.ref a2), .val (.int p3), .val (.int p4), .unset] [(.int z_w5), (.int p4)])) _
    refine XS.aloadN X6.here hx rfl (hb hby d5_6) rfl rfl ?_
    show Steps p.tables e below (T6.setTop (mkF m 7 #[.val (.ref a1), .val (.ref a2), .val (.int p3), .val (.int p4), .unset] [(.ref a1), (.int z_w5), (.int p4)])) _
    refine st8 _ ?_
    show Steps p.tables e below (T8.setTop (mkF m 10 #[.val (.ref a1), .val (.ref a2), .val (.int p3), .val (.int p4), .unset] [(.int w7), (.int z_w5), (.int p4)])) _
    refine XS.isub X8.here hx rfl (hb hby d5_10) rfl ?_
    show Steps p.tables e below (T8.setTop (mkF m 11 #[.val (.ref a1), .val (.ref a2), .val (.int p3), .val (.int p4), .unset] [(.int (z_w5 - w7)), (.int p4)])) _
    refine st9 _ ?_
    show Steps p.tables e below (T9.setTop (mkF m 14 #[.val (.ref a1), .val (.ref a2), .val (.int p3), .val (.int p4), .unset] [(.int (own_min p4 (z_w5 - w7)))])) _
    refine XS.istore X9.here hx rfl (hb hby d5_14) rfl (l' := #[.val (.ref a1), .val (.ref a2), .val (.int p3), .val (.int p4), .val (.int (own_min p4 (z_w5 - w7)))]) rfl ?_
    show Steps p.tables e below (T9.setTop (mkF m 16 #[.val (.ref a1), .val (.ref a2), .val (.int p3), .val (.int p4), .val (.int (own_min p4 (z_w5 - w7)))] [])) _
    refine XS.aloadN X9.here hx rfl (hb hby d5_16) rfl rfl ?_
    show Steps p.tables e below (T9.setTop (mkF m 17 #[.val (.ref a1), .val (.ref a2), .val (.int p3), .val (.int p4), .val (.int (own_min p4 (z_w5 - w7)))] [(.ref a2)])) _
    refine XS.iloadN X9.here hx rfl (hb hby d5_17) rfl ?_
    show Steps p.tables e below (T9.setTop (mkF m 18 #[.val (.ref a1), .val (.ref a2), .val (.int p3), .val (.int p4), .val (.int (own_min p4 (z_w5 - w7)))] [(.int p3), (.ref a2)])) _
    refine XS.aloadN X9.here hx rfl (hb hby d5_18) rfl rfl ?_
    show Steps p.tables e below (T9.setTop (mkF m 19 #[.val (.ref a1), .val (.ref a2), .val (.int p3), .val (.int p4), .val (.int (own_min p4 (z_w5 - w7)))] [(.ref a1), (.int p3), (.ref a2)])) _
    refine st11 _ ?_
    show Steps p.tables e below (T11.setTop (mkF m 22 #[.val (.ref a1), .val (.ref a2), .val (.int p3), .val (.int p4), .val (.int (own_min p4 (z_w5 - w7)))] [(.ref w5), (.int p3), (.ref a2)])) _
    refine XS.aloadN X11.here hx rfl (hb hby d5_22) rfl rfl ?_
    show Steps p.tables e below (T11.setTop (mkF m 23 #[.val (.ref a1), .val (.ref a2), .val (.int p3), .val (.int p4), .val (.int (own_min p4 (z_w5 - w7)))] [(.ref a1), (.ref w5), (.int p3), (.ref a2)])) _
    refine st13 _ ?_
    show Steps p.tables e below (T13.setTop (mkF m 26 #[.val (.ref a1), .val (.ref a2), .val (.int p3), .val (.int p4), .val (.int (own_min p4 (z_w5 - w7)))] [(.int w7), (.ref w5), (.int p3), (.ref a2)])) _
    refine XS.iload X13.here hx rfl (hb hby d5_26) rfl ?_
    show Steps p.tables e below (T13.setTop (mkF m 28 #[.val (.ref a1), .val (.ref a2), .val (.int p3), .val (.int p4), .val (.int (own_min p4 (z_w5 - w7)))] [(.int (own_min p4 (z_w5 - w7))), (.int w7), (.ref w5), (.int p3), (.ref a2)])) _
    refine st14 _ ?_
    show Steps p.tables e below (T14.setTop (mkF m 31 #[.val (.ref a1), .val (.ref a2), .val (.int p3), .val (.int p4), .val (.int (own_min p4 (z_w5 - w7)))] [])) _
    refine XS.aloadN X14.here hx rfl (hb hby d5_31) rfl rfl ?_
    show Steps p.tables e below (T14.setTop (mkF m 32 #[.val (.ref a1), .val (.ref a2), .val (.int p3), .val (.int p4), .val (.int (own_min p4 (z_w5 - w7)))] [(.ref a1)])) _
    refine XS.dup X14.here hx rfl (hb hby d5_32) rfl rfl ?_
    show Steps p.tables e below (T14.setTop (mkF m 33 #[.val (.ref a1), .val (.ref a2), .val (.int p3), .val (.int p4), .val (.int (own_min p4 (z_w5 - w7)))] [(.ref a1), (.ref a1)])) _
    refine st16 _ ?_
    show Steps p.tables e below (T16.setTop (mkF m 36 #[.val (.ref a1), .val (.ref a2), .val (.int p3), .val (.int p4), .val (.int (own_min p4 (z_w5 - w7)))] [(.int w7), (.ref a1)])) _
    refine XS.iload X16.here hx rfl (hb hby d5_36) rfl ?_
    show Steps p.tables e below (T16.setTop (mkF m 38 #[.val (.ref a1), .val (.ref a2), .val (.int p3), .val (.int p4), .val (.int (own_min p4 (z_w5 - w7)))] [(.int (own_min p4 (z_w5 - w7))), (.int w7), (.ref a1)])) _
    refine XS.iadd X16.here hx rfl (hb hby d5_38) rfl ?_
    show Steps p.tables e below (T16.setTop (mkF m 39 #[.val (.ref a1), .val (.ref a2), .val (.int p3), .val (.int p4), .val (.int (own_min p4 (z_w5 - w7)))] [(.int (w7 + (own_min p4 (z_w5 - w7)))), (.ref a1)])) _
    refine st17 _ ?_
    show Steps p.tables e below (T17.setTop (mkF m 42 #[.val (.ref a1), .val (.ref a2), .val (.int p3), .val (.int p4), .val (.int (own_min p4 (z_w5 - w7)))] [])) _
    refine XS.aloadN X17.here hx rfl (hb hby d5_42) rfl rfl ?_
    show Steps p.tables e below (T17.setTop (mkF m 43 #[.val (.ref a1), .val (.ref a2), .val (.int p3), .val (.int p4), .val (.int (own_min p4 (z_w5 - w7)))] [(.ref a1)])) _
    refine XS.dup X17.here hx rfl (hb hby d5_43) rfl rfl ?_
    show Steps p.tables e below (T17.setTop (mkF m 44 #[.val (.ref a1), .val (.ref a2), .val (.int p3), .val (.int p4), .val (.int (own_min p4 (z_w5 - w7)))] [(.ref a1), (.ref a1)])) _
    refine st19 _ ?_
    show Steps p.tables e below (T19.setTop (mkF m 47 #[.val (.ref a1), .val (.ref a2), .val (.int p3), .val (.int p4), .val (.int (own_min p4 (z_w5 - w7)))] [(.int w18), (.ref a1)])) _
    refine XS.iload X19.here hx rfl (hb hby d5_47) rfl ?_
    show Steps p.tables e below (T19.setTop (mkF m 49 #[.val (.ref a1), .val (.ref a2), .val (.int p3), .val (.int p4), .val (.int (own_min p4 (z_w5 - w7)))] [(.int (own_min p4 (z_w5 - w7))), (.int w18), (.ref a1)])) _
    refine XS.iloadN X19.here hx rfl (hb hby d5_49) rfl ?_
    show Steps p.tables e below (T19.setTop (mkF m 50 #[.val (.ref a1), .val (.ref a2), .val (.int p3), .val (.int p4), .val (.int (own_min p4 (z_w5 - w7)))] [(.int p4), (.int (own_min p4 (z_w5 - w7))), (.int w18), (.ref a1)])) _
    refine XS.icmpYes X19.here hx rfl (pc0 := 50) (pc' := 57) rfl (hb hby d5_50) rfl (flt (hc50 : ¬ ((own_min p4 (z_w5 - w7)) < p4))).2.1 (by decide) (by decide) ?_
    show Steps p.tables e below (T19.setTop (mkF m 57 #[.val (.ref a1), .val (.ref a2), .val (.int p3), .val (.int p4), .val (.int (own_min p4 (z_w5 - w7)))] [(.int w18), (.ref a1)])) _
    refine XS.iconst X19.here hx rfl (hb hby d5_57) ?_
    show Steps p.tables e below (T19.setTop (mkF m 58 #[.val (.ref a1), .val (.ref a2), .val (.int p3), .val (.int p4), .val (.int (own_min p4 (z_w5 - w7)))] [(.int (0 : Int32)), (.int w18), (.ref a1)])) _
    refine XS.ior X19.here hx rfl (hb hby d5_58) rfl ?_
    show Steps p.tables e below (T19.setTop (mkF m 59 #[.val (.ref a1), .val (.ref a2), .val (.int p3), .val (.int p4), .val (.int (own_min p4 (z_w5 - w7)))] [(.int (w18 ||| (0 : Int32))), (.ref a1)])) _
    refine st20 _ ?_
    show Steps p.tables e below (T20.setTop (mkF m 62 #[.val (.ref a1), .val (.ref a2), .val (.int p3), .val (.int p4), .val (.int (own_min p4 (z_w5 - w7)))] [])) _
    exact X20.returnOut hx Bd.returns (hb hby d5_62) hr
  · show Q5 Z a1 w5 k5 z_w5 w7 p4 h0 n0 _ T20.heap _
    rw [e20]
    have ne5 : w5 ≠ a1 := fun h => ne1 h.symm
    exact ⟨rfl, N20, K20, (((E_a1.keep K9).keep K14).wr W17).wr W20, (((F_held_a1.keep K9 nin0).keep K14 nw).other W17 (Or.inr (slot_ne (Or.inr (hw _ (List.mem_of_getElem? (i := 18) rfl))) (Or.inl (hw _ (List.mem_of_getElem? (i := 25) rfl))) (by decide) (t := (.array .char)) (t' := .int) (by decide) (by decide)))).other W20 (Or.inr (slot_ne (Or.inr (hw _ (List.mem_of_getElem? (i := 18) rfl))) (Or.inl (hw _ (List.mem_of_getElem? (i := 40) rfl))) (by decide) (t := (.array .char)) (t' := .boolean) (by decide) (by decide))), Fw17.other W20 (Or.inr (slot_ne (Or.inl (hw _ (List.mem_of_getElem? (i := 25) rfl))) (Or.inl (hw _ (List.mem_of_getElem? (i := 40) rfl))) (by decide) (t := .int) (t' := .boolean) (by decide) (by decide))), ⟨_, Fw20⟩, _, own_len4 _ _ _ _ hvd (by simp) c6, (V14.other W17 ne5).other W20 ne5⟩
theorem d5_53 : decode prog_46_method_3_code 53 = .ok (.iconst 1, 1) := by decide +kernel
theorem d5_54 : decode prog_46_method_3_code 54 = .ok (.goto 4, 3) := by decide +kernel
set_option maxRecDepth 65536 in
set_option maxHeartbeats 40000000 in
theorem rm5_f (l : Launch) (Z : State) (a0 : Array Value) (hw : ∀ d ∈ tables_1, d.before a0 Z = true) (ws : List Jvm.Cond) (a1 : Addr) (a2 : Addr) (p3 : Int32) (p4 : Int32) (w5 : Addr) (k5 : ClassId) (z_w5 : Int32) (w7 : Int32) (k2 : ClassId) (z2 : Int32) (vs : List Value) (h0 : Heap) (n0 : Nat) (Z0 : n0 ≤ h0.size) (I : own_I Z h0 a1 w5 k5 z_w5 w7) (V_a2 : Arv Z h0 a2 k2 .char z2 vs (.int (0 : Int32))) (g_a1 : n0 ≤ a1) (g_w5 : n0 ≤ w5) (ne1 : a1 ≠ w5) (c1 : ¬ p3 < 0) (c2 : ¬ w7 < 0) (c3 : ¬ (own_min p4 (z_w5 - w7)) < 0) (c4 : p3.toNatClampNeg + (own_min p4 (z_w5 - w7)).toNatClampNeg ≤ z2.toNatClampNeg) (c5 : w7.toNatClampNeg + (own_min p4 (z_w5 - w7)).toNatClampNeg ≤ z_w5.toNatClampNeg) (c6 : w7.toNatClampNeg + (own_min p4 (z_w5 - w7)).toNatClampNeg ≤ 4) (hc50 : (own_min p4 (z_w5 - w7)) < p4) :
    MetFree l (⟨"descry/read/TextPrefix", "write", "([CII)V"⟩ : MethodName) (head1 (Jvm.Cond.code (⟨"descry/read/TextPrefix", "write", "([CII)V"⟩ : MethodName) prog_46_method_3_code 5 none :: ws) ({ frames := 1, cells := 0, slots := 0, locals := 18 } : Room)) (fun a U => a = #[(.ref a1), (.ref a2), (.int p3), (.int p4)] ∧ Z.Warmed39 U.vm ∧ U.heap = h0) (fun _ _ _ _ _ => True) (fun _ U o U' => ∃ v L, o = .returned v ∧ Q5 Z a1 w5 k5 z_w5 w7 p4 h0 n0 v U'.heap L ∧ FrameEnd U o U' L ({ frames := 1, cells := 0, slots := 0, locals := 18 } : Room).cells ({ frames := 1, cells := 0, slots := 0, locals := 18 } : Room).slots) := by
  refine MetFree.of_bodySF (plainFor_of_name pn_5) hisR ?_
  intro p e s m args below meth c s₁ Bd hml0 hP hK
  obtain ⟨rfl, hZ, hh⟩ := hP
  have hx := Bd.exec
  have hby := Bd.bytes
  have hml : c.maxLocals = 5 := hml0
  have hown : s.vm.findClass "descry/read/TextPrefix" = some m.cls := findClass_of_methodNamed Bd.named
  have hnm := (name_of_methodNamed Bd.named Bd.method).1
  have X0 : Stand p l e ({ frames := 1, cells := 0, slots := 0, locals := 18 } : Room) s m #[(.ref a1), (.ref a2), (.int p3), (.int p4)] below meth c s₁ [] 0 0 := Stand.of_body Bd
  have e0 : s₁.heap = h0 := by rw [← hh, Bd.state]; rfl
  have N0 := Fr.nil n0
  obtain ⟨E_a1, F_held_a1, F_length_a1, ⟨w18, F_cut_a1⟩, vd, hvd, V_w5⟩ := I
  have V_w5c := V_w5
  obtain ⟨cl_w5, Ar_w5, q_w5, S_w5, N_w5, H_w5, G_w5⟩ := V_w5c
  have pre0 : ∀ t, Steps p.tables e below (s₁.setTop (mkF m 0 #[.val (.ref a1), .val (.ref a2), .val (.int p3), .val (.int p4), .unset] [])) t → Steps p.tables e below (s₁.setTop (entryFrame m #[(.ref a1), (.ref a2), (.int p3), (.int p4)] 5)) t := fun t k => castTop (ef_5 m a1 a2 p3 p4) k
  obtain ⟨T6, X6, e6, st6⟩ := getF X0 hx hZ hown (host := "") (Or.inl (hw _ (List.mem_of_getElem? (i := 17) rfl))) Via.refl e0 F_held_a1 (g := (mkF m 2 #[.val (.ref a1), .val (.ref a2), .val (.int p3), .val (.int p4), .unset] [(.ref a1), (.int p4)])) rfl rfl (hb hby d5_2)
  obtain ⟨T8, X8, e8, st8⟩ := getF X6 hx hZ hown (host := "") (Or.inl (hw _ (List.mem_of_getElem? (i := 24) rfl))) Via.refl e6 F_length_a1 (g := (mkF m 7 #[.val (.ref a1), .val (.ref a2), .val (.int p3), .val (.int p4), .unset] [(.ref a1), (.int z_w5), (.int p4)])) rfl rfl (hb hby d5_7)
  obtain ⟨_, _, ⟨T9, L9, k9, n9⟩, -, X9, ⟨Lc9, hQ9, l9, y9, z9⟩, st9⟩ := Jvm.LawKit.callS X8 hx (y := (⟨"java/lang/Math", "min", "(II)I"⟩ : MethodName)) hown (mvT hZ (hw _ (List.mem_of_getElem? (i := 31) rfl))) (mvT hZ (hw _ (List.mem_of_getElem? (i := 32) rfl))) (mvT hZ (hw _ (List.mem_of_getElem? (i := 33) rfl))) (mvT hZ (hw _ (List.mem_of_getElem? (i := 34) rfl))) (by decide) (backOf (W := 0) (rm6 l Z a0 hw [] p4 (z_w5 - w7) h0 n0 Z0) hZ (hw _ (List.mem_of_getElem? (i := 34) rfl)) (hw _ (List.mem_of_getElem? (i := 33) rfl)) (by decide) (by decide)) (g := (mkF m 11 #[.val (.ref a1), .val (.ref a2), .val (.int p3), .val (.int p4), .unset] [(.int (z_w5 - w7)), (.int p4)])) rfl (by rw [hml]; rfl) (argsL := [(.int p4), (.int (z_w5 - w7))]) (rest := []) (lenOf pd_5_4 rfl) rfl (by show 2 * 0 + _ ≤ _; exact Nat.le_of_eq rfl) (hb hby d5_11) (fun _ _ => ⟨rfl, e8, (by decide : 0 + 0 ≤ _), (by decide : 0 + 0 ≤ _)⟩)
  dsimp only [Pt.U, Pt.locs, Pt.cells, Pt.slots] at X9 l9 y9 z9 st9 hQ9
  subst l9 y9 z9
  obtain ⟨rfl, N9q, e9⟩ := hQ9
  have K9 : Keep h0 T9.heap [] := by rw [e9]; exact Keep.refl _ _
  have K9a : Keep h0 T9.heap [a1, w5] := by rw [e9]; exact Keep.refl _ _
  have N9 := Fr.app N0 N9q
  obtain ⟨T11, X11, e11, st11⟩ := getF X9 hx hZ hown (host := "") (Or.inl (hw _ (List.mem_of_getElem? (i := 17) rfl))) Via.refl rfl (F_held_a1.keep K9 nin0) (g := (mkF m 19 #[.val (.ref a1), .val (.ref a2), .val (.int p3), .val (.int p4), .val (.int (own_min p4 (z_w5 - w7)))] [(.ref a1), (.int p3), (.ref a2)])) rfl rfl (hb hby d5_19)
  obtain ⟨T13, X13, e13, st13⟩ := getF X11 hx hZ hown (host := "") (Or.inl (hw _ (List.mem_of_getElem? (i := 24) rfl))) Via.refl e11 (F_length_a1.keep K9 nin0) (g := (mkF m 23 #[.val (.ref a1), .val (.ref a2), .val (.int p3), .val (.int p4), .val (.int (own_min p4 (z_w5 - w7)))] [(.ref a1), (.ref w5), (.int p3), (.ref a2)])) rfl rfl (hb hby d5_23)
  obtain ⟨T14, h14, L14, X14, e14, N14, K14, V14, st14⟩ := cpA X13 hx hZ hown (hw _ (List.mem_of_getElem? (i := 35) rfl)) (hw _ (List.mem_of_getElem? (i := 38) rfl)) (hw _ (List.mem_of_getElem? (i := 36) rfl)) (hw _ (List.mem_of_getElem? (i := 37) rfl)) e13 (V_a2.keep K9 nin0) (V_w5.keep K9 nin0) (sp := p3) (dp := w7) (nn := (own_min p4 (z_w5 - w7))) (Or.inl ⟨rfl, rfl⟩) c1 c2 c3 c4 c5 rfl (by rw [hvd]; exact c6) N9 g_w5 (g := (mkF m 28 #[.val (.ref a1), .val (.ref a2), .val (.int p3), .val (.int p4), .val (.int (own_min p4 (z_w5 - w7)))] [(.int (own_min p4 (z_w5 - w7))), (.int w7), (.ref w5), (.int p3), (.ref a2)])) rfl (by rw [hml]; rfl) (rest := []) rfl (hb hby d5_28) (by decide) (W := 0) (by show 2 * 0 + _ ≤ _; exact Nat.le_of_eq rfl) (by decide)
  subst e14
  have K14a : Keep h0 T14.heap [a1, w5] := K9a.trans K14 (allS (Or.inl (List.mem_of_getElem? (i := 1) rfl)) all0)
  have nw : a1 ∉ [w5] := ninS ne1 nin0
  obtain ⟨T16, X16, e16, st16⟩ := getF X14 hx hZ hown (host := "") (Or.inl (hw _ (List.mem_of_getElem? (i := 24) rfl))) Via.refl rfl ((F_length_a1.keep K9 nin0).keep K14 nw) (g := (mkF m 33 #[.val (.ref a1), .val (.ref a2), .val (.int p3), .val (.int p4), .val (.int (own_min p4 (z_w5 - w7)))] [(.ref a1), (.ref a1)])) rfl rfl (hb hby d5_33)
  obtain ⟨T17, h17, X17, e17, W17, st17⟩ := putF X16 hx hZ hown (host := "") (Or.inl (hw _ (List.mem_of_getElem? (i := 24) rfl))) Via.refl e16 ((F_length_a1.keep K9 nin0).keep K14 nw) ((E_a1.keep K9).keep K14) (Or.inl (hw _ (List.mem_of_getElem? (i := 25) rfl))) (hw _ (List.mem_of_getElem? (i := 2) rfl)) (ty := .int) (by decide) rfl rfl (g := (mkF m 39 #[.val (.ref a1), .val (.ref a2), .val (.int p3), .val (.int p4), .val (.int (own_min p4 (z_w5 - w7)))] [(.int (w7 + (own_min p4 (z_w5 - w7)))), (.ref a1)])) rfl rfl (hb hby d5_39)
  have Fw17 := ((F_length_a1.keep K9 nin0).keep K14 nw).same W17
  have K17 : Keep h0 h17 [a1, w5] := K14a.wr W17 (Or.inl (List.mem_of_getElem? (i := 0) rfl))
  have N17 := Fr.snoc X17 N14 g_a1
  obtain ⟨T19, X19, e19, st19⟩ := getF X17 hx hZ hown (host := "") (Or.inl (hw _ (List.mem_of_getElem? (i := 39) rfl))) Via.refl e17 (((F_cut_a1.keep K9 nin0).keep K14 nw).other W17 (Or.inr (slot_ne (Or.inl (hw _ (List.mem_of_getElem? (i := 40) rfl))) (Or.inl (hw _ (List.mem_of_getElem? (i := 25) rfl))) (by decide) (t := .boolean) (t' := .int) (by decide) (by decide)))) (g := (mkF m 44 #[.val (.ref a1), .val (.ref a2), .val (.int p3), .val (.int p4), .val (.int (own_min p4 (z_w5 - w7)))] [(.ref a1), (.ref a1)])) rfl rfl (hb hby d5_44)
  obtain ⟨T20, h20, X20, e20, W20, st20⟩ := putFN X19 hx hZ hown (hw _ (List.mem_of_getElem? (i := 39) rfl)) Via.refl e19 (((F_cut_a1.keep K9 nin0).keep K14 nw).other W17 (Or.inr (slot_ne (Or.inl (hw _ (List.mem_of_getElem? (i := 40) rfl))) (Or.inl (hw _ (List.mem_of_getElem? (i := 25) rfl))) (by decide) (t := .boolean) (t' := .int) (by decide) (by decide)))) (((E_a1.keep K9).keep K14).wr W17) (Or.inl (hw _ (List.mem_of_getElem? (i := 40) rfl))) (hw _ (List.mem_of_getElem? (i := 2) rfl)) (ty := .boolean) (v' := .int (nar .boolean (w18 ||| (1 : Int32)))) (by decide) rfl (fits_nar_bool _) (g := (mkF m 59 #[.val (.ref a1), .val (.ref a2), .val (.int p3), .val (.int p4), .val (.int (own_min p4 (z_w5 - w7)))] [(.int (w18 ||| (1 : Int32))), (.ref a1)])) rfl rfl (hb hby d5_59)
  have Fw20 := (((F_cut_a1.keep K9 nin0).keep K14 nw).other W17 (Or.inr (slot_ne (Or.inl (hw _ (List.mem_of_getElem? (i := 40) rfl))) (Or.inl (hw _ (List.mem_of_getElem? (i := 25) rfl))) (by decide) (t := .boolean) (t' := .int) (by decide) (by decide)))).same W20
  have K20 : Keep h0 h20 [a1, w5] := K17.wr W20 (Or.inl (List.mem_of_getElem? (i := 0) rfl))
  have N20 := Fr.snoc X20 N17 g_a1
  obtain ⟨fs, hr, hrun, hended, hW, hsame⟩ := X20.leave (v := none) (fun _ => rfl)
  refine ⟨_, _, pre0 _ ?_, hrun, hended, _, _, rfl, ?_, ⟨_, rfl⟩, hW, hsame.mono (by decide) (by decide)⟩
  · show Steps p.tables e below (s₁.setTop (mkF m 0 #[.val (.ref a1), .val (.ref a2), .val (.int p3), .val (.int p4), .unset] [])) _
    refine XS.iloadN X0.here hx rfl (hb hby d5_0) rfl ?_
    show Steps p.tables e below (s₁.setTop (mkF m 1 #[.val (.ref a1), .val (.ref a2), .val (.int p3), .val (.int p4), .unset] [(.int p4)])) _
    refine XS.aloadN X0.here hx rfl (hb hby d5_1) rfl rfl ?_
    show Steps p.tables e below (s₁.setTop (mkF m 2 #[.val (.ref a1), .val (.ref a2), .val (.int p3), .val (.int p4), .unset] [(.ref a1), (.int p4)])) _
    refine st6 _ ?_
    show Steps p.tables e below (T6.setTop (mkF m 5 #[.val (.ref a1), .val (.ref a2), .val (.int p3), .val (.int p4), .unset] [(.ref w5), (.int p4)])) _
    refine X6.arraylength hx (by rw [e6]; exact Ar_w5.1) (State.isArrayOf_alike hZ.alike Ar_w5.2.1) (g := (mkF m 5 #[.val (.ref a1), .val (.ref a2), .val (.int p3), .val (.int p4), .unset] [(.ref w5), (.int p4)])) rfl rfl (hb hby d5_5) _ ?_
    rw [len_of S_w5 N_w5]
    show Steps p.tables e below (T6.setTop (mkF m 6 #[.val (.ref a1), .val (.ref a2), .val (.int p3), .val (.int p4), .unset] [(.int z_w5), (.int p4)])) _
    refine XS.aloadN X6.here hx rfl (hb hby d5_6) rfl rfl ?_
    show Steps p.tables e below (T6.setTop (mkF m 7 #[.val (.ref a1), .val (.ref a2), .val (.int p3), .val (.int p4), .unset] [(.ref a1), (.int z_w5), (.int p4)])) _
    refine st8 _ ?_
    show Steps p.tables e below (T8.setTop (mkF m 10 #[.val (.ref a1), .val (.ref a2), .val (.int p3), .val (.int p4), .unset] [(.int w7), (.int z_w5), (.int p4)])) _
    refine XS.isub X8.here hx rfl (hb hby d5_10) rfl ?_
    show Steps p.tables e below (T8.setTop (mkF m 11 #[.val (.ref a1), .val (.ref a2), .val (.int p3), .val (.int p4), .unset] [(.int (z_w5 - w7)), (.int p4)])) _
    refine st9 _ ?_
    show Steps p.tables e below (T9.setTop (mkF m 14 #[.val (.ref a1), .val (.ref a2), .val (.int p3), .val (.int p4), .unset] [(.int (own_min p4 (z_w5 - w7)))])) _
    refine XS.istore X9.here hx rfl (hb hby d5_14) rfl (l' := #[.val (.ref a1), .val (.ref a2), .val (.int p3), .val (.int p4), .val (.int (own_min p4 (z_w5 - w7)))]) rfl ?_
    show Steps p.tables e below (T9.setTop (mkF m 16 #[.val (.ref a1), .val (.ref a2), .val (.int p3), .val (.int p4), .val (.int (own_min p4 (z_w5 - w7)))] [])) _
    refine XS.aloadN X9.here hx rfl (hb hby d5_16) rfl rfl ?_
    show Steps p.tables e below (T9.setTop (mkF m 17 #[.val (.ref a1), .val (.ref a2), .val (.int p3), .val (.int p4), .val (.int (own_min p4 (z_w5 - w7)))] [(.ref a2)])) _
    refine XS.iloadN X9.here hx rfl (hb hby d5_17) rfl ?_
    show Steps p.tables e below (T9.setTop (mkF m 18 #[.val (.ref a1), .val (.ref a2), .val (.int p3), .val (.int p4), .val (.int (own_min p4 (z_w5 - w7)))] [(.int p3), (.ref a2)])) _
    refine XS.aloadN X9.here hx rfl (hb hby d5_18) rfl rfl ?_
    show Steps p.tables e below (T9.setTop (mkF m 19 #[.val (.ref a1), .val (.ref a2), .val (.int p3), .val (.int p4), .val (.int (own_min p4 (z_w5 - w7)))] [(.ref a1), (.int p3), (.ref a2)])) _
    refine st11 _ ?_
    show Steps p.tables e below (T11.setTop (mkF m 22 #[.val (.ref a1), .val (.ref a2), .val (.int p3), .val (.int p4), .val (.int (own_min p4 (z_w5 - w7)))] [(.ref w5), (.int p3), (.ref a2)])) _
    refine XS.aloadN X11.here hx rfl (hb hby d5_22) rfl rfl ?_
    show Steps p.tables e below (T11.setTop (mkF m 23 #[.val (.ref a1), .val (.ref a2), .val (.int p3), .val (.int p4), .val (.int (own_min p4 (z_w5 - w7)))] [(.ref a1), (.ref w5), (.int p3), (.ref a2)])) _
    refine st13 _ ?_
    show Steps p.tables e below (T13.setTop (mkF m 26 #[.val (.ref a1), .val (.ref a2), .val (.int p3), .val (.int p4), .val (.int (own_min p4 (z_w5 - w7)))] [(.int w7), (.ref w5), (.int p3), (.ref a2)])) _
    refine XS.iload X13.here hx rfl (hb hby d5_26) rfl ?_
    show Steps p.tables e below (T13.setTop (mkF m 28 #[.val (.ref a1), .val (.ref a2), .val (.int p3), .val (.int p4), .val (.int (own_min p4 (z_w5 - w7)))] [(.int (own_min p4 (z_w5 - w7))), (.int w7), (.ref w5), (.int p3), (.ref a2)])) _
    refine st14 _ ?_
    show Steps p.tables e below (T14.setTop (mkF m 31 #[.val (.ref a1), .val (.ref a2), .val (.int p3), .val (.int p4), .val (.int (own_min p4 (z_w5 - w7)))] [])) _
    refine XS.aloadN X14.here hx rfl (hb hby d5_31) rfl rfl ?_
    show Steps p.tables e below (T14.setTop (mkF m 32 #[.val (.ref a1), .val (.ref a2), .val (.int p3), .val (.int p4), .val (.int (own_min p4 (z_w5 - w7)))] [(.ref a1)])) _
    refine XS.dup X14.here hx rfl (hb hby d5_32) rfl rfl ?_
    show Steps p.tables e below (T14.setTop (mkF m 33 #[.val (.ref a1), .val (.ref a2), .val (.int p3), .val (.int p4), .val (.int (own_min p4 (z_w5 - w7)))] [(.ref a1), (.ref a1)])) _
    refine st16 _ ?_
    show Steps p.tables e below (T16.setTop (mkF m 36 #[.val (.ref a1), .val (.ref a2), .val (.int p3), .val (.int p4), .val (.int (own_min p4 (z_w5 - w7)))] [(.int w7), (.ref a1)])) _
    refine XS.iload X16.here hx rfl (hb hby d5_36) rfl ?_
    show Steps p.tables e below (T16.setTop (mkF m 38 #[.val (.ref a1), .val (.ref a2), .val (.int p3), .val (.int p4), .val (.int (own_min p4 (z_w5 - w7)))] [(.int (own_min p4 (z_w5 - w7))), (.int w7), (.ref a1)])) _
    refine XS.iadd X16.here hx rfl (hb hby d5_38) rfl ?_
    show Steps p.tables e below (T16.setTop (mkF m 39 #[.val (.ref a1), .val (.ref a2), .val (.int p3), .val (.int p4), .val (.int (own_min p4 (z_w5 - w7)))] [(.int (w7 + (own_min p4 (z_w5 - w7)))), (.ref a1)])) _
    refine st17 _ ?_
    show Steps p.tables e below (T17.setTop (mkF m 42 #[.val (.ref a1), .val (.ref a2), .val (.int p3), .val (.int p4), .val (.int (own_min p4 (z_w5 - w7)))] [])) _
    refine XS.aloadN X17.here hx rfl (hb hby d5_42) rfl rfl ?_
    show Steps p.tables e below (T17.setTop (mkF m 43 #[.val (.ref a1), .val (.ref a2), .val (.int p3), .val (.int p4), .val (.int (own_min p4 (z_w5 - w7)))] [(.ref a1)])) _
    refine XS.dup X17.here hx rfl (hb hby d5_43) rfl rfl ?_
    show Steps p.tables e below (T17.setTop (mkF m 44 #[.val (.ref a1), .val (.ref a2), .val (.int p3), .val (.int p4), .val (.int (own_min p4 (z_w5 - w7)))] [(.ref a1), (.ref a1)])) _
    refine st19 _ ?_
    show Steps p.tables e below (T19.setTop (mkF m 47 #[.val (.ref a1), .val (.ref a2), .val (.int p3), .val (.int p4), .val (.int (own_min p4 (z_w5 - w7)))] [(.int w18), (.ref a1)])) _
    refine XS.iload X19.here hx rfl (hb hby d5_47) rfl ?_
    show Steps p.tables e below (T19.setTop (mkF m 49 #[.val (.ref a1), .val (.ref a2), .val (.int p3), .val (.int p4), .val (.int (own_min p4 (z_w5 - w7)))] [(.int (own_min p4 (z_w5 - w7))), (.int w18), (.ref a1)])) _
    refine XS.iloadN X19.here hx rfl (hb hby d5_49) rfl ?_
    show Steps p.tables e below (T19.setTop (mkF m 50 #[.val (.ref a1), .val (.ref a2), .val (.int p3), .val (.int p4), .val (.int (own_min p4 (z_w5 - w7)))] [(.int p4), (.int (own_min p4 (z_w5 - w7))), (.int w18), (.ref a1)])) _
    refine XS.icmpNo X19.here hx rfl (hb hby d5_50) rfl (tlt (hc50 : (own_min p4 (z_w5 - w7)) < p4)).2.1 ?_
    show Steps p.tables e below (T19.setTop (mkF m 53 #[.val (.ref a1), .val (.ref a2), .val (.int p3), .val (.int p4), .val (.int (own_min p4 (z_w5 - w7)))] [(.int w18), (.ref a1)])) _
    refine XS.iconst X19.here hx rfl (hb hby d5_53) ?_
    show Steps p.tables e below (T19.setTop (mkF m 54 #[.val (.ref a1), .val (.ref a2), .val (.int p3), .val (.int p4), .val (.int (own_min p4 (z_w5 - w7)))] [(.int (1 : Int32)), (.int w18), (.ref a1)])) _
    refine XS.goto X19.here hx rfl (pc0 := 54) (pc' := 58) rfl (hb hby d5_54) (by decide) (by decide) ?_
    show Steps p.tables e below (T19.setTop (mkF m 58 #[.val (.ref a1), .val (.ref a2), .val (.int p3), .val (.int p4), .val (.int (own_min p4 (z_w5 - w7)))] [(.int (1 : Int32)), (.int w18), (.ref a1)])) _
    refine XS.ior X19.here hx rfl (hb hby d5_58) rfl ?_
    show Steps p.tables e below (T19.setTop (mkF m 59 #[.val (.ref a1), .val (.ref a2), .val (.int p3), .val (.int p4), .val (.int (own_min p4 (z_w5 - w7)))] [(.int (w18 ||| (1 : Int32))), (.ref a1)])) _
    refine st20 _ ?_
    show Steps p.tables e below (T20.setTop (mkF m 62 #[.val (.ref a1), .val (.ref a2), .val (.int p3), .val (.int p4), .val (.int (own_min p4 (z_w5 - w7)))] [])) _
    exact X20.returnOut hx Bd.returns (hb hby d5_62) hr
  · show Q5 Z a1 w5 k5 z_w5 w7 p4 h0 n0 _ T20.heap _
    rw [e20]
    have ne5 : w5 ≠ a1 := fun h => ne1 h.symm
    exact ⟨rfl, N20, K20, (((E_a1.keep K9).keep K14).wr W17).wr W20, (((F_held_a1.keep K9 nin0).keep K14 nw).other W17 (Or.inr (slot_ne (Or.inr (hw _ (List.mem_of_getElem? (i := 18) rfl))) (Or.inl (hw _ (List.mem_of_getElem? (i := 25) rfl))) (by decide) (t := (.array .char)) (t' := .int) (by decide) (by decide)))).other W20 (Or.inr (slot_ne (Or.inr (hw _ (List.mem_of_getElem? (i := 18) rfl))) (Or.inl (hw _ (List.mem_of_getElem? (i := 40) rfl))) (by decide) (t := (.array .char)) (t' := .boolean) (by decide) (by decide))), Fw17.other W20 (Or.inr (slot_ne (Or.inl (hw _ (List.mem_of_getElem? (i := 25) rfl))) (Or.inl (hw _ (List.mem_of_getElem? (i := 40) rfl))) (by decide) (t := .int) (t' := .boolean) (by decide) (by decide))), ⟨_, Fw20⟩, _, own_len4 _ _ _ _ hvd (by simp) c6, (V14.other W17 ne5).other W20 ne5⟩
theorem rm5 (l : Launch) (Z : State) (a0 : Array Value) (hw : ∀ d ∈ tables_1, d.before a0 Z = true) (ws : List Jvm.Cond) (a1 : Addr) (a2 : Addr) (p3 : Int32) (p4 : Int32) (w5 : Addr) (k5 : ClassId) (z_w5 : Int32) (w7 : Int32) (k2 : ClassId) (z2 : Int32) (vs : List Value) (h0 : Heap) (n0 : Nat) (Z0 : n0 ≤ h0.size) (I : own_I Z h0 a1 w5 k5 z_w5 w7) (V_a2 : Arv Z h0 a2 k2 .char z2 vs (.int (0 : Int32))) (g_a1 : n0 ≤ a1) (g_w5 : n0 ≤ w5) (ne1 : a1 ≠ w5) (c1 : ¬ p3 < 0) (c2 : ¬ w7 < 0) (c3 : ¬ (own_min p4 (z_w5 - w7)) < 0) (c4 : p3.toNatClampNeg + (own_min p4 (z_w5 - w7)).toNatClampNeg ≤ z2.toNatClampNeg) (c5 : w7.toNatClampNeg + (own_min p4 (z_w5 - w7)).toNatClampNeg ≤ z_w5.toNatClampNeg) (c6 : w7.toNatClampNeg + (own_min p4 (z_w5 - w7)).toNatClampNeg ≤ 4) :
    MetFree l (⟨"descry/read/TextPrefix", "write", "([CII)V"⟩ : MethodName) (head1 (Jvm.Cond.code (⟨"descry/read/TextPrefix", "write", "([CII)V"⟩ : MethodName) prog_46_method_3_code 5 none :: ws) ({ frames := 1, cells := 0, slots := 0, locals := 18 } : Room)) (fun a U => a = #[(.ref a1), (.ref a2), (.int p3), (.int p4)] ∧ Z.Warmed39 U.vm ∧ U.heap = h0) (fun _ _ _ _ _ => True) (fun _ U o U' => ∃ v L, o = .returned v ∧ Q5 Z a1 w5 k5 z_w5 w7 p4 h0 n0 v U'.heap L ∧ FrameEnd U o U' L ({ frames := 1, cells := 0, slots := 0, locals := 18 } : Room).cells ({ frames := 1, cells := 0, slots := 0, locals := 18 } : Room).slots) := by
  by_cases hc : (own_min p4 (z_w5 - w7)) < p4
  · exact rm5_f l Z a0 hw ws a1 a2 p3 p4 w5 k5 z_w5 w7 k2 z2 vs h0 n0 Z0 I V_a2 g_a1 g_w5 ne1 c1 c2 c3 c4 c5 c6 hc
  · exact rm5_t l Z a0 hw ws a1 a2 p3 p4 w5 k5 z_w5 w7 k2 z2 vs h0 n0 Z0 I V_a2 g_a1 g_w5 ne1 c1 c2 c3 c4 c5 c6 hc
set_option maxRecDepth 65536 in
set_option maxHeartbeats 40000000 in
theorem own_s1_t {p : Program} {l : Launch} {e : Env} {R : Room} {s : State} {m : MethodId} {args : Array Value} {below : List Frame} {meth : Method} {c : Code} {T0 : State} {locs : List Loc} {cells slots : Nat} {Z : State} {a0 : Array Value} {s0 : Slot} {s1 : Slot} {s2 : Slot} {s3 : Slot} {s4 : Slot} {s5 : Slot} {i6 : Int32} {s7 : Slot} {s8 : Slot} {s9 : Slot} {s10 : Slot} {s11 : Slot} {s12 : Slot} {s13 : Slot} {s14 : Slot} {s15 : Slot} {s16 : Slot}
    (X0 : Stand p l e R s m args below meth c T0 locs cells slots) (hx : p.tables.exec = Jvm.exec) (hZ : Z.Warmed39 s.vm) (hw : ∀ d ∈ tables_1, d.before a0 Z = true) (hby : c.code = code) (hml : c.maxLocals = 17) (hown : s.vm.findClass "descry/read/TextPrefixIsEmptyPinLaw" = some m.cls) (hc143 : ¬ (i6 = (0 : Int32))) :
      ∀ target, Steps p.tables e below (T0.setTop (mkF m 151 #[s0, s1, s2, s3, s4, s5, .val (.int i6), s7, s8, s9, s10, s11, s12, s13, s14, s15, s16] [(.int (0 : Int32))])) target → Steps p.tables e below (T0.setTop (mkF m 141 #[s0, s1, s2, s3, s4, s5, .val (.int i6), s7, s8, s9, s10, s11, s12, s13, s14, s15, s16] [])) target := by

  intro target kt
  show Steps p.tables e below (T0.setTop (mkF m 141 #[s0, s1, s2, s3, s4, s5, .val (.int i6), s7, s8, s9, s10, s11, s12, s13, s14, s15, s16] [])) _
  refine XS.iload X0.here hx rfl (hb hby at_141) rfl ?_
  show Steps p.tables e below (T0.setTop (mkF m 143 #[s0, s1, s2, s3, s4, s5, .val (.int i6), s7, s8, s9, s10, s11, s12, s13, s14, s15, s16] [(.int i6)])) _
  refine XS.ifYes X0.here hx rfl (pc0 := 143) (pc' := 150) rfl (hb hby at_143) rfl ((if0 _ _).trans (feq hc143).2) (by decide) (by decide) ?_
  show Steps p.tables e below (T0.setTop (mkF m 150 #[s0, s1, s2, s3, s4, s5, .val (.int i6), s7, s8, s9, s10, s11, s12, s13, s14, s15, s16] [])) _
  refine XS.iconst X0.here hx rfl (hb hby at_150) ?_
  exact kt
set_option maxRecDepth 65536 in
set_option maxHeartbeats 40000000 in
theorem own_s1_f {p : Program} {l : Launch} {e : Env} {R : Room} {s : State} {m : MethodId} {args : Array Value} {below : List Frame} {meth : Method} {c : Code} {T0 : State} {locs : List Loc} {cells slots : Nat} {Z : State} {a0 : Array Value} {s0 : Slot} {s1 : Slot} {s2 : Slot} {s3 : Slot} {s4 : Slot} {s5 : Slot} {i6 : Int32} {s7 : Slot} {s8 : Slot} {s9 : Slot} {s10 : Slot} {s11 : Slot} {s12 : Slot} {s13 : Slot} {s14 : Slot} {s15 : Slot} {s16 : Slot}
    (X0 : Stand p l e R s m args below meth c T0 locs cells slots) (hx : p.tables.exec = Jvm.exec) (hZ : Z.Warmed39 s.vm) (hw : ∀ d ∈ tables_1, d.before a0 Z = true) (hby : c.code = code) (hml : c.maxLocals = 17) (hown : s.vm.findClass "descry/read/TextPrefixIsEmptyPinLaw" = some m.cls) (hc143 : i6 = (0 : Int32)) :
      ∀ target, Steps p.tables e below (T0.setTop (mkF m 151 #[s0, s1, s2, s3, s4, s5, .val (.int i6), s7, s8, s9, s10, s11, s12, s13, s14, s15, s16] [(.int (1 : Int32))])) target → Steps p.tables e below (T0.setTop (mkF m 141 #[s0, s1, s2, s3, s4, s5, .val (.int i6), s7, s8, s9, s10, s11, s12, s13, s14, s15, s16] [])) target := by

  intro target kt
  show Steps p.tables e below (T0.setTop (mkF m 141 #[s0, s1, s2, s3, s4, s5, .val (.int i6), s7, s8, s9, s10, s11, s12, s13, s14, s15, s16] [])) _
  refine XS.iload X0.here hx rfl (hb hby at_141) rfl ?_
  show Steps p.tables e below (T0.setTop (mkF m 143 #[s0, s1, s2, s3, s4, s5, .val (.int i6), s7, s8, s9, s10, s11, s12, s13, s14, s15, s16] [(.int i6)])) _
  refine XS.ifNo X0.here hx rfl (hb hby at_143) rfl ((if0 _ _).trans (teq hc143).2) ?_
  show Steps p.tables e below (T0.setTop (mkF m 146 #[s0, s1, s2, s3, s4, s5, .val (.int i6), s7, s8, s9, s10, s11, s12, s13, s14, s15, s16] [])) _
  refine XS.iconst X0.here hx rfl (hb hby at_146) ?_
  show Steps p.tables e below (T0.setTop (mkF m 147 #[s0, s1, s2, s3, s4, s5, .val (.int i6), s7, s8, s9, s10, s11, s12, s13, s14, s15, s16] [(.int (1 : Int32))])) _
  refine XS.goto X0.here hx rfl (pc0 := 147) (pc' := 151) rfl (hb hby at_147) (by decide) (by decide) ?_
  exact kt
def own_x1 (i6 : Int32) : Int32 := (if i6 = (0 : Int32) then (1 : Int32) else (0 : Int32))
set_option maxRecDepth 65536 in
set_option maxHeartbeats 40000000 in
theorem own_s1 {p : Program} {l : Launch} {e : Env} {R : Room} {s : State} {m : MethodId} {args : Array Value} {below : List Frame} {meth : Method} {c : Code} {T0 : State} {locs : List Loc} {cells slots : Nat} {Z : State} {a0 : Array Value} {s0 : Slot} {s1 : Slot} {s2 : Slot} {s3 : Slot} {s4 : Slot} {s5 : Slot} {s7 : Slot} {s8 : Slot} {s9 : Slot} {s10 : Slot} {s11 : Slot} {s12 : Slot} {s13 : Slot} {s14 : Slot} {s15 : Slot} {s16 : Slot} {i6 : Int32}
    (X0 : Stand p l e R s m args below meth c T0 locs cells slots) (hx : p.tables.exec = Jvm.exec) (hZ : Z.Warmed39 s.vm) (hw : ∀ d ∈ tables_1, d.before a0 Z = true) (hby : c.code = code) (hml : c.maxLocals = 17) (hown : s.vm.findClass "descry/read/TextPrefixIsEmptyPinLaw" = some m.cls) :
      ∀ target, Steps p.tables e below (T0.setTop (mkF m 151 #[s0, s1, s2, s3, s4, s5, .val (.int i6), s7, s8, s9, s10, s11, s12, s13, s14, s15, s16] [(.int (own_x1 i6))])) target → Steps p.tables e below (T0.setTop (mkF m 141 #[s0, s1, s2, s3, s4, s5, .val (.int i6), s7, s8, s9, s10, s11, s12, s13, s14, s15, s16] [])) target := by
  intro target kt
  rw [own_x1] at kt
  by_cases hc143 : i6 = (0 : Int32)
  · rw [if_pos hc143] at kt
    exact own_s1_f X0 hx hZ hw hby hml hown hc143 target kt
  · rw [if_neg hc143] at kt
    exact own_s1_t X0 hx hZ hw hby hml hown hc143 target kt
set_option maxRecDepth 65536 in
set_option maxHeartbeats 40000000 in
theorem own_s2_t {p : Program} {l : Launch} {e : Env} {R : Room} {s : State} {m : MethodId} {args : Array Value} {below : List Frame} {meth : Method} {c : Code} {T0 : State} {locs : List Loc} {cells slots : Nat} {Z : State} {a0 : Array Value} {s0 : Slot} {s1 : Slot} {s2 : Slot} {s3 : Slot} {s4 : Slot} {s5 : Slot} {s6 : Slot} {s7 : Slot} {i8 : Int32} {s9 : Slot} {s10 : Slot} {s11 : Slot} {s12 : Slot} {s13 : Slot} {s14 : Slot} {s15 : Slot} {s16 : Slot}
    (X0 : Stand p l e R s m args below meth c T0 locs cells slots) (hx : p.tables.exec = Jvm.exec) (hZ : Z.Warmed39 s.vm) (hw : ∀ d ∈ tables_1, d.before a0 Z = true) (hby : c.code = code) (hml : c.maxLocals = 17) (hown : s.vm.findClass "descry/read/TextPrefixIsEmptyPinLaw" = some m.cls) (hc160 : ¬ (i8 = (0 : Int32))) :
      ∀ target, Steps p.tables e below (T0.setTop (mkF m 168 #[s0, s1, s2, s3, s4, s5, s6, s7, .val (.int i8), s9, s10, s11, s12, s13, s14, s15, s16] [(.int (0 : Int32))])) target → Steps p.tables e below (T0.setTop (mkF m 158 #[s0, s1, s2, s3, s4, s5, s6, s7, .val (.int i8), s9, s10, s11, s12, s13, s14, s15, s16] [])) target := by

  intro target kt
  show Steps p.tables e below (T0.setTop (mkF m 158 #[s0, s1, s2, s3, s4, s5, s6, s7, .val (.int i8), s9, s10, s11, s12, s13, s14, s15, s16] [])) _
  refine XS.iload X0.here hx rfl (hb hby at_158) rfl ?_
  show Steps p.tables e below (T0.setTop (mkF m 160 #[s0, s1, s2, s3, s4, s5, s6, s7, .val (.int i8), s9, s10, s11, s12, s13, s14, s15, s16] [(.int i8)])) _
  refine XS.ifYes X0.here hx rfl (pc0 := 160) (pc' := 167) rfl (hb hby at_160) rfl ((if0 _ _).trans (feq hc160).2) (by decide) (by decide) ?_
  show Steps p.tables e below (T0.setTop (mkF m 167 #[s0, s1, s2, s3, s4, s5, s6, s7, .val (.int i8), s9, s10, s11, s12, s13, s14, s15, s16] [])) _
  refine XS.iconst X0.here hx rfl (hb hby at_167) ?_
  exact kt
set_option maxRecDepth 65536 in
set_option maxHeartbeats 40000000 in
theorem own_s2_f {p : Program} {l : Launch} {e : Env} {R : Room} {s : State} {m : MethodId} {args : Array Value} {below : List Frame} {meth : Method} {c : Code} {T0 : State} {locs : List Loc} {cells slots : Nat} {Z : State} {a0 : Array Value} {s0 : Slot} {s1 : Slot} {s2 : Slot} {s3 : Slot} {s4 : Slot} {s5 : Slot} {s6 : Slot} {s7 : Slot} {i8 : Int32} {s9 : Slot} {s10 : Slot} {s11 : Slot} {s12 : Slot} {s13 : Slot} {s14 : Slot} {s15 : Slot} {s16 : Slot}
    (X0 : Stand p l e R s m args below meth c T0 locs cells slots) (hx : p.tables.exec = Jvm.exec) (hZ : Z.Warmed39 s.vm) (hw : ∀ d ∈ tables_1, d.before a0 Z = true) (hby : c.code = code) (hml : c.maxLocals = 17) (hown : s.vm.findClass "descry/read/TextPrefixIsEmptyPinLaw" = some m.cls) (hc160 : i8 = (0 : Int32)) :
      ∀ target, Steps p.tables e below (T0.setTop (mkF m 168 #[s0, s1, s2, s3, s4, s5, s6, s7, .val (.int i8), s9, s10, s11, s12, s13, s14, s15, s16] [(.int (1 : Int32))])) target → Steps p.tables e below (T0.setTop (mkF m 158 #[s0, s1, s2, s3, s4, s5, s6, s7, .val (.int i8), s9, s10, s11, s12, s13, s14, s15, s16] [])) target := by

  intro target kt
  show Steps p.tables e below (T0.setTop (mkF m 158 #[s0, s1, s2, s3, s4, s5, s6, s7, .val (.int i8), s9, s10, s11, s12, s13, s14, s15, s16] [])) _
  refine XS.iload X0.here hx rfl (hb hby at_158) rfl ?_
  show Steps p.tables e below (T0.setTop (mkF m 160 #[s0, s1, s2, s3, s4, s5, s6, s7, .val (.int i8), s9, s10, s11, s12, s13, s14, s15, s16] [(.int i8)])) _
  refine XS.ifNo X0.here hx rfl (hb hby at_160) rfl ((if0 _ _).trans (teq hc160).2) ?_
  show Steps p.tables e below (T0.setTop (mkF m 163 #[s0, s1, s2, s3, s4, s5, s6, s7, .val (.int i8), s9, s10, s11, s12, s13, s14, s15, s16] [])) _
  refine XS.iconst X0.here hx rfl (hb hby at_163) ?_
  show Steps p.tables e below (T0.setTop (mkF m 164 #[s0, s1, s2, s3, s4, s5, s6, s7, .val (.int i8), s9, s10, s11, s12, s13, s14, s15, s16] [(.int (1 : Int32))])) _
  refine XS.goto X0.here hx rfl (pc0 := 164) (pc' := 168) rfl (hb hby at_164) (by decide) (by decide) ?_
  exact kt
def own_x2 (i8 : Int32) : Int32 := (if i8 = (0 : Int32) then (1 : Int32) else (0 : Int32))
set_option maxRecDepth 65536 in
set_option maxHeartbeats 40000000 in
theorem own_s2 {p : Program} {l : Launch} {e : Env} {R : Room} {s : State} {m : MethodId} {args : Array Value} {below : List Frame} {meth : Method} {c : Code} {T0 : State} {locs : List Loc} {cells slots : Nat} {Z : State} {a0 : Array Value} {s0 : Slot} {s1 : Slot} {s2 : Slot} {s3 : Slot} {s4 : Slot} {s5 : Slot} {s6 : Slot} {s7 : Slot} {s9 : Slot} {s10 : Slot} {s11 : Slot} {s12 : Slot} {s13 : Slot} {s14 : Slot} {s15 : Slot} {s16 : Slot} {i8 : Int32}
    (X0 : Stand p l e R s m args below meth c T0 locs cells slots) (hx : p.tables.exec = Jvm.exec) (hZ : Z.Warmed39 s.vm) (hw : ∀ d ∈ tables_1, d.before a0 Z = true) (hby : c.code = code) (hml : c.maxLocals = 17) (hown : s.vm.findClass "descry/read/TextPrefixIsEmptyPinLaw" = some m.cls) :
      ∀ target, Steps p.tables e below (T0.setTop (mkF m 168 #[s0, s1, s2, s3, s4, s5, s6, s7, .val (.int i8), s9, s10, s11, s12, s13, s14, s15, s16] [(.int (own_x2 i8))])) target → Steps p.tables e below (T0.setTop (mkF m 158 #[s0, s1, s2, s3, s4, s5, s6, s7, .val (.int i8), s9, s10, s11, s12, s13, s14, s15, s16] [])) target := by
  intro target kt
  rw [own_x2] at kt
  by_cases hc160 : i8 = (0 : Int32)
  · rw [if_pos hc160] at kt
    exact own_s2_f X0 hx hZ hw hby hml hown hc160 target kt
  · rw [if_neg hc160] at kt
    exact own_s2_t X0 hx hZ hw hby hml hown hc160 target kt
set_option maxRecDepth 65536 in
set_option maxHeartbeats 40000000 in
theorem own_s3_t {p : Program} {l : Launch} {e : Env} {R : Room} {s : State} {m : MethodId} {args : Array Value} {below : List Frame} {meth : Method} {c : Code} {T0 : State} {locs : List Loc} {cells slots : Nat} {Z : State} {a0 : Array Value} {s0 : Slot} {s1 : Slot} {s2 : Slot} {s3 : Slot} {s4 : Slot} {s5 : Slot} {i6 : Int32} {s7 : Slot} {s8 : Slot} {s9 : Slot} {s10 : Slot} {s11 : Slot} {s12 : Slot} {s13 : Slot} {s14 : Slot} {s15 : Slot} {s16 : Slot}
    (X0 : Stand p l e R s m args below meth c T0 locs cells slots) (hx : p.tables.exec = Jvm.exec) (hZ : Z.Warmed39 s.vm) (hw : ∀ d ∈ tables_1, d.before a0 Z = true) (hby : c.code = code) (hml : c.maxLocals = 17) (hown : s.vm.findClass "descry/read/TextPrefixIsEmptyPinLaw" = some m.cls) (hc175 : ¬ (i6 = (0 : Int32))) :
      ∀ target, Steps p.tables e below (T0.setTop (mkF m 188 #[s0, s1, s2, s3, s4, s5, .val (.int i6), s7, s8, s9, s10, s11, s12, s13, s14, s15, s16] [(.int (0 : Int32))])) target → Steps p.tables e below (T0.setTop (mkF m 173 #[s0, s1, s2, s3, s4, s5, .val (.int i6), s7, s8, s9, s10, s11, s12, s13, s14, s15, s16] [])) target := by

  intro target kt
  show Steps p.tables e below (T0.setTop (mkF m 173 #[s0, s1, s2, s3, s4, s5, .val (.int i6), s7, s8, s9, s10, s11, s12, s13, s14, s15, s16] [])) _
  refine XS.iload X0.here hx rfl (hb hby at_173) rfl ?_
  show Steps p.tables e below (T0.setTop (mkF m 175 #[s0, s1, s2, s3, s4, s5, .val (.int i6), s7, s8, s9, s10, s11, s12, s13, s14, s15, s16] [(.int i6)])) _
  refine XS.ifYes X0.here hx rfl (pc0 := 175) (pc' := 187) rfl (hb hby at_175) rfl ((if0 _ _).trans (feq hc175).2) (by decide) (by decide) ?_
  show Steps p.tables e below (T0.setTop (mkF m 187 #[s0, s1, s2, s3, s4, s5, .val (.int i6), s7, s8, s9, s10, s11, s12, s13, s14, s15, s16] [])) _
  refine XS.iconst X0.here hx rfl (hb hby at_187) ?_
  exact kt
set_option maxRecDepth 65536 in
set_option maxHeartbeats 40000000 in
theorem own_s3_ft {p : Program} {l : Launch} {e : Env} {R : Room} {s : State} {m : MethodId} {args : Array Value} {below : List Frame} {meth : Method} {c : Code} {T0 : State} {locs : List Loc} {cells slots : Nat} {Z : State} {a0 : Array Value} {s0 : Slot} {s1 : Slot} {s2 : Slot} {s3 : Slot} {s4 : Slot} {s5 : Slot} {i6 : Int32} {s7 : Slot} {i8 : Int32} {s9 : Slot} {s10 : Slot} {s11 : Slot} {s12 : Slot} {s13 : Slot} {s14 : Slot} {s15 : Slot} {s16 : Slot}
    (X0 : Stand p l e R s m args below meth c T0 locs cells slots) (hx : p.tables.exec = Jvm.exec) (hZ : Z.Warmed39 s.vm) (hw : ∀ d ∈ tables_1, d.before a0 Z = true) (hby : c.code = code) (hml : c.maxLocals = 17) (hown : s.vm.findClass "descry/read/TextPrefixIsEmptyPinLaw" = some m.cls) (hc175 : i6 = (0 : Int32)) (hc180 : ¬ (i8 = (0 : Int32))) :
      ∀ target, Steps p.tables e below (T0.setTop (mkF m 188 #[s0, s1, s2, s3, s4, s5, .val (.int i6), s7, .val (.int i8), s9, s10, s11, s12, s13, s14, s15, s16] [(.int (0 : Int32))])) target → Steps p.tables e below (T0.setTop (mkF m 173 #[s0, s1, s2, s3, s4, s5, .val (.int i6), s7, .val (.int i8), s9, s10, s11, s12, s13, s14, s15, s16] [])) target := by

  intro target kt
  show Steps p.tables e below (T0.setTop (mkF m 173 #[s0, s1, s2, s3, s4, s5, .val (.int i6), s7, .val (.int i8), s9, s10, s11, s12, s13, s14, s15, s16] [])) _
  refine XS.iload X0.here hx rfl (hb hby at_173) rfl ?_
  show Steps p.tables e below (T0.setTop (mkF m 175 #[s0, s1, s2, s3, s4, s5, .val (.int i6), s7, .val (.int i8), s9, s10, s11, s12, s13, s14, s15, s16] [(.int i6)])) _
  refine XS.ifNo X0.here hx rfl (hb hby at_175) rfl ((if0 _ _).trans (teq hc175).2) ?_
  show Steps p.tables e below (T0.setTop (mkF m 178 #[s0, s1, s2, s3, s4, s5, .val (.int i6), s7, .val (.int i8), s9, s10, s11, s12, s13, s14, s15, s16] [])) _
  refine XS.iload X0.here hx rfl (hb hby at_178) rfl ?_
  show Steps p.tables e below (T0.setTop (mkF m 180 #[s0, s1, s2, s3, s4, s5, .val (.int i6), s7, .val (.int i8), s9, s10, s11, s12, s13, s14, s15, s16] [(.int i8)])) _
  refine XS.ifYes X0.here hx rfl (pc0 := 180) (pc' := 187) rfl (hb hby at_180) rfl ((if0 _ _).trans (feq hc180).2) (by decide) (by decide) ?_
  show Steps p.tables e below (T0.setTop (mkF m 187 #[s0, s1, s2, s3, s4, s5, .val (.int i6), s7, .val (.int i8), s9, s10, s11, s12, s13, s14, s15, s16] [])) _
  refine XS.iconst X0.here hx rfl (hb hby at_187) ?_
  exact kt
set_option maxRecDepth 65536 in
set_option maxHeartbeats 40000000 in
theorem own_s3_ff {p : Program} {l : Launch} {e : Env} {R : Room} {s : State} {m : MethodId} {args : Array Value} {below : List Frame} {meth : Method} {c : Code} {T0 : State} {locs : List Loc} {cells slots : Nat} {Z : State} {a0 : Array Value} {s0 : Slot} {s1 : Slot} {s2 : Slot} {s3 : Slot} {s4 : Slot} {s5 : Slot} {i6 : Int32} {s7 : Slot} {i8 : Int32} {s9 : Slot} {s10 : Slot} {s11 : Slot} {s12 : Slot} {s13 : Slot} {s14 : Slot} {s15 : Slot} {s16 : Slot}
    (X0 : Stand p l e R s m args below meth c T0 locs cells slots) (hx : p.tables.exec = Jvm.exec) (hZ : Z.Warmed39 s.vm) (hw : ∀ d ∈ tables_1, d.before a0 Z = true) (hby : c.code = code) (hml : c.maxLocals = 17) (hown : s.vm.findClass "descry/read/TextPrefixIsEmptyPinLaw" = some m.cls) (hc175 : i6 = (0 : Int32)) (hc180 : i8 = (0 : Int32)) :
      ∀ target, Steps p.tables e below (T0.setTop (mkF m 188 #[s0, s1, s2, s3, s4, s5, .val (.int i6), s7, .val (.int i8), s9, s10, s11, s12, s13, s14, s15, s16] [(.int (1 : Int32))])) target → Steps p.tables e below (T0.setTop (mkF m 173 #[s0, s1, s2, s3, s4, s5, .val (.int i6), s7, .val (.int i8), s9, s10, s11, s12, s13, s14, s15, s16] [])) target := by

  intro target kt
  show Steps p.tables e below (T0.setTop (mkF m 173 #[s0, s1, s2, s3, s4, s5, .val (.int i6), s7, .val (.int i8), s9, s10, s11, s12, s13, s14, s15, s16] [])) _
  refine XS.iload X0.here hx rfl (hb hby at_173) rfl ?_
  show Steps p.tables e below (T0.setTop (mkF m 175 #[s0, s1, s2, s3, s4, s5, .val (.int i6), s7, .val (.int i8), s9, s10, s11, s12, s13, s14, s15, s16] [(.int i6)])) _
  refine XS.ifNo X0.here hx rfl (hb hby at_175) rfl ((if0 _ _).trans (teq hc175).2) ?_
  show Steps p.tables e below (T0.setTop (mkF m 178 #[s0, s1, s2, s3, s4, s5, .val (.int i6), s7, .val (.int i8), s9, s10, s11, s12, s13, s14, s15, s16] [])) _
  refine XS.iload X0.here hx rfl (hb hby at_178) rfl ?_
  show Steps p.tables e below (T0.setTop (mkF m 180 #[s0, s1, s2, s3, s4, s5, .val (.int i6), s7, .val (.int i8), s9, s10, s11, s12, s13, s14, s15, s16] [(.int i8)])) _
  refine XS.ifNo X0.here hx rfl (hb hby at_180) rfl ((if0 _ _).trans (teq hc180).2) ?_
  show Steps p.tables e below (T0.setTop (mkF m 183 #[s0, s1, s2, s3, s4, s5, .val (.int i6), s7, .val (.int i8), s9, s10, s11, s12, s13, s14, s15, s16] [])) _
  refine XS.iconst X0.here hx rfl (hb hby at_183) ?_
  show Steps p.tables e below (T0.setTop (mkF m 184 #[s0, s1, s2, s3, s4, s5, .val (.int i6), s7, .val (.int i8), s9, s10, s11, s12, s13, s14, s15, s16] [(.int (1 : Int32))])) _
  refine XS.goto X0.here hx rfl (pc0 := 184) (pc' := 188) rfl (hb hby at_184) (by decide) (by decide) ?_
  exact kt
def own_x3 (i6 : Int32) (i8 : Int32) : Int32 := (if i6 = (0 : Int32) then (if i8 = (0 : Int32) then (1 : Int32) else (0 : Int32)) else (0 : Int32))
set_option maxRecDepth 65536 in
set_option maxHeartbeats 40000000 in
theorem own_s3 {p : Program} {l : Launch} {e : Env} {R : Room} {s : State} {m : MethodId} {args : Array Value} {below : List Frame} {meth : Method} {c : Code} {T0 : State} {locs : List Loc} {cells slots : Nat} {Z : State} {a0 : Array Value} {s0 : Slot} {s1 : Slot} {s2 : Slot} {s3 : Slot} {s4 : Slot} {s5 : Slot} {s7 : Slot} {s9 : Slot} {s10 : Slot} {s11 : Slot} {s12 : Slot} {s13 : Slot} {s14 : Slot} {s15 : Slot} {s16 : Slot} {i6 : Int32} {i8 : Int32}
    (X0 : Stand p l e R s m args below meth c T0 locs cells slots) (hx : p.tables.exec = Jvm.exec) (hZ : Z.Warmed39 s.vm) (hw : ∀ d ∈ tables_1, d.before a0 Z = true) (hby : c.code = code) (hml : c.maxLocals = 17) (hown : s.vm.findClass "descry/read/TextPrefixIsEmptyPinLaw" = some m.cls) :
      ∀ target, Steps p.tables e below (T0.setTop (mkF m 188 #[s0, s1, s2, s3, s4, s5, .val (.int i6), s7, .val (.int i8), s9, s10, s11, s12, s13, s14, s15, s16] [(.int (own_x3 i6 i8))])) target → Steps p.tables e below (T0.setTop (mkF m 173 #[s0, s1, s2, s3, s4, s5, .val (.int i6), s7, .val (.int i8), s9, s10, s11, s12, s13, s14, s15, s16] [])) target := by
  intro target kt
  rw [own_x3] at kt
  by_cases hc175 : i6 = (0 : Int32)
  · rw [if_pos hc175] at kt
    by_cases hc180 : i8 = (0 : Int32)
    · rw [if_pos hc180] at kt
      exact own_s3_ff X0 hx hZ hw hby hml hown hc175 hc180 target kt
    · rw [if_neg hc180] at kt
      exact own_s3_ft X0 hx hZ hw hby hml hown hc175 hc180 target kt
  · rw [if_neg hc175] at kt
    exact own_s3_t X0 hx hZ hw hby hml hown hc175 target kt
theorem own_lim (p1 : Int32) : 1 ≤ ((1 : Int32) + (p1 &&& (3 : Int32))).toInt ∧ ((1 : Int32) + (p1 &&& (3 : Int32))).toInt ≤ 4 ∧ ¬ ((1 : Int32) + (p1 &&& (3 : Int32)) < 0) ∧ ((1 : Int32) + (p1 &&& (3 : Int32))).toNatClampNeg ≤ 4 := by
  have m := c_mask p1 3 2 (by decide) (by decide)
  have e2 : ((2 ^ 2 : Nat) : Int) = 4 := by decide
  rw [e2] at m
  have a := c_iadd 1 (p1 &&& 3)
  have r := rng32 (1 + (p1 &&& 3))
  have e1 : (1 : Int32).toInt = 1 := rfl
  have e0 : (0 : Int32).toInt = 0 := rfl
  have hn : ¬ ((1 : Int32) + (p1 &&& (3 : Int32)) < 0) := by rw [Int32.lt_iff_toInt_lt]; omega
  have q := nat_of hn
  exact ⟨by omega, by omega, hn, by omega⟩
theorem own_on (p : Int32) : 0 ≤ (p &&& (3 : Int32)).toInt ∧ (p &&& (3 : Int32)).toInt ≤ 3 ∧ 0 ≤ ((p.toUInt32 >>> ((2 : Int32) &&& 31).toUInt32).toInt32 &&& (7 : Int32)).toInt ∧ ((p.toUInt32 >>> ((2 : Int32) &&& 31).toUInt32).toInt32 &&& (7 : Int32)).toInt ≤ 7 := by
  have m := c_mask p 3 2 (by decide) (by decide)
  have e2 : ((2 ^ 2 : Nat) : Int) = 4 := by decide
  have m' := c_mask ((p.toUInt32 >>> ((2 : Int32) &&& 31).toUInt32).toInt32) 7 3 (by decide) (by decide)
  have e3 : ((2 ^ 3 : Nat) : Int) = 8 := by decide
  rw [e2] at m
  rw [e3] at m'
  omega
theorem own_ok (z o n len : Int32) (z1 : 1 ≤ z.toInt) (z2 : z.toInt ≤ 4) (o1 : 0 ≤ o.toInt) (o2 : o.toInt ≤ 3) (n1 : 0 ≤ n.toInt) (n2 : n.toInt ≤ 7) (l1 : 0 ≤ len.toInt) (l2 : len.toInt ≤ z.toInt) :
    ¬ o < 0 ∧ ¬ len < 0 ∧ ¬ own_min n (z - len) < 0 ∧ o.toNatClampNeg + (own_min n (z - len)).toNatClampNeg ≤ ((12 : Int32)).toNatClampNeg ∧ len.toNatClampNeg + (own_min n (z - len)).toNatClampNeg ≤ z.toNatClampNeg ∧ len.toNatClampNeg + (own_min n (z - len)).toNatClampNeg ≤ 4 ∧
    0 ≤ (len + own_min n (z - len)).toInt ∧ (len + own_min n (z - len)).toInt ≤ z.toInt ∧ (len + own_min n (z - len) = 0 ↔ len = 0 ∧ n = 0) := by
  have e0 : (0 : Int32).toInt = 0 := rfl
  have s := c_isub z len
  have rs := rng32 (z - len)
  have hs : (z - len).toInt = z.toInt - len.toInt := by omega
  have hm : (own_min n (z - len)).toInt = if z.toInt - len.toInt < n.toInt then z.toInt - len.toInt else n.toInt := by
    unfold own_min
    rw [← hs]
    by_cases h : z - len < n
    · rw [if_pos h, if_pos (Int32.lt_iff_toInt_lt.mp h)]
    · rw [if_neg h, if_neg (fun q => h (Int32.lt_iff_toInt_lt.mpr q))]
  have a := c_iadd len (own_min n (z - len))
  have ra := rng32 (len + own_min n (z - len))
  have hmr : 0 ≤ (own_min n (z - len)).toInt ∧ (own_min n (z - len)).toInt ≤ z.toInt - len.toInt := by
    rw [hm]; split <;> omega
  have ha : (len + own_min n (z - len)).toInt = len.toInt + (own_min n (z - len)).toInt := by omega
  have t1 : ¬ o < 0 := by rw [Int32.lt_iff_toInt_lt]; omega
  have t2 : ¬ len < 0 := by rw [Int32.lt_iff_toInt_lt]; omega
  have t3 : ¬ own_min n (z - len) < 0 := by rw [Int32.lt_iff_toInt_lt]; omega
  have t4 : ¬ z < 0 := by rw [Int32.lt_iff_toInt_lt]; omega
  have w1 := nat_of t1
  have w2 := nat_of t2
  have w3 := nat_of t3
  have w4 := nat_of t4
  have w5 : ((12 : Int32)).toNatClampNeg = 12 := by decide
  refine ⟨t1, t2, t3, by omega, by omega, by omega, by omega, by omega, ?_⟩
  rw [← Int32.toInt_inj, ← Int32.toInt_inj, ← Int32.toInt_inj, ha, e0, hm]
  split <;> omega
theorem own_f1 {n m : Int32} (h : m = 0 ↔ (0 : Int32) = 0 ∧ n = 0) : own_emp m = own_x1 n := by
  have h : m = 0 ↔ n = 0 := h.trans ⟨fun q => q.2, fun q => ⟨rfl, q⟩⟩
  unfold own_emp own_x1
  by_cases q : n = 0
  · rw [if_pos (h.mpr q), if_pos q]
  · rw [if_neg (fun r => q (h.mp r)), if_neg q]
theorem own_f2 {n m : Int32} (h : m = 0 ↔ (0 : Int32) = 0 ∧ n = 0) : own_emp m = own_x2 n := by
  have h : m = 0 ↔ n = 0 := h.trans ⟨fun q => q.2, fun q => ⟨rfl, q⟩⟩
  unfold own_emp own_x2
  by_cases q : n = 0
  · rw [if_pos (h.mpr q), if_pos q]
  · rw [if_neg (fun r => q (h.mp r)), if_neg q]
theorem own_f3 {n n' m m' : Int32} (h : m = 0 ↔ (0 : Int32) = 0 ∧ n = 0) (h' : m' = 0 ↔ m = 0 ∧ n' = 0) : own_emp m' = own_x3 n n' := by
  have h : m = 0 ↔ n = 0 := h.trans ⟨fun q => q.2, fun q => ⟨rfl, q⟩⟩
  have h' : m' = 0 ↔ n = 0 ∧ n' = 0 := by rw [h', h]
  unfold own_emp own_x3
  by_cases q : n = 0
  · rw [if_pos q]
    by_cases q' : n' = 0
    · rw [if_pos (h'.mpr ⟨q, q'⟩), if_pos q']
    · rw [if_neg (fun r => q' (h'.mp r).2), if_neg q']
  · rw [if_neg q, if_neg (fun r => q (h'.mp r).1)]
theorem pn_0 : plainName "descry/read/TextPrefixIsEmptyPinLaw" = true := by first | (simp [plainName, overriddenIn]; done) | decide +kernel
theorem pd_0_0 : parseMethodDescriptor "(I)V" = some ⟨[.int], none⟩ := by decide +kernel
theorem pd_0_2 : parseMethodDescriptor "()Z" = some ⟨[], some .boolean⟩ := by decide +kernel
theorem pd_0_3 : parseMethodDescriptor "([CII)V" = some ⟨[(.array .char), .int, .int], none⟩ := by decide +kernel
theorem pd_0_1 : parseMethodDescriptor "()V" = some ⟨[], none⟩ := by decide +kernel
theorem ef_0 (m : MethodId) (x0 : Int32) (x1 : Int32) (x2 : Int32) (x3 : Int32) : entryFrame m #[(.int x0), (.int x1), (.int x2), (.int x3)] maxLocals = mkF m 0 #[.val (.int x0), .val (.int x1), .val (.int x2), .val (.int x3), .unset, .unset, .unset, .unset, .unset, .unset, .unset, .unset, .unset, .unset, .unset, .unset, .unset] [] := by first | (simp [entryFrame, mkF, argsToLocals, Value.category, maxLocals]; done) | rfl
def Q0 (Z : State) (p1 : Int32) (p2 : Int32) (p3 : Int32) (p4 : Int32) (h0 : Heap) (n0 : Nat) (v : Option Value) (h : Heap) (L : List Loc) : Prop := v = some (.int (1 : Int32)) ∧ Fr n0 L
set_option maxRecDepth 65536 in
set_option maxHeartbeats 40000000 in
theorem rm0_c (l : Launch) (Z : State) (a0 : Array Value) (hw : ∀ d ∈ tables_1, d.before a0 Z = true) (ws : List Jvm.Cond) (p1 : Int32) (p2 : Int32) (p3 : Int32) (p4 : Int32) (h0 : Heap) (n0 : Nat) (Z0 : n0 ≤ h0.size) (hc36 : ¬ ((p4 &&& (1 : Int32)) = (0 : Int32))) :
    MetFree l x (head1 (Jvm.Cond.code x code maxLocals ret :: ws) room_1) (fun a U => a = #[(.int p1), (.int p2), (.int p3), (.int p4)] ∧ Z.Warmed39 U.vm ∧ U.heap = h0) (fun _ _ _ _ _ => True) (fun _ U o U' => ∃ v L, o = .returned v ∧ Q0 Z p1 p2 p3 p4 h0 n0 v U'.heap L ∧ FrameEnd U o U' L room_1.cells room_1.slots) := by
  refine MetFree.of_bodySF (plainFor_of_name pn_0) hisR ?_
  intro p e s m args below meth c s₁ Bd hml0 hP hK
  obtain ⟨rfl, hZ, hh⟩ := hP
  have hx := Bd.exec
  have hby := Bd.bytes
  have hml : c.maxLocals = 17 := hml0
  have hown : s.vm.findClass "descry/read/TextPrefixIsEmptyPinLaw" = some m.cls := findClass_of_methodNamed Bd.named
  have hnm := (name_of_methodNamed Bd.named Bd.method).1
  have X0 : Stand p l e room_1 s m #[(.int p1), (.int p2), (.int p3), (.int p4)] below meth c s₁ [] 0 0 := Stand.of_body Bd
  have e0 : s₁.heap = h0 := by rw [← hh, Bd.state]; rfl
  have N0 := Fr.nil n0
  obtain ⟨z1, z2, z3, z4⟩ := own_lim p1
  have on1 := own_on p2
  have on2 := own_on p3
  have pre0 : ∀ t, Steps p.tables e below (s₁.setTop (mkF m 0 #[.val (.int p1), .val (.int p2), .val (.int p3), .val (.int p4), .unset, .unset, .unset, .unset, .unset, .unset, .unset, .unset, .unset, .unset, .unset, .unset, .unset] [])) t → Steps p.tables e below (s₁.setTop (entryFrame m #[(.int p1), (.int p2), (.int p3), (.int p4)] maxLocals)) t := fun t k => castTop (ef_0 m p1 p2 p3 p4) k
  obtain ⟨T5, h5, k5, X5, e5, E5, A5, st5⟩ := newP X0 hx hZ (hw _ (List.mem_of_getElem? (i := 0) rfl)) e0 (g := (mkF m 48 #[.val (.int p1), .val (.int p2), .val (.int p3), .val (.int p4), .val (.int ((1 : Int32) + (p1 &&& (3 : Int32)))), .val (.int (p2 &&& (3 : Int32))), .val (.int (((p2.toUInt32 >>> ((2 : Int32) &&& 31).toUInt32).toInt32) &&& (7 : Int32))), .val (.int (p3 &&& (3 : Int32))), .val (.int (((p3.toUInt32 >>> ((2 : Int32) &&& 31).toUInt32).toInt32) &&& (7 : Int32))), .val (.int (1 : Int32)), .unset, .unset, .unset, .unset, .unset, .unset, .unset] [(.int (12 : Int32))])) rfl (hb hby at_48) rfl (by decide) (cap := 12) (by decide) (by decide) (by decide) (by decide)
  obtain ⟨b5, g5⟩ : ∃ z, z = h0.size := ⟨_, rfl⟩
  rw [← g5] at A5 st5
  have V_b5 : Arv Z h5 b5 k5 .char (12 : Int32) [(.int (0 : Int32)), (.int (0 : Int32)), (.int (0 : Int32)), (.int (0 : Int32)), (.int (0 : Int32)), (.int (0 : Int32)), (.int (0 : Int32)), (.int (0 : Int32)), (.int (0 : Int32)), (.int (0 : Int32)), (.int (0 : Int32)), (.int (0 : Int32))] (.int (0 : Int32)) := (Arv.new A5 (by decide)).pad (pad_rep [] (.int (0 : Int32)) 12)
  have g_b5 : n0 ≤ b5 := Nat.le_trans Z0 (Nat.le_of_eq g5.symm)
  have sz_b5 : h0.size ≤ b5 := (Nat.le_trans (Keep.refl h0 []).1 (Nat.le_of_eq g5.symm))
  have K5 : Keep h0 h5 [] := (Keep.refl h0 []).ext E5
  obtain ⟨cl_b5_63, Ar_b5, q_b5, S_b5, N_b5, H_b5, G_b5⟩ := V_b5
  have hin63 : ¬ ((0 : Int32) < 0 ∨ cl_b5_63.slots.size ≤ ((0 : Int32)).toNatClampNeg) := inb_of S_b5 ⟨by decide, by decide⟩
  obtain ⟨T6, h6, X6, e6, W6, st6⟩ := stC X5 hx hZ e5 Ar_b5 (j := (0 : Int32)) hin63 (g := (mkF m 63 #[.val (.int p1), .val (.int p2), .val (.int p3), .val (.int p4), .val (.int ((1 : Int32) + (p1 &&& (3 : Int32)))), .val (.int (p2 &&& (3 : Int32))), .val (.int (((p2.toUInt32 >>> ((2 : Int32) &&& 31).toUInt32).toInt32) &&& (7 : Int32))), .val (.int (p3 &&& (3 : Int32))), .val (.int (((p3.toUInt32 >>> ((2 : Int32) &&& 31).toUInt32).toInt32) &&& (7 : Int32))), .val (.int (1 : Int32)), .val (.ref b5), .unset, .unset, .unset, .unset, .unset, .unset] [(.int ((((p4.toUInt32 >>> ((1 : Int32) &&& 31).toUInt32).toInt32) &&& (255 : Int32)).toUInt32.toUInt16.toUInt32.toInt32)), (.int (0 : Int32)), (.ref b5)])) rfl rfl (hb hby at_63)
  have V_b5_6 := Arv.set Ar_b5 q_b5 S_b5 N_b5 H_b5 G_b5 (fits_nar_char _) W6 0 rfl (Nat.le_of_ble_eq_true rfl)
  have K6 : Keep h0 h6 [] := K5.wr W6 (Or.inr sz_b5)
  have N6 := Fr.snoc X6 N0 g_b5
  obtain ⟨cl_b5_76, Ar_b5, q_b5, S_b5, N_b5, H_b5, G_b5⟩ := V_b5_6
  have hin76 : ¬ ((5 : Int32) < 0 ∨ cl_b5_76.slots.size ≤ ((5 : Int32)).toNatClampNeg) := inb_of S_b5 ⟨by decide, by decide⟩
  obtain ⟨T7, h7, X7, e7, W7, st7⟩ := stC X6 hx hZ e6 Ar_b5 (j := (5 : Int32)) hin76 (g := (mkF m 76 #[.val (.int p1), .val (.int p2), .val (.int p3), .val (.int p4), .val (.int ((1 : Int32) + (p1 &&& (3 : Int32)))), .val (.int (p2 &&& (3 : Int32))), .val (.int (((p2.toUInt32 >>> ((2 : Int32) &&& 31).toUInt32).toInt32) &&& (7 : Int32))), .val (.int (p3 &&& (3 : Int32))), .val (.int (((p3.toUInt32 >>> ((2 : Int32) &&& 31).toUInt32).toInt32) &&& (7 : Int32))), .val (.int (1 : Int32)), .val (.ref b5), .unset, .unset, .unset, .unset, .unset, .unset] [(.int ((((p4.toUInt32 >>> ((9 : Int32) &&& 31).toUInt32).toInt32) &&& (255 : Int32)).toUInt32.toUInt16.toUInt32.toInt32)), (.int (5 : Int32)), (.ref b5)])) rfl rfl (hb hby at_76)
  have V_b5_7 := Arv.set Ar_b5 q_b5 S_b5 N_b5 H_b5 G_b5 (fits_nar_char _) W7 5 rfl (Nat.le_of_ble_eq_true rfl)
  have K7 : Keep h0 h7 [] := K6.wr W7 (Or.inr sz_b5)
  have N7 := Fr.snoc X7 N6 g_b5
  obtain ⟨T8, h8, X8, e8, E8, A8, D8, -, st8⟩ := newO X7 hx hZ hown (hw _ (List.mem_of_getElem? (i := 1) rfl)) (hw _ (List.mem_of_getElem? (i := 2) rfl)) (hw _ (List.mem_of_getElem? (i := 3) rfl)) e7 (g := (mkF m 77 #[.val (.int p1), .val (.int p2), .val (.int p3), .val (.int p4), .val (.int ((1 : Int32) + (p1 &&& (3 : Int32)))), .val (.int (p2 &&& (3 : Int32))), .val (.int (((p2.toUInt32 >>> ((2 : Int32) &&& 31).toUInt32).toInt32) &&& (7 : Int32))), .val (.int (p3 &&& (3 : Int32))), .val (.int (((p3.toUInt32 >>> ((2 : Int32) &&& 31).toUInt32).toInt32) &&& (7 : Int32))), .val (.int (1 : Int32)), .val (.ref b5), .unset, .unset, .unset, .unset, .unset, .unset] [])) rfl (hb hby at_77) (by decide) (by decide)
  obtain ⟨b8, g8⟩ : ∃ z, z = h7.size := ⟨_, rfl⟩
  rw [← g8] at A8 D8 st8
  have F_lock_b8 : Fld Z h8 b8 "java/io/Writer" "lock" "Ljava/lang/Object;" .null := D8 (Or.inl (hw _ (List.mem_of_getElem? (i := 16) rfl))) (ty := (.object "java/lang/Object")) (by decide)
  have F_held_b8 : Fld Z h8 b8 "descry/read/TextPrefix" "held" "[C" .null := D8 (Or.inr (hw _ (List.mem_of_getElem? (i := 18) rfl))) (ty := (.array .char)) (by decide)
  have F_length_b8 : Fld Z h8 b8 "descry/read/TextPrefix" "length" "I" (.int (0 : Int32)) := D8 (Or.inl (hw _ (List.mem_of_getElem? (i := 25) rfl))) (ty := .int) (by decide)
  have F_cut_b8 : Fld Z h8 b8 "descry/read/TextPrefix" "cut" "Z" (.int (0 : Int32)) := D8 (Or.inl (hw _ (List.mem_of_getElem? (i := 40) rfl))) (ty := .boolean) (by decide)
  have E_b8 := A8
  have g_b8 : n0 ≤ b8 := Nat.le_trans (Nat.le_trans (Nat.le_trans (Nat.le_trans Z0 E5.1) (Keep.of_wr W6).1) (Keep.of_wr W7).1) (Nat.le_of_eq g8.symm)
  have sz_b8 : h0.size ≤ b8 := (Nat.le_trans K7.1 (Nat.le_of_eq g8.symm))
  have K8 : Keep h0 h8 [] := K7.ext E8
  obtain ⟨_, _, ⟨T9, L9, k9, n9⟩, -, X9, ⟨Lc9, hQ9, l9, y9, z9⟩, st9⟩ := X8.specialBack hx (y := (⟨"descry/read/TextPrefix", "<init>", "(I)V"⟩ : MethodName)) rfl hown (mvT hZ (hw _ (List.mem_of_getElem? (i := 4) rfl))) (mvT hZ (hw _ (List.mem_of_getElem? (i := 5) rfl))) (mvT hZ (hw _ (List.mem_of_getElem? (i := 6) rfl))) (by decide) (backOf (W := 1) (rm1 l Z a0 hw [] b8 ((1 : Int32) + (p1 &&& (3 : Int32))) h8 n0 (Nat.le_trans Z0 K8.1) E_b8 F_held_b8 g_b8 F_lock_b8 F_length_b8 F_cut_b8 z3 z4) hZ (hw _ (List.mem_of_getElem? (i := 6) rfl)) (hw _ (List.mem_of_getElem? (i := 3) rfl)) (by decide) (by decide)) (g := (mkF m 83 #[.val (.int p1), .val (.int p2), .val (.int p3), .val (.int p4), .val (.int ((1 : Int32) + (p1 &&& (3 : Int32)))), .val (.int (p2 &&& (3 : Int32))), .val (.int (((p2.toUInt32 >>> ((2 : Int32) &&& 31).toUInt32).toInt32) &&& (7 : Int32))), .val (.int (p3 &&& (3 : Int32))), .val (.int (((p3.toUInt32 >>> ((2 : Int32) &&& 31).toUInt32).toInt32) &&& (7 : Int32))), .val (.int (1 : Int32)), .val (.ref b5), .unset, .unset, .unset, .unset, .unset, .unset] [(.int ((1 : Int32) + (p1 &&& (3 : Int32)))), (.ref b8), (.ref b8)])) rfl (by rw [hml]; rfl) (Steps.refl _) (a := b8) (argsL := [(.int ((1 : Int32) + (p1 &&& (3 : Int32))))]) (rest := [(.ref b8)]) (lenOf pd_0_0 rfl) rfl (by show 2 * 0 + _ ≤ _; exact Nat.le_of_eq rfl) (hb hby at_83) (fun _ _ => ⟨rfl, e8, (Nat.le_of_ble_eq_true rfl), (Nat.le_of_ble_eq_true rfl)⟩)
  dsimp only [Pt.U, Pt.locs, Pt.cells, Pt.slots] at X9 l9 y9 z9 st9 hQ9
  subst l9 y9 z9
  obtain ⟨rfl, N9q, K9, wh, kh, szh, I9⟩ := hQ9
  have Zz9 : n0 ≤ T9.heap.size := Nat.le_trans (Nat.le_trans Z0 K8.1) K9.1
  have g_wh : n0 ≤ wh := Nat.le_trans (Nat.le_trans Z0 K8.1) szh
  have ne1 : b8 ≠ wh := Nat.ne_of_lt (Nat.lt_of_lt_of_le E_b8.lt szh)
  have lt57 : b5 < h7.size := V_b5_7.lt
  have ne58 : b5 ≠ b8 := Nat.ne_of_lt (by rw [g8]; exact lt57)
  have ne5w : b5 ≠ wh := Nat.ne_of_lt (Nat.lt_of_lt_of_le (Nat.lt_of_lt_of_le lt57 E8.1) szh)
  have nin5 : b5 ∉ [b8, wh] := ninS ne58 (ninS ne5w nin0)
  have V9 := (V_b5_7.ext E8).keep K9 (ninS ne58 nin0)
  have N9 := Fr.app N7 N9q
  obtain ⟨cq10, kq10, q10a, q10b, q10c⟩ := isOf hZ rfl I9.1
  obtain ⟨_, _, ⟨T10, L10, k10, n10⟩, -, X10, ⟨Lc10, hQ10, l10, y10, z10⟩, st10⟩ := X9.virtualBack hx (y := (⟨"descry/read/TextPrefix", "isEmpty", "()Z"⟩ : MethodName)) (z := (⟨"descry/read/TextPrefix", "isEmpty", "()Z"⟩ : MethodName)) hown (mvT hZ (hw _ (List.mem_of_getElem? (i := 19) rfl))) (mvT hZ (hw _ (List.mem_of_getElem? (i := 20) rfl))) (notFace_of_selects (args := #[]) (mvT hZ (hw _ (List.mem_of_getElem? (i := 22) rfl)))) (mvT hZ (hw _ (List.mem_of_getElem? (i := 22) rfl))) (mvT hZ (hw _ (List.mem_of_getElem? (i := 21) rfl))) (by decide) (backOf (W := 0) (rm4 l Z a0 hw [] b8 (0 : Int32) T9.heap n0 Zz9 I9.2.2.1) hZ (hw _ (List.mem_of_getElem? (i := 23) rfl)) (hw _ (List.mem_of_getElem? (i := 3) rfl)) (by decide) (by decide)) q10a q10c (g := (mkF m 90 #[.val (.int p1), .val (.int p2), .val (.int p3), .val (.int p4), .val (.int ((1 : Int32) + (p1 &&& (3 : Int32)))), .val (.int (p2 &&& (3 : Int32))), .val (.int (((p2.toUInt32 >>> ((2 : Int32) &&& 31).toUInt32).toInt32) &&& (7 : Int32))), .val (.int (p3 &&& (3 : Int32))), .val (.int (((p3.toUInt32 >>> ((2 : Int32) &&& 31).toUInt32).toInt32) &&& (7 : Int32))), .val (.int (1 : Int32)), .val (.ref b5), .val (.ref b8), .unset, .unset, .unset, .unset, .unset] [(.ref b8)])) rfl (by rw [hml]; rfl) (Steps.refl _) (argsL := []) (rest := []) (lenOf pd_0_2 rfl) rfl (by show 2 * 0 + _ ≤ _; exact Nat.le_of_eq rfl) (hb hby at_90) (fun _ _ => ⟨rfl, rfl, (Nat.le_of_ble_eq_true rfl), (Nat.le_of_ble_eq_true rfl)⟩)
  dsimp only [Pt.U, Pt.locs, Pt.cells, Pt.slots] at X10 l10 y10 z10 st10 hQ10
  subst l10 y10 z10
  obtain ⟨rfl, N10q, e10⟩ := hQ10
  have I10 : own_I Z T10.heap b8 wh kh ((1 : Int32) + (p1 &&& (3 : Int32))) (0 : Int32) := by rw [e10]; exact I9
  have Zz10 : n0 ≤ T10.heap.size := by rw [e10]; exact Zz9
  have V10 := V9
  rw [← e10] at V10
  have N10 := Fr.app N9 N10q
  obtain ⟨cq11, kq11, q11a, q11b, q11c⟩ := isOf hZ rfl I10.1
  have on11 := own_ok ((1 : Int32) + (p1 &&& (3 : Int32))) (p2 &&& (3 : Int32)) ((p2.toUInt32 >>> ((2 : Int32) &&& 31).toUInt32).toInt32 &&& (7 : Int32)) (0 : Int32) z1 z2 on1.1 on1.2.1 on1.2.2.1 on1.2.2.2 (by decide) (Int.le_trans (by decide : (0 : Int32).toInt ≤ 1) z1)
  obtain ⟨_, _, ⟨T11, L11, k11, n11⟩, -, X11, ⟨Lc11, hQ11, l11, y11, z11⟩, st11⟩ := X10.virtualBack hx (y := (⟨"descry/read/TextPrefix", "write", "([CII)V"⟩ : MethodName)) (z := (⟨"descry/read/TextPrefix", "write", "([CII)V"⟩ : MethodName)) hown (mvT hZ (hw _ (List.mem_of_getElem? (i := 26) rfl))) (mvT hZ (hw _ (List.mem_of_getElem? (i := 27) rfl))) (notFace_of_selects (args := #[]) (mvT hZ (hw _ (List.mem_of_getElem? (i := 29) rfl)))) (mvT hZ (hw _ (List.mem_of_getElem? (i := 29) rfl))) (mvT hZ (hw _ (List.mem_of_getElem? (i := 28) rfl))) (by decide) (backOf (W := 0) (rm5 l Z a0 hw [] b8 b5 (p2 &&& (3 : Int32)) (((p2.toUInt32 >>> ((2 : Int32) &&& 31).toUInt32).toInt32) &&& (7 : Int32)) wh kh ((1 : Int32) + (p1 &&& (3 : Int32))) (0 : Int32) _ (12 : Int32) _ T10.heap n0 Zz10 I10 V10 g_b8 g_wh ne1 on11.1 on11.2.1 on11.2.2.1 on11.2.2.2.1 on11.2.2.2.2.1 on11.2.2.2.2.2.1) hZ (hw _ (List.mem_of_getElem? (i := 30) rfl)) (hw _ (List.mem_of_getElem? (i := 3) rfl)) (by decide) (by decide)) q11a q11c (g := (mkF m 103 #[.val (.int p1), .val (.int p2), .val (.int p3), .val (.int p4), .val (.int ((1 : Int32) + (p1 &&& (3 : Int32)))), .val (.int (p2 &&& (3 : Int32))), .val (.int (((p2.toUInt32 >>> ((2 : Int32) &&& 31).toUInt32).toInt32) &&& (7 : Int32))), .val (.int (p3 &&& (3 : Int32))), .val (.int (((p3.toUInt32 >>> ((2 : Int32) &&& 31).toUInt32).toInt32) &&& (7 : Int32))), .val (.int (1 : Int32)), .val (.ref b5), .val (.ref b8), .val (.int (own_emp (0 : Int32))), .unset, .unset, .unset, .unset] [(.int (((p2.toUInt32 >>> ((2 : Int32) &&& 31).toUInt32).toInt32) &&& (7 : Int32))), (.int (p2 &&& (3 : Int32))), (.ref b5), (.ref b8)])) rfl (by rw [hml]; rfl) (Steps.refl _) (argsL := [(.ref b5), (.int (p2 &&& (3 : Int32))), (.int (((p2.toUInt32 >>> ((2 : Int32) &&& 31).toUInt32).toInt32) &&& (7 : Int32)))]) (rest := []) (lenOf pd_0_3 rfl) rfl (by show 2 * 0 + _ ≤ _; exact Nat.le_of_eq rfl) (hb hby at_103) (fun _ _ => ⟨rfl, rfl, (Nat.le_of_ble_eq_true rfl), (Nat.le_of_ble_eq_true rfl)⟩)
  dsimp only [Pt.U, Pt.locs, Pt.cells, Pt.slots] at X11 l11 y11 z11 st11 hQ11
  subst l11 y11 z11
  obtain ⟨rfl, N11q, K11, I11⟩ := hQ11
  have Zz11 : n0 ≤ T11.heap.size := Nat.le_trans Zz10 K11.1
  have V11 := V10.keep K11 nin5
  have N11 := Fr.app N10 N11q
  obtain ⟨cq12, kq12, q12a, q12b, q12c⟩ := isOf hZ rfl I11.1
  obtain ⟨_, _, ⟨T12, L12, k12, n12⟩, -, X12, ⟨Lc12, hQ12, l12, y12, z12⟩, st12⟩ := X11.virtualBack hx (y := (⟨"descry/read/TextPrefix", "isEmpty", "()Z"⟩ : MethodName)) (z := (⟨"descry/read/TextPrefix", "isEmpty", "()Z"⟩ : MethodName)) hown (mvT hZ (hw _ (List.mem_of_getElem? (i := 19) rfl))) (mvT hZ (hw _ (List.mem_of_getElem? (i := 20) rfl))) (notFace_of_selects (args := #[]) (mvT hZ (hw _ (List.mem_of_getElem? (i := 22) rfl)))) (mvT hZ (hw _ (List.mem_of_getElem? (i := 22) rfl))) (mvT hZ (hw _ (List.mem_of_getElem? (i := 21) rfl))) (by decide) (backOf (W := 0) (rm4 l Z a0 hw [] b8 ((0 : Int32) + (own_min ((p2.toUInt32 >>> ((2 : Int32) &&& 31).toUInt32).toInt32 &&& (7 : Int32)) (((1 : Int32) + (p1 &&& (3 : Int32))) - (0 : Int32)))) T11.heap n0 Zz11 I11.2.2.1) hZ (hw _ (List.mem_of_getElem? (i := 23) rfl)) (hw _ (List.mem_of_getElem? (i := 3) rfl)) (by decide) (by decide)) q12a q12c (g := (mkF m 108 #[.val (.int p1), .val (.int p2), .val (.int p3), .val (.int p4), .val (.int ((1 : Int32) + (p1 &&& (3 : Int32)))), .val (.int (p2 &&& (3 : Int32))), .val (.int (((p2.toUInt32 >>> ((2 : Int32) &&& 31).toUInt32).toInt32) &&& (7 : Int32))), .val (.int (p3 &&& (3 : Int32))), .val (.int (((p3.toUInt32 >>> ((2 : Int32) &&& 31).toUInt32).toInt32) &&& (7 : Int32))), .val (.int (1 : Int32)), .val (.ref b5), .val (.ref b8), .val (.int (own_emp (0 : Int32))), .unset, .unset, .unset, .unset] [(.ref b8)])) rfl (by rw [hml]; rfl) (Steps.refl _) (argsL := []) (rest := []) (lenOf pd_0_2 rfl) rfl (by show 2 * 0 + _ ≤ _; exact Nat.le_of_eq rfl) (hb hby at_108) (fun _ _ => ⟨rfl, rfl, (Nat.le_of_ble_eq_true rfl), (Nat.le_of_ble_eq_true rfl)⟩)
  dsimp only [Pt.U, Pt.locs, Pt.cells, Pt.slots] at X12 l12 y12 z12 st12 hQ12
  subst l12 y12 z12
  obtain ⟨rfl, N12q, e12⟩ := hQ12
  have I12 : own_I Z T12.heap b8 wh kh ((1 : Int32) + (p1 &&& (3 : Int32))) ((0 : Int32) + (own_min ((p2.toUInt32 >>> ((2 : Int32) &&& 31).toUInt32).toInt32 &&& (7 : Int32)) (((1 : Int32) + (p1 &&& (3 : Int32))) - (0 : Int32)))) := by rw [e12]; exact I11
  have Zz12 : n0 ≤ T12.heap.size := by rw [e12]; exact Zz11
  have V12 := V11
  rw [← e12] at V12
  have N12 := Fr.app N11 N12q
  obtain ⟨cq13, kq13, q13a, q13b, q13c⟩ := isOf hZ rfl I12.1
  obtain ⟨_, _, ⟨T13, L13, k13, n13⟩, -, X13, ⟨Lc13, hQ13, l13, y13, z13⟩, st13⟩ := X12.virtualBack hx (y := (⟨"descry/read/TextPrefix", "clear", "()V"⟩ : MethodName)) (z := (⟨"descry/read/TextPrefix", "clear", "()V"⟩ : MethodName)) hown (mvT hZ (hw _ (List.mem_of_getElem? (i := 41) rfl))) (mvT hZ (hw _ (List.mem_of_getElem? (i := 42) rfl))) (notFace_of_selects (args := #[]) (mvT hZ (hw _ (List.mem_of_getElem? (i := 44) rfl)))) (mvT hZ (hw _ (List.mem_of_getElem? (i := 44) rfl))) (mvT hZ (hw _ (List.mem_of_getElem? (i := 43) rfl))) (by decide) (backOf (W := 0) (rm7 l Z a0 hw [] b8 _ _ wh T12.heap n0 Zz12 I12.1 I12.2.2.1 g_b8 I12.2.2.2.1.choose_spec I12.2.1) hZ (hw _ (List.mem_of_getElem? (i := 45) rfl)) (hw _ (List.mem_of_getElem? (i := 3) rfl)) (by decide) (by decide)) q13a q13c (g := (mkF m 120 #[.val (.int p1), .val (.int p2), .val (.int p3), .val (.int p4), .val (.int ((1 : Int32) + (p1 &&& (3 : Int32)))), .val (.int (p2 &&& (3 : Int32))), .val (.int (((p2.toUInt32 >>> ((2 : Int32) &&& 31).toUInt32).toInt32) &&& (7 : Int32))), .val (.int (p3 &&& (3 : Int32))), .val (.int (((p3.toUInt32 >>> ((2 : Int32) &&& 31).toUInt32).toInt32) &&& (7 : Int32))), .val (.int (1 : Int32)), .val (.ref b5), .val (.ref b8), .val (.int (own_emp (0 : Int32))), .val (.int (own_emp ((0 : Int32) + (own_min ((p2.toUInt32 >>> ((2 : Int32) &&& 31).toUInt32).toInt32 &&& (7 : Int32)) (((1 : Int32) + (p1 &&& (3 : Int32))) - (0 : Int32)))))), .unset, .unset, .unset] [(.ref b8)])) rfl (by rw [hml]; rfl) (Steps.refl _) (argsL := []) (rest := []) (lenOf pd_0_1 rfl) rfl (by show 2 * 0 + _ ≤ _; exact Nat.le_of_eq rfl) (hb hby at_120) (fun _ _ => ⟨rfl, rfl, (Nat.le_of_ble_eq_true rfl), (Nat.le_of_ble_eq_true rfl)⟩)
  dsimp only [Pt.U, Pt.locs, Pt.cells, Pt.slots] at X13 l13 y13 z13 st13 hQ13
  subst l13 y13 z13
  obtain ⟨rfl, N13q, K13, Ex13, Fl13, Fc13, Fh13⟩ := hQ13
  have Zz13 : n0 ≤ T13.heap.size := Nat.le_trans Zz12 K13.1
  have V13 := V12.keep K13 (ninS ne58 nin0)
  have I13 : own_I Z T13.heap b8 wh kh ((1 : Int32) + (p1 &&& (3 : Int32))) (0 : Int32) := by
    obtain ⟨-, -, -, -, vd, hvd, Vh⟩ := I12
    exact ⟨Ex13, Fh13, Fl13, ⟨_, Fc13⟩, vd, hvd, Vh.keep K13 (ninS (fun h => ne1 h.symm) nin0)⟩
  have N13 := Fr.app N12 N13q
  obtain ⟨cq14, kq14, q14a, q14b, q14c⟩ := isOf hZ rfl I13.1
  have on14 := own_ok ((1 : Int32) + (p1 &&& (3 : Int32))) (p3 &&& (3 : Int32)) ((p3.toUInt32 >>> ((2 : Int32) &&& 31).toUInt32).toInt32 &&& (7 : Int32)) (0 : Int32) z1 z2 on2.1 on2.2.1 on2.2.2.1 on2.2.2.2 (by decide) (Int.le_trans (by decide : (0 : Int32).toInt ≤ 1) z1)
  obtain ⟨_, _, ⟨T14, L14, k14, n14⟩, -, X14, ⟨Lc14, hQ14, l14, y14, z14⟩, st14⟩ := X13.virtualBack hx (y := (⟨"descry/read/TextPrefix", "write", "([CII)V"⟩ : MethodName)) (z := (⟨"descry/read/TextPrefix", "write", "([CII)V"⟩ : MethodName)) hown (mvT hZ (hw _ (List.mem_of_getElem? (i := 26) rfl))) (mvT hZ (hw _ (List.mem_of_getElem? (i := 27) rfl))) (notFace_of_selects (args := #[]) (mvT hZ (hw _ (List.mem_of_getElem? (i := 29) rfl)))) (mvT hZ (hw _ (List.mem_of_getElem? (i := 29) rfl))) (mvT hZ (hw _ (List.mem_of_getElem? (i := 28) rfl))) (by decide) (backOf (W := 0) (rm5 l Z a0 hw [] b8 b5 (p3 &&& (3 : Int32)) (((p3.toUInt32 >>> ((2 : Int32) &&& 31).toUInt32).toInt32) &&& (7 : Int32)) wh kh ((1 : Int32) + (p1 &&& (3 : Int32))) (0 : Int32) _ (12 : Int32) _ T13.heap n0 Zz13 I13 V13 g_b8 g_wh ne1 on14.1 on14.2.1 on14.2.2.1 on14.2.2.2.1 on14.2.2.2.2.1 on14.2.2.2.2.2.1) hZ (hw _ (List.mem_of_getElem? (i := 30) rfl)) (hw _ (List.mem_of_getElem? (i := 3) rfl)) (by decide) (by decide)) q14a q14c (g := (mkF m 131 #[.val (.int p1), .val (.int p2), .val (.int p3), .val (.int p4), .val (.int ((1 : Int32) + (p1 &&& (3 : Int32)))), .val (.int (p2 &&& (3 : Int32))), .val (.int (((p2.toUInt32 >>> ((2 : Int32) &&& 31).toUInt32).toInt32) &&& (7 : Int32))), .val (.int (p3 &&& (3 : Int32))), .val (.int (((p3.toUInt32 >>> ((2 : Int32) &&& 31).toUInt32).toInt32) &&& (7 : Int32))), .val (.int (1 : Int32)), .val (.ref b5), .val (.ref b8), .val (.int (own_emp (0 : Int32))), .val (.int (own_emp ((0 : Int32) + (own_min ((p2.toUInt32 >>> ((2 : Int32) &&& 31).toUInt32).toInt32 &&& (7 : Int32)) (((1 : Int32) + (p1 &&& (3 : Int32))) - (0 : Int32)))))), .unset, .unset, .unset] [(.int (((p3.toUInt32 >>> ((2 : Int32) &&& 31).toUInt32).toInt32) &&& (7 : Int32))), (.int (p3 &&& (3 : Int32))), (.ref b5), (.ref b8)])) rfl (by rw [hml]; rfl) (Steps.refl _) (argsL := [(.ref b5), (.int (p3 &&& (3 : Int32))), (.int (((p3.toUInt32 >>> ((2 : Int32) &&& 31).toUInt32).toInt32) &&& (7 : Int32)))]) (rest := []) (lenOf pd_0_3 rfl) rfl (by show 2 * 0 + _ ≤ _; exact Nat.le_of_eq rfl) (hb hby at_131) (fun _ _ => ⟨rfl, rfl, (Nat.le_of_ble_eq_true rfl), (Nat.le_of_ble_eq_true rfl)⟩)
  dsimp only [Pt.U, Pt.locs, Pt.cells, Pt.slots] at X14 l14 y14 z14 st14 hQ14
  subst l14 y14 z14
  obtain ⟨rfl, N14q, K14, I14⟩ := hQ14
  have Zz14 : n0 ≤ T14.heap.size := Nat.le_trans Zz13 K14.1
  have V14 := V13.keep K14 nin5
  have N14 := Fr.app N13 N14q
  obtain ⟨cq15, kq15, q15a, q15b, q15c⟩ := isOf hZ rfl I14.1
  obtain ⟨_, _, ⟨T15, L15, k15, n15⟩, -, X15, ⟨Lc15, hQ15, l15, y15, z15⟩, st15⟩ := X14.virtualBack hx (y := (⟨"descry/read/TextPrefix", "isEmpty", "()Z"⟩ : MethodName)) (z := (⟨"descry/read/TextPrefix", "isEmpty", "()Z"⟩ : MethodName)) hown (mvT hZ (hw _ (List.mem_of_getElem? (i := 19) rfl))) (mvT hZ (hw _ (List.mem_of_getElem? (i := 20) rfl))) (notFace_of_selects (args := #[]) (mvT hZ (hw _ (List.mem_of_getElem? (i := 22) rfl)))) (mvT hZ (hw _ (List.mem_of_getElem? (i := 22) rfl))) (mvT hZ (hw _ (List.mem_of_getElem? (i := 21) rfl))) (by decide) (backOf (W := 0) (rm4 l Z a0 hw [] b8 ((0 : Int32) + (own_min ((p3.toUInt32 >>> ((2 : Int32) &&& 31).toUInt32).toInt32 &&& (7 : Int32)) (((1 : Int32) + (p1 &&& (3 : Int32))) - (0 : Int32)))) T14.heap n0 Zz14 I14.2.2.1) hZ (hw _ (List.mem_of_getElem? (i := 23) rfl)) (hw _ (List.mem_of_getElem? (i := 3) rfl)) (by decide) (by decide)) q15a q15c (g := (mkF m 136 #[.val (.int p1), .val (.int p2), .val (.int p3), .val (.int p4), .val (.int ((1 : Int32) + (p1 &&& (3 : Int32)))), .val (.int (p2 &&& (3 : Int32))), .val (.int (((p2.toUInt32 >>> ((2 : Int32) &&& 31).toUInt32).toInt32) &&& (7 : Int32))), .val (.int (p3 &&& (3 : Int32))), .val (.int (((p3.toUInt32 >>> ((2 : Int32) &&& 31).toUInt32).toInt32) &&& (7 : Int32))), .val (.int (1 : Int32)), .val (.ref b5), .val (.ref b8), .val (.int (own_emp (0 : Int32))), .val (.int (own_emp ((0 : Int32) + (own_min ((p2.toUInt32 >>> ((2 : Int32) &&& 31).toUInt32).toInt32 &&& (7 : Int32)) (((1 : Int32) + (p1 &&& (3 : Int32))) - (0 : Int32)))))), .unset, .unset, .unset] [(.ref b8)])) rfl (by rw [hml]; rfl) (Steps.refl _) (argsL := []) (rest := []) (lenOf pd_0_2 rfl) rfl (by show 2 * 0 + _ ≤ _; exact Nat.le_of_eq rfl) (hb hby at_136) (fun _ _ => ⟨rfl, rfl, (Nat.le_of_ble_eq_true rfl), (Nat.le_of_ble_eq_true rfl)⟩)
  dsimp only [Pt.U, Pt.locs, Pt.cells, Pt.slots] at X15 l15 y15 z15 st15 hQ15
  subst l15 y15 z15
  obtain ⟨rfl, N15q, e15⟩ := hQ15
  have I15 : own_I Z T15.heap b8 wh kh ((1 : Int32) + (p1 &&& (3 : Int32))) ((0 : Int32) + (own_min ((p3.toUInt32 >>> ((2 : Int32) &&& 31).toUInt32).toInt32 &&& (7 : Int32)) (((1 : Int32) + (p1 &&& (3 : Int32))) - (0 : Int32)))) := by rw [e15]; exact I14
  have Zz15 : n0 ≤ T15.heap.size := by rw [e15]; exact Zz14
  have V15 := V14
  rw [← e15] at V15
  have N15 := Fr.app N14 N15q
  obtain ⟨fs, hr, hrun, hended, hW, hsame⟩ := X15.leave (v := some (.int (1 : Int32))) (fun h => by rw [Bd.returns] at h; cases h)
  refine ⟨_, _, pre0 _ ?_, hrun, hended, _, _, rfl, ?_, ⟨_, rfl⟩, hW, hsame.mono (by decide) (by decide)⟩
  · show Steps p.tables e below (s₁.setTop (mkF m 0 #[.val (.int p1), .val (.int p2), .val (.int p3), .val (.int p4), .unset, .unset, .unset, .unset, .unset, .unset, .unset, .unset, .unset, .unset, .unset, .unset, .unset] [])) _
    refine XS.iconst X0.here hx rfl (hb hby at_0) ?_
    show Steps p.tables e below (s₁.setTop (mkF m 1 #[.val (.int p1), .val (.int p2), .val (.int p3), .val (.int p4), .unset, .unset, .unset, .unset, .unset, .unset, .unset, .unset, .unset, .unset, .unset, .unset, .unset] [(.int (1 : Int32))])) _
    refine XS.iloadN X0.here hx rfl (hb hby at_1) rfl ?_
    show Steps p.tables e below (s₁.setTop (mkF m 2 #[.val (.int p1), .val (.int p2), .val (.int p3), .val (.int p4), .unset, .unset, .unset, .unset, .unset, .unset, .unset, .unset, .unset, .unset, .unset, .unset, .unset] [(.int p1), (.int (1 : Int32))])) _
    refine XS.iconst X0.here hx rfl (hb hby at_2) ?_
    show Steps p.tables e below (s₁.setTop (mkF m 3 #[.val (.int p1), .val (.int p2), .val (.int p3), .val (.int p4), .unset, .unset, .unset, .unset, .unset, .unset, .unset, .unset, .unset, .unset, .unset, .unset, .unset] [(.int (3 : Int32)), (.int p1), (.int (1 : Int32))])) _
    refine XS.iand X0.here hx rfl (hb hby at_3) rfl ?_
    show Steps p.tables e below (s₁.setTop (mkF m 4 #[.val (.int p1), .val (.int p2), .val (.int p3), .val (.int p4), .unset, .unset, .unset, .unset, .unset, .unset, .unset, .unset, .unset, .unset, .unset, .unset, .unset] [(.int (p1 &&& (3 : Int32))), (.int (1 : Int32))])) _
    refine XS.iadd X0.here hx rfl (hb hby at_4) rfl ?_
    show Steps p.tables e below (s₁.setTop (mkF m 5 #[.val (.int p1), .val (.int p2), .val (.int p3), .val (.int p4), .unset, .unset, .unset, .unset, .unset, .unset, .unset, .unset, .unset, .unset, .unset, .unset, .unset] [(.int ((1 : Int32) + (p1 &&& (3 : Int32))))])) _
    refine XS.istore X0.here hx rfl (hb hby at_5) rfl (l' := #[.val (.int p1), .val (.int p2), .val (.int p3), .val (.int p4), .val (.int ((1 : Int32) + (p1 &&& (3 : Int32)))), .unset, .unset, .unset, .unset, .unset, .unset, .unset, .unset, .unset, .unset, .unset, .unset]) rfl ?_
    show Steps p.tables e below (s₁.setTop (mkF m 7 #[.val (.int p1), .val (.int p2), .val (.int p3), .val (.int p4), .val (.int ((1 : Int32) + (p1 &&& (3 : Int32)))), .unset, .unset, .unset, .unset, .unset, .unset, .unset, .unset, .unset, .unset, .unset, .unset] [])) _
    refine XS.iloadN X0.here hx rfl (hb hby at_7) rfl ?_
    show Steps p.tables e below (s₁.setTop (mkF m 8 #[.val (.int p1), .val (.int p2), .val (.int p3), .val (.int p4), .val (.int ((1 : Int32) + (p1 &&& (3 : Int32)))), .unset, .unset, .unset, .unset, .unset, .unset, .unset, .unset, .unset, .unset, .unset, .unset] [(.int p2)])) _
    refine XS.iconst X0.here hx rfl (hb hby at_8) ?_
    show Steps p.tables e below (s₁.setTop (mkF m 9 #[.val (.int p1), .val (.int p2), .val (.int p3), .val (.int p4), .val (.int ((1 : Int32) + (p1 &&& (3 : Int32)))), .unset, .unset, .unset, .unset, .unset, .unset, .unset, .unset, .unset, .unset, .unset, .unset] [(.int (3 : Int32)), (.int p2)])) _
    refine XS.iand X0.here hx rfl (hb hby at_9) rfl ?_
    show Steps p.tables e below (s₁.setTop (mkF m 10 #[.val (.int p1), .val (.int p2), .val (.int p3), .val (.int p4), .val (.int ((1 : Int32) + (p1 &&& (3 : Int32)))), .unset, .unset, .unset, .unset, .unset, .unset, .unset, .unset, .unset, .unset, .unset, .unset] [(.int (p2 &&& (3 : Int32)))])) _
    refine XS.istore X0.here hx rfl (hb hby at_10) rfl (l' := #[.val (.int p1), .val (.int p2), .val (.int p3), .val (.int p4), .val (.int ((1 : Int32) + (p1 &&& (3 : Int32)))), .val (.int (p2 &&& (3 : Int32))), .unset, .unset, .unset, .unset, .unset, .unset, .unset, .unset, .unset, .unset, .unset]) rfl ?_
    show Steps p.tables e below (s₁.setTop (mkF m 12 #[.val (.int p1), .val (.int p2), .val (.int p3), .val (.int p4), .val (.int ((1 : Int32) + (p1 &&& (3 : Int32)))), .val (.int (p2 &&& (3 : Int32))), .unset, .unset, .unset, .unset, .unset, .unset, .unset, .unset, .unset, .unset, .unset] [])) _
    refine XS.iloadN X0.here hx rfl (hb hby at_12) rfl ?_
    show Steps p.tables e below (s₁.setTop (mkF m 13 #[.val (.int p1), .val (.int p2), .val (.int p3), .val (.int p4), .val (.int ((1 : Int32) + (p1 &&& (3 : Int32)))), .val (.int (p2 &&& (3 : Int32))), .unset, .unset, .unset, .unset, .unset, .unset, .unset, .unset, .unset, .unset, .unset] [(.int p2)])) _
    refine XS.iconst X0.here hx rfl (hb hby at_13) ?_
    show Steps p.tables e below (s₁.setTop (mkF m 14 #[.val (.int p1), .val (.int p2), .val (.int p3), .val (.int p4), .val (.int ((1 : Int32) + (p1 &&& (3 : Int32)))), .val (.int (p2 &&& (3 : Int32))), .unset, .unset, .unset, .unset, .unset, .unset, .unset, .unset, .unset, .unset, .unset] [(.int (2 : Int32)), (.int p2)])) _
    refine XS.iushr X0.here hx rfl (hb hby at_14) rfl ?_
    show Steps p.tables e below (s₁.setTop (mkF m 15 #[.val (.int p1), .val (.int p2), .val (.int p3), .val (.int p4), .val (.int ((1 : Int32) + (p1 &&& (3 : Int32)))), .val (.int (p2 &&& (3 : Int32))), .unset, .unset, .unset, .unset, .unset, .unset, .unset, .unset, .unset, .unset, .unset] [(.int ((p2.toUInt32 >>> ((2 : Int32) &&& 31).toUInt32).toInt32))])) _
    refine XS.bipush X0.here hx rfl (hb hby at_15) ?_
    show Steps p.tables e below (s₁.setTop (mkF m 17 #[.val (.int p1), .val (.int p2), .val (.int p3), .val (.int p4), .val (.int ((1 : Int32) + (p1 &&& (3 : Int32)))), .val (.int (p2 &&& (3 : Int32))), .unset, .unset, .unset, .unset, .unset, .unset, .unset, .unset, .unset, .unset, .unset] [(.int (7 : Int32)), (.int ((p2.toUInt32 >>> ((2 : Int32) &&& 31).toUInt32).toInt32))])) _
    refine XS.iand X0.here hx rfl (hb hby at_17) rfl ?_
    show Steps p.tables e below (s₁.setTop (mkF m 18 #[.val (.int p1), .val (.int p2), .val (.int p3), .val (.int p4), .val (.int ((1 : Int32) + (p1 &&& (3 : Int32)))), .val (.int (p2 &&& (3 : Int32))), .unset, .unset, .unset, .unset, .unset, .unset, .unset, .unset, .unset, .unset, .unset] [(.int (((p2.toUInt32 >>> ((2 : Int32) &&& 31).toUInt32).toInt32) &&& (7 : Int32)))])) _
    refine XS.istore X0.here hx rfl (hb hby at_18) rfl (l' := #[.val (.int p1), .val (.int p2), .val (.int p3), .val (.int p4), .val (.int ((1 : Int32) + (p1 &&& (3 : Int32)))), .val (.int (p2 &&& (3 : Int32))), .val (.int (((p2.toUInt32 >>> ((2 : Int32) &&& 31).toUInt32).toInt32) &&& (7 : Int32))), .unset, .unset, .unset, .unset, .unset, .unset, .unset, .unset, .unset, .unset]) rfl ?_
    show Steps p.tables e below (s₁.setTop (mkF m 20 #[.val (.int p1), .val (.int p2), .val (.int p3), .val (.int p4), .val (.int ((1 : Int32) + (p1 &&& (3 : Int32)))), .val (.int (p2 &&& (3 : Int32))), .val (.int (((p2.toUInt32 >>> ((2 : Int32) &&& 31).toUInt32).toInt32) &&& (7 : Int32))), .unset, .unset, .unset, .unset, .unset, .unset, .unset, .unset, .unset, .unset] [])) _
    refine XS.iloadN X0.here hx rfl (hb hby at_20) rfl ?_
    show Steps p.tables e below (s₁.setTop (mkF m 21 #[.val (.int p1), .val (.int p2), .val (.int p3), .val (.int p4), .val (.int ((1 : Int32) + (p1 &&& (3 : Int32)))), .val (.int (p2 &&& (3 : Int32))), .val (.int (((p2.toUInt32 >>> ((2 : Int32) &&& 31).toUInt32).toInt32) &&& (7 : Int32))), .unset, .unset, .unset, .unset, .unset, .unset, .unset, .unset, .unset, .unset] [(.int p3)])) _
    refine XS.iconst X0.here hx rfl (hb hby at_21) ?_
    show Steps p.tables e below (s₁.setTop (mkF m 22 #[.val (.int p1), .val (.int p2), .val (.int p3), .val (.int p4), .val (.int ((1 : Int32) + (p1 &&& (3 : Int32)))), .val (.int (p2 &&& (3 : Int32))), .val (.int (((p2.toUInt32 >>> ((2 : Int32) &&& 31).toUInt32).toInt32) &&& (7 : Int32))), .unset, .unset, .unset, .unset, .unset, .unset, .unset, .unset, .unset, .unset] [(.int (3 : Int32)), (.int p3)])) _
    refine XS.iand X0.here hx rfl (hb hby at_22) rfl ?_
    show Steps p.tables e below (s₁.setTop (mkF m 23 #[.val (.int p1), .val (.int p2), .val (.int p3), .val (.int p4), .val (.int ((1 : Int32) + (p1 &&& (3 : Int32)))), .val (.int (p2 &&& (3 : Int32))), .val (.int (((p2.toUInt32 >>> ((2 : Int32) &&& 31).toUInt32).toInt32) &&& (7 : Int32))), .unset, .unset, .unset, .unset, .unset, .unset, .unset, .unset, .unset, .unset] [(.int (p3 &&& (3 : Int32)))])) _
    refine XS.istore X0.here hx rfl (hb hby at_23) rfl (l' := #[.val (.int p1), .val (.int p2), .val (.int p3), .val (.int p4), .val (.int ((1 : Int32) + (p1 &&& (3 : Int32)))), .val (.int (p2 &&& (3 : Int32))), .val (.int (((p2.toUInt32 >>> ((2 : Int32) &&& 31).toUInt32).toInt32) &&& (7 : Int32))), .val (.int (p3 &&& (3 : Int32))), .unset, .unset, .unset, .unset, .unset, .unset, .unset, .unset, .unset]) rfl ?_
    show Steps p.tables e below (s₁.setTop (mkF m 25 #[.val (.int p1), .val (.int p2), .val (.int p3), .val (.int p4), .val (.int ((1 : Int32) + (p1 &&& (3 : Int32)))), .val (.int (p2 &&& (3 : Int32))), .val (.int (((p2.toUInt32 >>> ((2 : Int32) &&& 31).toUInt32).toInt32) &&& (7 : Int32))), .val (.int (p3 &&& (3 : Int32))), .unset, .unset, .unset, .unset, .unset, .unset, .unset, .unset, .unset] [])) _
    refine XS.iloadN X0.here hx rfl (hb hby at_25) rfl ?_
    show Steps p.tables e below (s₁.setTop (mkF m 26 #[.val (.int p1), .val (.int p2), .val (.int p3), .val (.int p4), .val (.int ((1 : Int32) + (p1 &&& (3 : Int32)))), .val (.int (p2 &&& (3 : Int32))), .val (.int (((p2.toUInt32 >>> ((2 : Int32) &&& 31).toUInt32).toInt32) &&& (7 : Int32))), .val (.int (p3 &&& (3 : Int32))), .unset, .unset, .unset, .unset, .unset, .unset, .unset, .unset, .unset] [(.int p3)])) _
    refine XS.iconst X0.here hx rfl (hb hby at_26) ?_
    show Steps p.tables e below (s₁.setTop (mkF m 27 #[.val (.int p1), .val (.int p2), .val (.int p3), .val (.int p4), .val (.int ((1 : Int32) + (p1 &&& (3 : Int32)))), .val (.int (p2 &&& (3 : Int32))), .val (.int (((p2.toUInt32 >>> ((2 : Int32) &&& 31).toUInt32).toInt32) &&& (7 : Int32))), .val (.int (p3 &&& (3 : Int32))), .unset, .unset, .unset, .unset, .unset, .unset, .unset, .unset, .unset] [(.int (2 : Int32)), (.int p3)])) _
    refine XS.iushr X0.here hx rfl (hb hby at_27) rfl ?_
    show Steps p.tables e below (s₁.setTop (mkF m 28 #[.val (.int p1), .val (.int p2), .val (.int p3), .val (.int p4), .val (.int ((1 : Int32) + (p1 &&& (3 : Int32)))), .val (.int (p2 &&& (3 : Int32))), .val (.int (((p2.toUInt32 >>> ((2 : Int32) &&& 31).toUInt32).toInt32) &&& (7 : Int32))), .val (.int (p3 &&& (3 : Int32))), .unset, .unset, .unset, .unset, .unset, .unset, .unset, .unset, .unset] [(.int ((p3.toUInt32 >>> ((2 : Int32) &&& 31).toUInt32).toInt32))])) _
    refine XS.bipush X0.here hx rfl (hb hby at_28) ?_
    show Steps p.tables e below (s₁.setTop (mkF m 30 #[.val (.int p1), .val (.int p2), .val (.int p3), .val (.int p4), .val (.int ((1 : Int32) + (p1 &&& (3 : Int32)))), .val (.int (p2 &&& (3 : Int32))), .val (.int (((p2.toUInt32 >>> ((2 : Int32) &&& 31).toUInt32).toInt32) &&& (7 : Int32))), .val (.int (p3 &&& (3 : Int32))), .unset, .unset, .unset, .unset, .unset, .unset, .unset, .unset, .unset] [(.int (7 : Int32)), (.int ((p3.toUInt32 >>> ((2 : Int32) &&& 31).toUInt32).toInt32))])) _
    refine XS.iand X0.here hx rfl (hb hby at_30) rfl ?_
    show Steps p.tables e below (s₁.setTop (mkF m 31 #[.val (.int p1), .val (.int p2), .val (.int p3), .val (.int p4), .val (.int ((1 : Int32) + (p1 &&& (3 : Int32)))), .val (.int (p2 &&& (3 : Int32))), .val (.int (((p2.toUInt32 >>> ((2 : Int32) &&& 31).toUInt32).toInt32) &&& (7 : Int32))), .val (.int (p3 &&& (3 : Int32))), .unset, .unset, .unset, .unset, .unset, .unset, .unset, .unset, .unset] [(.int (((p3.toUInt32 >>> ((2 : Int32) &&& 31).toUInt32).toInt32) &&& (7 : Int32)))])) _
    refine XS.istore X0.here hx rfl (hb hby at_31) rfl (l' := #[.val (.int p1), .val (.int p2), .val (.int p3), .val (.int p4), .val (.int ((1 : Int32) + (p1 &&& (3 : Int32)))), .val (.int (p2 &&& (3 : Int32))), .val (.int (((p2.toUInt32 >>> ((2 : Int32) &&& 31).toUInt32).toInt32) &&& (7 : Int32))), .val (.int (p3 &&& (3 : Int32))), .val (.int (((p3.toUInt32 >>> ((2 : Int32) &&& 31).toUInt32).toInt32) &&& (7 : Int32))), .unset, .unset, .unset, .unset, .unset, .unset, .unset, .unset]) rfl ?_
    show Steps p.tables e below (s₁.setTop (mkF m 33 #[.val (.int p1), .val (.int p2), .val (.int p3), .val (.int p4), .val (.int ((1 : Int32) + (p1 &&& (3 : Int32)))), .val (.int (p2 &&& (3 : Int32))), .val (.int (((p2.toUInt32 >>> ((2 : Int32) &&& 31).toUInt32).toInt32) &&& (7 : Int32))), .val (.int (p3 &&& (3 : Int32))), .val (.int (((p3.toUInt32 >>> ((2 : Int32) &&& 31).toUInt32).toInt32) &&& (7 : Int32))), .unset, .unset, .unset, .unset, .unset, .unset, .unset, .unset] [])) _
    refine XS.iloadN X0.here hx rfl (hb hby at_33) rfl ?_
    show Steps p.tables e below (s₁.setTop (mkF m 34 #[.val (.int p1), .val (.int p2), .val (.int p3), .val (.int p4), .val (.int ((1 : Int32) + (p1 &&& (3 : Int32)))), .val (.int (p2 &&& (3 : Int32))), .val (.int (((p2.toUInt32 >>> ((2 : Int32) &&& 31).toUInt32).toInt32) &&& (7 : Int32))), .val (.int (p3 &&& (3 : Int32))), .val (.int (((p3.toUInt32 >>> ((2 : Int32) &&& 31).toUInt32).toInt32) &&& (7 : Int32))), .unset, .unset, .unset, .unset, .unset, .unset, .unset, .unset] [(.int p4)])) _
    refine XS.iconst X0.here hx rfl (hb hby at_34) ?_
    show Steps p.tables e below (s₁.setTop (mkF m 35 #[.val (.int p1), .val (.int p2), .val (.int p3), .val (.int p4), .val (.int ((1 : Int32) + (p1 &&& (3 : Int32)))), .val (.int (p2 &&& (3 : Int32))), .val (.int (((p2.toUInt32 >>> ((2 : Int32) &&& 31).toUInt32).toInt32) &&& (7 : Int32))), .val (.int (p3 &&& (3 : Int32))), .val (.int (((p3.toUInt32 >>> ((2 : Int32) &&& 31).toUInt32).toInt32) &&& (7 : Int32))), .unset, .unset, .unset, .unset, .unset, .unset, .unset, .unset] [(.int (1 : Int32)), (.int p4)])) _
    refine XS.iand X0.here hx rfl (hb hby at_35) rfl ?_
    show Steps p.tables e below (s₁.setTop (mkF m 36 #[.val (.int p1), .val (.int p2), .val (.int p3), .val (.int p4), .val (.int ((1 : Int32) + (p1 &&& (3 : Int32)))), .val (.int (p2 &&& (3 : Int32))), .val (.int (((p2.toUInt32 >>> ((2 : Int32) &&& 31).toUInt32).toInt32) &&& (7 : Int32))), .val (.int (p3 &&& (3 : Int32))), .val (.int (((p3.toUInt32 >>> ((2 : Int32) &&& 31).toUInt32).toInt32) &&& (7 : Int32))), .unset, .unset, .unset, .unset, .unset, .unset, .unset, .unset] [(.int (p4 &&& (1 : Int32)))])) _
    refine XS.ifNo X0.here hx rfl (hb hby at_36) rfl ((if0 _ _).trans (feq hc36).1) ?_
    show Steps p.tables e below (s₁.setTop (mkF m 39 #[.val (.int p1), .val (.int p2), .val (.int p3), .val (.int p4), .val (.int ((1 : Int32) + (p1 &&& (3 : Int32)))), .val (.int (p2 &&& (3 : Int32))), .val (.int (((p2.toUInt32 >>> ((2 : Int32) &&& 31).toUInt32).toInt32) &&& (7 : Int32))), .val (.int (p3 &&& (3 : Int32))), .val (.int (((p3.toUInt32 >>> ((2 : Int32) &&& 31).toUInt32).toInt32) &&& (7 : Int32))), .unset, .unset, .unset, .unset, .unset, .unset, .unset, .unset] [])) _
    refine XS.iconst X0.here hx rfl (hb hby at_39) ?_
    show Steps p.tables e below (s₁.setTop (mkF m 40 #[.val (.int p1), .val (.int p2), .val (.int p3), .val (.int p4), .val (.int ((1 : Int32) + (p1 &&& (3 : Int32)))), .val (.int (p2 &&& (3 : Int32))), .val (.int (((p2.toUInt32 >>> ((2 : Int32) &&& 31).toUInt32).toInt32) &&& (7 : Int32))), .val (.int (p3 &&& (3 : Int32))), .val (.int (((p3.toUInt32 >>> ((2 : Int32) &&& 31).toUInt32).toInt32) &&& (7 : Int32))), .unset, .unset, .unset, .unset, .unset, .unset, .unset, .unset] [(.int (1 : Int32))])) _
    refine XS.goto X0.here hx rfl (pc0 := 40) (pc' := 44) rfl (hb hby at_40) (by decide) (by decide) ?_
    show Steps p.tables e below (s₁.setTop (mkF m 44 #[.val (.int p1), .val (.int p2), .val (.int p3), .val (.int p4), .val (.int ((1 : Int32) + (p1 &&& (3 : Int32)))), .val (.int (p2 &&& (3 : Int32))), .val (.int (((p2.toUInt32 >>> ((2 : Int32) &&& 31).toUInt32).toInt32) &&& (7 : Int32))), .val (.int (p3 &&& (3 : Int32))), .val (.int (((p3.toUInt32 >>> ((2 : Int32) &&& 31).toUInt32).toInt32) &&& (7 : Int32))), .unset, .unset, .unset, .unset, .unset, .unset, .unset, .unset] [(.int (1 : Int32))])) _
    refine XS.istore X0.here hx rfl (hb hby at_44) rfl (l' := #[.val (.int p1), .val (.int p2), .val (.int p3), .val (.int p4), .val (.int ((1 : Int32) + (p1 &&& (3 : Int32)))), .val (.int (p2 &&& (3 : Int32))), .val (.int (((p2.toUInt32 >>> ((2 : Int32) &&& 31).toUInt32).toInt32) &&& (7 : Int32))), .val (.int (p3 &&& (3 : Int32))), .val (.int (((p3.toUInt32 >>> ((2 : Int32) &&& 31).toUInt32).toInt32) &&& (7 : Int32))), .val (.int (1 : Int32)), .unset, .unset, .unset, .unset, .unset, .unset, .unset]) rfl ?_
    show Steps p.tables e below (s₁.setTop (mkF m 46 #[.val (.int p1), .val (.int p2), .val (.int p3), .val (.int p4), .val (.int ((1 : Int32) + (p1 &&& (3 : Int32)))), .val (.int (p2 &&& (3 : Int32))), .val (.int (((p2.toUInt32 >>> ((2 : Int32) &&& 31).toUInt32).toInt32) &&& (7 : Int32))), .val (.int (p3 &&& (3 : Int32))), .val (.int (((p3.toUInt32 >>> ((2 : Int32) &&& 31).toUInt32).toInt32) &&& (7 : Int32))), .val (.int (1 : Int32)), .unset, .unset, .unset, .unset, .unset, .unset, .unset] [])) _
    refine XS.bipush X0.here hx rfl (hb hby at_46) ?_
    show Steps p.tables e below (s₁.setTop (mkF m 48 #[.val (.int p1), .val (.int p2), .val (.int p3), .val (.int p4), .val (.int ((1 : Int32) + (p1 &&& (3 : Int32)))), .val (.int (p2 &&& (3 : Int32))), .val (.int (((p2.toUInt32 >>> ((2 : Int32) &&& 31).toUInt32).toInt32) &&& (7 : Int32))), .val (.int (p3 &&& (3 : Int32))), .val (.int (((p3.toUInt32 >>> ((2 : Int32) &&& 31).toUInt32).toInt32) &&& (7 : Int32))), .val (.int (1 : Int32)), .unset, .unset, .unset, .unset, .unset, .unset, .unset] [(.int (12 : Int32))])) _
    refine st5 _ ?_
    show Steps p.tables e below (T5.setTop (mkF m 50 #[.val (.int p1), .val (.int p2), .val (.int p3), .val (.int p4), .val (.int ((1 : Int32) + (p1 &&& (3 : Int32)))), .val (.int (p2 &&& (3 : Int32))), .val (.int (((p2.toUInt32 >>> ((2 : Int32) &&& 31).toUInt32).toInt32) &&& (7 : Int32))), .val (.int (p3 &&& (3 : Int32))), .val (.int (((p3.toUInt32 >>> ((2 : Int32) &&& 31).toUInt32).toInt32) &&& (7 : Int32))), .val (.int (1 : Int32)), .unset, .unset, .unset, .unset, .unset, .unset, .unset] [(.ref b5)])) _
    refine XS.astore X5.here hx rfl (hb hby at_50) rfl rfl (l' := #[.val (.int p1), .val (.int p2), .val (.int p3), .val (.int p4), .val (.int ((1 : Int32) + (p1 &&& (3 : Int32)))), .val (.int (p2 &&& (3 : Int32))), .val (.int (((p2.toUInt32 >>> ((2 : Int32) &&& 31).toUInt32).toInt32) &&& (7 : Int32))), .val (.int (p3 &&& (3 : Int32))), .val (.int (((p3.toUInt32 >>> ((2 : Int32) &&& 31).toUInt32).toInt32) &&& (7 : Int32))), .val (.int (1 : Int32)), .val (.ref b5), .unset, .unset, .unset, .unset, .unset, .unset]) rfl ?_
    show Steps p.tables e below (T5.setTop (mkF m 52 #[.val (.int p1), .val (.int p2), .val (.int p3), .val (.int p4), .val (.int ((1 : Int32) + (p1 &&& (3 : Int32)))), .val (.int (p2 &&& (3 : Int32))), .val (.int (((p2.toUInt32 >>> ((2 : Int32) &&& 31).toUInt32).toInt32) &&& (7 : Int32))), .val (.int (p3 &&& (3 : Int32))), .val (.int (((p3.toUInt32 >>> ((2 : Int32) &&& 31).toUInt32).toInt32) &&& (7 : Int32))), .val (.int (1 : Int32)), .val (.ref b5), .unset, .unset, .unset, .unset, .unset, .unset] [])) _
    refine XS.aload X5.here hx rfl (hb hby at_52) rfl rfl ?_
    show Steps p.tables e below (T5.setTop (mkF m 54 #[.val (.int p1), .val (.int p2), .val (.int p3), .val (.int p4), .val (.int ((1 : Int32) + (p1 &&& (3 : Int32)))), .val (.int (p2 &&& (3 : Int32))), .val (.int (((p2.toUInt32 >>> ((2 : Int32) &&& 31).toUInt32).toInt32) &&& (7 : Int32))), .val (.int (p3 &&& (3 : Int32))), .val (.int (((p3.toUInt32 >>> ((2 : Int32) &&& 31).toUInt32).toInt32) &&& (7 : Int32))), .val (.int (1 : Int32)), .val (.ref b5), .unset, .unset, .unset, .unset, .unset, .unset] [(.ref b5)])) _
    refine XS.iconst X5.here hx rfl (hb hby at_54) ?_
    show Steps p.tables e below (T5.setTop (mkF m 55 #[.val (.int p1), .val (.int p2), .val (.int p3), .val (.int p4), .val (.int ((1 : Int32) + (p1 &&& (3 : Int32)))), .val (.int (p2 &&& (3 : Int32))), .val (.int (((p2.toUInt32 >>> ((2 : Int32) &&& 31).toUInt32).toInt32) &&& (7 : Int32))), .val (.int (p3 &&& (3 : Int32))), .val (.int (((p3.toUInt32 >>> ((2 : Int32) &&& 31).toUInt32).toInt32) &&& (7 : Int32))), .val (.int (1 : Int32)), .val (.ref b5), .unset, .unset, .unset, .unset, .unset, .unset] [(.int (0 : Int32)), (.ref b5)])) _
    refine XS.iloadN X5.here hx rfl (hb hby at_55) rfl ?_
    show Steps p.tables e below (T5.setTop (mkF m 56 #[.val (.int p1), .val (.int p2), .val (.int p3), .val (.int p4), .val (.int ((1 : Int32) + (p1 &&& (3 : Int32)))), .val (.int (p2 &&& (3 : Int32))), .val (.int (((p2.toUInt32 >>> ((2 : Int32) &&& 31).toUInt32).toInt32) &&& (7 : Int32))), .val (.int (p3 &&& (3 : Int32))), .val (.int (((p3.toUInt32 >>> ((2 : Int32) &&& 31).toUInt32).toInt32) &&& (7 : Int32))), .val (.int (1 : Int32)), .val (.ref b5), .unset, .unset, .unset, .unset, .unset, .unset] [(.int p4), (.int (0 : Int32)), (.ref b5)])) _
    refine XS.iconst X5.here hx rfl (hb hby at_56) ?_
    show Steps p.tables e below (T5.setTop (mkF m 57 #[.val (.int p1), .val (.int p2), .val (.int p3), .val (.int p4), .val (.int ((1 : Int32) + (p1 &&& (3 : Int32)))), .val (.int (p2 &&& (3 : Int32))), .val (.int (((p2.toUInt32 >>> ((2 : Int32) &&& 31).toUInt32).toInt32) &&& (7 : Int32))), .val (.int (p3 &&& (3 : Int32))), .val (.int (((p3.toUInt32 >>> ((2 : Int32) &&& 31).toUInt32).toInt32) &&& (7 : Int32))), .val (.int (1 : Int32)), .val (.ref b5), .unset, .unset, .unset, .unset, .unset, .unset] [(.int (1 : Int32)), (.int p4), (.int (0 : Int32)), (.ref b5)])) _
    refine XS.iushr X5.here hx rfl (hb hby at_57) rfl ?_
    show Steps p.tables e below (T5.setTop (mkF m 58 #[.val (.int p1), .val (.int p2), .val (.int p3), .val (.int p4), .val (.int ((1 : Int32) + (p1 &&& (3 : Int32)))), .val (.int (p2 &&& (3 : Int32))), .val (.int (((p2.toUInt32 >>> ((2 : Int32) &&& 31).toUInt32).toInt32) &&& (7 : Int32))), .val (.int (p3 &&& (3 : Int32))), .val (.int (((p3.toUInt32 >>> ((2 : Int32) &&& 31).toUInt32).toInt32) &&& (7 : Int32))), .val (.int (1 : Int32)), .val (.ref b5), .unset, .unset, .unset, .unset, .unset, .unset] [(.int ((p4.toUInt32 >>> ((1 : Int32) &&& 31).toUInt32).toInt32)), (.int (0 : Int32)), (.ref b5)])) _
    refine XS.sipush X5.here hx rfl (hb hby at_58) ?_
    show Steps p.tables e below (T5.setTop (mkF m 61 #[.val (.int p1), .val (.int p2), .val (.int p3), .val (.int p4), .val (.int ((1 : Int32) + (p1 &&& (3 : Int32)))), .val (.int (p2 &&& (3 : Int32))), .val (.int (((p2.toUInt32 >>> ((2 : Int32) &&& 31).toUInt32).toInt32) &&& (7 : Int32))), .val (.int (p3 &&& (3 : Int32))), .val (.int (((p3.toUInt32 >>> ((2 : Int32) &&& 31).toUInt32).toInt32) &&& (7 : Int32))), .val (.int (1 : Int32)), .val (.ref b5), .unset, .unset, .unset, .unset, .unset, .unset] [(.int (255 : Int32)), (.int ((p4.toUInt32 >>> ((1 : Int32) &&& 31).toUInt32).toInt32)), (.int (0 : Int32)), (.ref b5)])) _
    refine XS.iand X5.here hx rfl (hb hby at_61) rfl ?_
    show Steps p.tables e below (T5.setTop (mkF m 62 #[.val (.int p1), .val (.int p2), .val (.int p3), .val (.int p4), .val (.int ((1 : Int32) + (p1 &&& (3 : Int32)))), .val (.int (p2 &&& (3 : Int32))), .val (.int (((p2.toUInt32 >>> ((2 : Int32) &&& 31).toUInt32).toInt32) &&& (7 : Int32))), .val (.int (p3 &&& (3 : Int32))), .val (.int (((p3.toUInt32 >>> ((2 : Int32) &&& 31).toUInt32).toInt32) &&& (7 : Int32))), .val (.int (1 : Int32)), .val (.ref b5), .unset, .unset, .unset, .unset, .unset, .unset] [(.int (((p4.toUInt32 >>> ((1 : Int32) &&& 31).toUInt32).toInt32) &&& (255 : Int32))), (.int (0 : Int32)), (.ref b5)])) _
    refine XS.i2c X5.here hx rfl (hb hby at_62) rfl ?_
    show Steps p.tables e below (T5.setTop (mkF m 63 #[.val (.int p1), .val (.int p2), .val (.int p3), .val (.int p4), .val (.int ((1 : Int32) + (p1 &&& (3 : Int32)))), .val (.int (p2 &&& (3 : Int32))), .val (.int (((p2.toUInt32 >>> ((2 : Int32) &&& 31).toUInt32).toInt32) &&& (7 : Int32))), .val (.int (p3 &&& (3 : Int32))), .val (.int (((p3.toUInt32 >>> ((2 : Int32) &&& 31).toUInt32).toInt32) &&& (7 : Int32))), .val (.int (1 : Int32)), .val (.ref b5), .unset, .unset, .unset, .unset, .unset, .unset] [(.int ((((p4.toUInt32 >>> ((1 : Int32) &&& 31).toUInt32).toInt32) &&& (255 : Int32)).toUInt32.toUInt16.toUInt32.toInt32)), (.int (0 : Int32)), (.ref b5)])) _
    refine st6 _ ?_
    show Steps p.tables e below (T6.setTop (mkF m 64 #[.val (.int p1), .val (.int p2), .val (.int p3), .val (.int p4), .val (.int ((1 : Int32) + (p1 &&& (3 : Int32)))), .val (.int (p2 &&& (3 : Int32))), .val (.int (((p2.toUInt32 >>> ((2 : Int32) &&& 31).toUInt32).toInt32) &&& (7 : Int32))), .val (.int (p3 &&& (3 : Int32))), .val (.int (((p3.toUInt32 >>> ((2 : Int32) &&& 31).toUInt32).toInt32) &&& (7 : Int32))), .val (.int (1 : Int32)), .val (.ref b5), .unset, .unset, .unset, .unset, .unset, .unset] [])) _
    refine XS.aload X6.here hx rfl (hb hby at_64) rfl rfl ?_
    show Steps p.tables e below (T6.setTop (mkF m 66 #[.val (.int p1), .val (.int p2), .val (.int p3), .val (.int p4), .val (.int ((1 : Int32) + (p1 &&& (3 : Int32)))), .val (.int (p2 &&& (3 : Int32))), .val (.int (((p2.toUInt32 >>> ((2 : Int32) &&& 31).toUInt32).toInt32) &&& (7 : Int32))), .val (.int (p3 &&& (3 : Int32))), .val (.int (((p3.toUInt32 >>> ((2 : Int32) &&& 31).toUInt32).toInt32) &&& (7 : Int32))), .val (.int (1 : Int32)), .val (.ref b5), .unset, .unset, .unset, .unset, .unset, .unset] [(.ref b5)])) _
    refine XS.iconst X6.here hx rfl (hb hby at_66) ?_
    show Steps p.tables e below (T6.setTop (mkF m 67 #[.val (.int p1), .val (.int p2), .val (.int p3), .val (.int p4), .val (.int ((1 : Int32) + (p1 &&& (3 : Int32)))), .val (.int (p2 &&& (3 : Int32))), .val (.int (((p2.toUInt32 >>> ((2 : Int32) &&& 31).toUInt32).toInt32) &&& (7 : Int32))), .val (.int (p3 &&& (3 : Int32))), .val (.int (((p3.toUInt32 >>> ((2 : Int32) &&& 31).toUInt32).toInt32) &&& (7 : Int32))), .val (.int (1 : Int32)), .val (.ref b5), .unset, .unset, .unset, .unset, .unset, .unset] [(.int (5 : Int32)), (.ref b5)])) _
    refine XS.iloadN X6.here hx rfl (hb hby at_67) rfl ?_
    show Steps p.tables e below (T6.setTop (mkF m 68 #[.val (.int p1), .val (.int p2), .val (.int p3), .val (.int p4), .val (.int ((1 : Int32) + (p1 &&& (3 : Int32)))), .val (.int (p2 &&& (3 : Int32))), .val (.int (((p2.toUInt32 >>> ((2 : Int32) &&& 31).toUInt32).toInt32) &&& (7 : Int32))), .val (.int (p3 &&& (3 : Int32))), .val (.int (((p3.toUInt32 >>> ((2 : Int32) &&& 31).toUInt32).toInt32) &&& (7 : Int32))), .val (.int (1 : Int32)), .val (.ref b5), .unset, .unset, .unset, .unset, .unset, .unset] [(.int p4), (.int (5 : Int32)), (.ref b5)])) _
    refine XS.bipush X6.here hx rfl (hb hby at_68) ?_
    show Steps p.tables e below (T6.setTop (mkF m 70 #[.val (.int p1), .val (.int p2), .val (.int p3), .val (.int p4), .val (.int ((1 : Int32) + (p1 &&& (3 : Int32)))), .val (.int (p2 &&& (3 : Int32))), .val (.int (((p2.toUInt32 >>> ((2 : Int32) &&& 31).toUInt32).toInt32) &&& (7 : Int32))), .val (.int (p3 &&& (3 : Int32))), .val (.int (((p3.toUInt32 >>> ((2 : Int32) &&& 31).toUInt32).toInt32) &&& (7 : Int32))), .val (.int (1 : Int32)), .val (.ref b5), .unset, .unset, .unset, .unset, .unset, .unset] [(.int (9 : Int32)), (.int p4), (.int (5 : Int32)), (.ref b5)])) _
    refine XS.iushr X6.here hx rfl (hb hby at_70) rfl ?_
    show Steps p.tables e below (T6.setTop (mkF m 71 #[.val (.int p1), .val (.int p2), .val (.int p3), .val (.int p4), .val (.int ((1 : Int32) + (p1 &&& (3 : Int32)))), .val (.int (p2 &&& (3 : Int32))), .val (.int (((p2.toUInt32 >>> ((2 : Int32) &&& 31).toUInt32).toInt32) &&& (7 : Int32))), .val (.int (p3 &&& (3 : Int32))), .val (.int (((p3.toUInt32 >>> ((2 : Int32) &&& 31).toUInt32).toInt32) &&& (7 : Int32))), .val (.int (1 : Int32)), .val (.ref b5), .unset, .unset, .unset, .unset, .unset, .unset] [(.int ((p4.toUInt32 >>> ((9 : Int32) &&& 31).toUInt32).toInt32)), (.int (5 : Int32)), (.ref b5)])) _
    refine XS.sipush X6.here hx rfl (hb hby at_71) ?_
    show Steps p.tables e below (T6.setTop (mkF m 74 #[.val (.int p1), .val (.int p2), .val (.int p3), .val (.int p4), .val (.int ((1 : Int32) + (p1 &&& (3 : Int32)))), .val (.int (p2 &&& (3 : Int32))), .val (.int (((p2.toUInt32 >>> ((2 : Int32) &&& 31).toUInt32).toInt32) &&& (7 : Int32))), .val (.int (p3 &&& (3 : Int32))), .val (.int (((p3.toUInt32 >>> ((2 : Int32) &&& 31).toUInt32).toInt32) &&& (7 : Int32))), .val (.int (1 : Int32)), .val (.ref b5), .unset, .unset, .unset, .unset, .unset, .unset] [(.int (255 : Int32)), (.int ((p4.toUInt32 >>> ((9 : Int32) &&& 31).toUInt32).toInt32)), (.int (5 : Int32)), (.ref b5)])) _
    refine XS.iand X6.here hx rfl (hb hby at_74) rfl ?_
    show Steps p.tables e below (T6.setTop (mkF m 75 #[.val (.int p1), .val (.int p2), .val (.int p3), .val (.int p4), .val (.int ((1 : Int32) + (p1 &&& (3 : Int32)))), .val (.int (p2 &&& (3 : Int32))), .val (.int (((p2.toUInt32 >>> ((2 : Int32) &&& 31).toUInt32).toInt32) &&& (7 : Int32))), .val (.int (p3 &&& (3 : Int32))), .val (.int (((p3.toUInt32 >>> ((2 : Int32) &&& 31).toUInt32).toInt32) &&& (7 : Int32))), .val (.int (1 : Int32)), .val (.ref b5), .unset, .unset, .unset, .unset, .unset, .unset] [(.int (((p4.toUInt32 >>> ((9 : Int32) &&& 31).toUInt32).toInt32) &&& (255 : Int32))), (.int (5 : Int32)), (.ref b5)])) _
    refine XS.i2c X6.here hx rfl (hb hby at_75) rfl ?_
    show Steps p.tables e below (T6.setTop (mkF m 76 #[.val (.int p1), .val (.int p2), .val (.int p3), .val (.int p4), .val (.int ((1 : Int32) + (p1 &&& (3 : Int32)))), .val (.int (p2 &&& (3 : Int32))), .val (.int (((p2.toUInt32 >>> ((2 : Int32) &&& 31).toUInt32).toInt32) &&& (7 : Int32))), .val (.int (p3 &&& (3 : Int32))), .val (.int (((p3.toUInt32 >>> ((2 : Int32) &&& 31).toUInt32).toInt32) &&& (7 : Int32))), .val (.int (1 : Int32)), .val (.ref b5), .unset, .unset, .unset, .unset, .unset, .unset] [(.int ((((p4.toUInt32 >>> ((9 : Int32) &&& 31).toUInt32).toInt32) &&& (255 : Int32)).toUInt32.toUInt16.toUInt32.toInt32)), (.int (5 : Int32)), (.ref b5)])) _
    refine st7 _ ?_
    show Steps p.tables e below (T7.setTop (mkF m 77 #[.val (.int p1), .val (.int p2), .val (.int p3), .val (.int p4), .val (.int ((1 : Int32) + (p1 &&& (3 : Int32)))), .val (.int (p2 &&& (3 : Int32))), .val (.int (((p2.toUInt32 >>> ((2 : Int32) &&& 31).toUInt32).toInt32) &&& (7 : Int32))), .val (.int (p3 &&& (3 : Int32))), .val (.int (((p3.toUInt32 >>> ((2 : Int32) &&& 31).toUInt32).toInt32) &&& (7 : Int32))), .val (.int (1 : Int32)), .val (.ref b5), .unset, .unset, .unset, .unset, .unset, .unset] [])) _
    refine st8 _ ?_
    show Steps p.tables e below (T8.setTop (mkF m 80 #[.val (.int p1), .val (.int p2), .val (.int p3), .val (.int p4), .val (.int ((1 : Int32) + (p1 &&& (3 : Int32)))), .val (.int (p2 &&& (3 : Int32))), .val (.int (((p2.toUInt32 >>> ((2 : Int32) &&& 31).toUInt32).toInt32) &&& (7 : Int32))), .val (.int (p3 &&& (3 : Int32))), .val (.int (((p3.toUInt32 >>> ((2 : Int32) &&& 31).toUInt32).toInt32) &&& (7 : Int32))), .val (.int (1 : Int32)), .val (.ref b5), .unset, .unset, .unset, .unset, .unset, .unset] [(.ref b8)])) _
    refine XS.dup X8.here hx rfl (hb hby at_80) rfl rfl ?_
    show Steps p.tables e below (T8.setTop (mkF m 81 #[.val (.int p1), .val (.int p2), .val (.int p3), .val (.int p4), .val (.int ((1 : Int32) + (p1 &&& (3 : Int32)))), .val (.int (p2 &&& (3 : Int32))), .val (.int (((p2.toUInt32 >>> ((2 : Int32) &&& 31).toUInt32).toInt32) &&& (7 : Int32))), .val (.int (p3 &&& (3 : Int32))), .val (.int (((p3.toUInt32 >>> ((2 : Int32) &&& 31).toUInt32).toInt32) &&& (7 : Int32))), .val (.int (1 : Int32)), .val (.ref b5), .unset, .unset, .unset, .unset, .unset, .unset] [(.ref b8), (.ref b8)])) _
    refine XS.iload X8.here hx rfl (hb hby at_81) rfl ?_
    show Steps p.tables e below (T8.setTop (mkF m 83 #[.val (.int p1), .val (.int p2), .val (.int p3), .val (.int p4), .val (.int ((1 : Int32) + (p1 &&& (3 : Int32)))), .val (.int (p2 &&& (3 : Int32))), .val (.int (((p2.toUInt32 >>> ((2 : Int32) &&& 31).toUInt32).toInt32) &&& (7 : Int32))), .val (.int (p3 &&& (3 : Int32))), .val (.int (((p3.toUInt32 >>> ((2 : Int32) &&& 31).toUInt32).toInt32) &&& (7 : Int32))), .val (.int (1 : Int32)), .val (.ref b5), .unset, .unset, .unset, .unset, .unset, .unset] [(.int ((1 : Int32) + (p1 &&& (3 : Int32)))), (.ref b8), (.ref b8)])) _
    refine st9.trans ?_
    show Steps p.tables e below (T9.setTop (mkF m 86 #[.val (.int p1), .val (.int p2), .val (.int p3), .val (.int p4), .val (.int ((1 : Int32) + (p1 &&& (3 : Int32)))), .val (.int (p2 &&& (3 : Int32))), .val (.int (((p2.toUInt32 >>> ((2 : Int32) &&& 31).toUInt32).toInt32) &&& (7 : Int32))), .val (.int (p3 &&& (3 : Int32))), .val (.int (((p3.toUInt32 >>> ((2 : Int32) &&& 31).toUInt32).toInt32) &&& (7 : Int32))), .val (.int (1 : Int32)), .val (.ref b5), .unset, .unset, .unset, .unset, .unset, .unset] [(.ref b8)])) _
    refine XS.astore X9.here hx rfl (hb hby at_86) rfl rfl (l' := #[.val (.int p1), .val (.int p2), .val (.int p3), .val (.int p4), .val (.int ((1 : Int32) + (p1 &&& (3 : Int32)))), .val (.int (p2 &&& (3 : Int32))), .val (.int (((p2.toUInt32 >>> ((2 : Int32) &&& 31).toUInt32).toInt32) &&& (7 : Int32))), .val (.int (p3 &&& (3 : Int32))), .val (.int (((p3.toUInt32 >>> ((2 : Int32) &&& 31).toUInt32).toInt32) &&& (7 : Int32))), .val (.int (1 : Int32)), .val (.ref b5), .val (.ref b8), .unset, .unset, .unset, .unset, .unset]) rfl ?_
    show Steps p.tables e below (T9.setTop (mkF m 88 #[.val (.int p1), .val (.int p2), .val (.int p3), .val (.int p4), .val (.int ((1 : Int32) + (p1 &&& (3 : Int32)))), .val (.int (p2 &&& (3 : Int32))), .val (.int (((p2.toUInt32 >>> ((2 : Int32) &&& 31).toUInt32).toInt32) &&& (7 : Int32))), .val (.int (p3 &&& (3 : Int32))), .val (.int (((p3.toUInt32 >>> ((2 : Int32) &&& 31).toUInt32).toInt32) &&& (7 : Int32))), .val (.int (1 : Int32)), .val (.ref b5), .val (.ref b8), .unset, .unset, .unset, .unset, .unset] [])) _
    refine XS.aload X9.here hx rfl (hb hby at_88) rfl rfl ?_
    show Steps p.tables e below (T9.setTop (mkF m 90 #[.val (.int p1), .val (.int p2), .val (.int p3), .val (.int p4), .val (.int ((1 : Int32) + (p1 &&& (3 : Int32)))), .val (.int (p2 &&& (3 : Int32))), .val (.int (((p2.toUInt32 >>> ((2 : Int32) &&& 31).toUInt32).toInt32) &&& (7 : Int32))), .val (.int (p3 &&& (3 : Int32))), .val (.int (((p3.toUInt32 >>> ((2 : Int32) &&& 31).toUInt32).toInt32) &&& (7 : Int32))), .val (.int (1 : Int32)), .val (.ref b5), .val (.ref b8), .unset, .unset, .unset, .unset, .unset] [(.ref b8)])) _
    refine st10.trans ?_
    show Steps p.tables e below (T10.setTop (mkF m 93 #[.val (.int p1), .val (.int p2), .val (.int p3), .val (.int p4), .val (.int ((1 : Int32) + (p1 &&& (3 : Int32)))), .val (.int (p2 &&& (3 : Int32))), .val (.int (((p2.toUInt32 >>> ((2 : Int32) &&& 31).toUInt32).toInt32) &&& (7 : Int32))), .val (.int (p3 &&& (3 : Int32))), .val (.int (((p3.toUInt32 >>> ((2 : Int32) &&& 31).toUInt32).toInt32) &&& (7 : Int32))), .val (.int (1 : Int32)), .val (.ref b5), .val (.ref b8), .unset, .unset, .unset, .unset, .unset] [(.int (own_emp (0 : Int32)))])) _
    refine XS.istore X10.here hx rfl (hb hby at_93) rfl (l' := #[.val (.int p1), .val (.int p2), .val (.int p3), .val (.int p4), .val (.int ((1 : Int32) + (p1 &&& (3 : Int32)))), .val (.int (p2 &&& (3 : Int32))), .val (.int (((p2.toUInt32 >>> ((2 : Int32) &&& 31).toUInt32).toInt32) &&& (7 : Int32))), .val (.int (p3 &&& (3 : Int32))), .val (.int (((p3.toUInt32 >>> ((2 : Int32) &&& 31).toUInt32).toInt32) &&& (7 : Int32))), .val (.int (1 : Int32)), .val (.ref b5), .val (.ref b8), .val (.int (own_emp (0 : Int32))), .unset, .unset, .unset, .unset]) rfl ?_
    show Steps p.tables e below (T10.setTop (mkF m 95 #[.val (.int p1), .val (.int p2), .val (.int p3), .val (.int p4), .val (.int ((1 : Int32) + (p1 &&& (3 : Int32)))), .val (.int (p2 &&& (3 : Int32))), .val (.int (((p2.toUInt32 >>> ((2 : Int32) &&& 31).toUInt32).toInt32) &&& (7 : Int32))), .val (.int (p3 &&& (3 : Int32))), .val (.int (((p3.toUInt32 >>> ((2 : Int32) &&& 31).toUInt32).toInt32) &&& (7 : Int32))), .val (.int (1 : Int32)), .val (.ref b5), .val (.ref b8), .val (.int (own_emp (0 : Int32))), .unset, .unset, .unset, .unset] [])) _
    refine XS.aload X10.here hx rfl (hb hby at_95) rfl rfl ?_
    show Steps p.tables e below (T10.setTop (mkF m 97 #[.val (.int p1), .val (.int p2), .val (.int p3), .val (.int p4), .val (.int ((1 : Int32) + (p1 &&& (3 : Int32)))), .val (.int (p2 &&& (3 : Int32))), .val (.int (((p2.toUInt32 >>> ((2 : Int32) &&& 31).toUInt32).toInt32) &&& (7 : Int32))), .val (.int (p3 &&& (3 : Int32))), .val (.int (((p3.toUInt32 >>> ((2 : Int32) &&& 31).toUInt32).toInt32) &&& (7 : Int32))), .val (.int (1 : Int32)), .val (.ref b5), .val (.ref b8), .val (.int (own_emp (0 : Int32))), .unset, .unset, .unset, .unset] [(.ref b8)])) _
    refine XS.aload X10.here hx rfl (hb hby at_97) rfl rfl ?_
    show Steps p.tables e below (T10.setTop (mkF m 99 #[.val (.int p1), .val (.int p2), .val (.int p3), .val (.int p4), .val (.int ((1 : Int32) + (p1 &&& (3 : Int32)))), .val (.int (p2 &&& (3 : Int32))), .val (.int (((p2.toUInt32 >>> ((2 : Int32) &&& 31).toUInt32).toInt32) &&& (7 : Int32))), .val (.int (p3 &&& (3 : Int32))), .val (.int (((p3.toUInt32 >>> ((2 : Int32) &&& 31).toUInt32).toInt32) &&& (7 : Int32))), .val (.int (1 : Int32)), .val (.ref b5), .val (.ref b8), .val (.int (own_emp (0 : Int32))), .unset, .unset, .unset, .unset] [(.ref b5), (.ref b8)])) _
    refine XS.iload X10.here hx rfl (hb hby at_99) rfl ?_
    show Steps p.tables e below (T10.setTop (mkF m 101 #[.val (.int p1), .val (.int p2), .val (.int p3), .val (.int p4), .val (.int ((1 : Int32) + (p1 &&& (3 : Int32)))), .val (.int (p2 &&& (3 : Int32))), .val (.int (((p2.toUInt32 >>> ((2 : Int32) &&& 31).toUInt32).toInt32) &&& (7 : Int32))), .val (.int (p3 &&& (3 : Int32))), .val (.int (((p3.toUInt32 >>> ((2 : Int32) &&& 31).toUInt32).toInt32) &&& (7 : Int32))), .val (.int (1 : Int32)), .val (.ref b5), .val (.ref b8), .val (.int (own_emp (0 : Int32))), .unset, .unset, .unset, .unset] [(.int (p2 &&& (3 : Int32))), (.ref b5), (.ref b8)])) _
    refine XS.iload X10.here hx rfl (hb hby at_101) rfl ?_
    show Steps p.tables e below (T10.setTop (mkF m 103 #[.val (.int p1), .val (.int p2), .val (.int p3), .val (.int p4), .val (.int ((1 : Int32) + (p1 &&& (3 : Int32)))), .val (.int (p2 &&& (3 : Int32))), .val (.int (((p2.toUInt32 >>> ((2 : Int32) &&& 31).toUInt32).toInt32) &&& (7 : Int32))), .val (.int (p3 &&& (3 : Int32))), .val (.int (((p3.toUInt32 >>> ((2 : Int32) &&& 31).toUInt32).toInt32) &&& (7 : Int32))), .val (.int (1 : Int32)), .val (.ref b5), .val (.ref b8), .val (.int (own_emp (0 : Int32))), .unset, .unset, .unset, .unset] [(.int (((p2.toUInt32 >>> ((2 : Int32) &&& 31).toUInt32).toInt32) &&& (7 : Int32))), (.int (p2 &&& (3 : Int32))), (.ref b5), (.ref b8)])) _
    refine st11.trans ?_
    show Steps p.tables e below (T11.setTop (mkF m 106 #[.val (.int p1), .val (.int p2), .val (.int p3), .val (.int p4), .val (.int ((1 : Int32) + (p1 &&& (3 : Int32)))), .val (.int (p2 &&& (3 : Int32))), .val (.int (((p2.toUInt32 >>> ((2 : Int32) &&& 31).toUInt32).toInt32) &&& (7 : Int32))), .val (.int (p3 &&& (3 : Int32))), .val (.int (((p3.toUInt32 >>> ((2 : Int32) &&& 31).toUInt32).toInt32) &&& (7 : Int32))), .val (.int (1 : Int32)), .val (.ref b5), .val (.ref b8), .val (.int (own_emp (0 : Int32))), .unset, .unset, .unset, .unset] [])) _
    refine XS.aload X11.here hx rfl (hb hby at_106) rfl rfl ?_
    show Steps p.tables e below (T11.setTop (mkF m 108 #[.val (.int p1), .val (.int p2), .val (.int p3), .val (.int p4), .val (.int ((1 : Int32) + (p1 &&& (3 : Int32)))), .val (.int (p2 &&& (3 : Int32))), .val (.int (((p2.toUInt32 >>> ((2 : Int32) &&& 31).toUInt32).toInt32) &&& (7 : Int32))), .val (.int (p3 &&& (3 : Int32))), .val (.int (((p3.toUInt32 >>> ((2 : Int32) &&& 31).toUInt32).toInt32) &&& (7 : Int32))), .val (.int (1 : Int32)), .val (.ref b5), .val (.ref b8), .val (.int (own_emp (0 : Int32))), .unset, .unset, .unset, .unset] [(.ref b8)])) _
    refine st12.trans ?_
    show Steps p.tables e below (T12.setTop (mkF m 111 #[.val (.int p1), .val (.int p2), .val (.int p3), .val (.int p4), .val (.int ((1 : Int32) + (p1 &&& (3 : Int32)))), .val (.int (p2 &&& (3 : Int32))), .val (.int (((p2.toUInt32 >>> ((2 : Int32) &&& 31).toUInt32).toInt32) &&& (7 : Int32))), .val (.int (p3 &&& (3 : Int32))), .val (.int (((p3.toUInt32 >>> ((2 : Int32) &&& 31).toUInt32).toInt32) &&& (7 : Int32))), .val (.int (1 : Int32)), .val (.ref b5), .val (.ref b8), .val (.int (own_emp (0 : Int32))), .unset, .unset, .unset, .unset] [(.int (own_emp ((0 : Int32) + (own_min ((p2.toUInt32 >>> ((2 : Int32) &&& 31).toUInt32).toInt32 &&& (7 : Int32)) (((1 : Int32) + (p1 &&& (3 : Int32))) - (0 : Int32))))))])) _
    refine XS.istore X12.here hx rfl (hb hby at_111) rfl (l' := #[.val (.int p1), .val (.int p2), .val (.int p3), .val (.int p4), .val (.int ((1 : Int32) + (p1 &&& (3 : Int32)))), .val (.int (p2 &&& (3 : Int32))), .val (.int (((p2.toUInt32 >>> ((2 : Int32) &&& 31).toUInt32).toInt32) &&& (7 : Int32))), .val (.int (p3 &&& (3 : Int32))), .val (.int (((p3.toUInt32 >>> ((2 : Int32) &&& 31).toUInt32).toInt32) &&& (7 : Int32))), .val (.int (1 : Int32)), .val (.ref b5), .val (.ref b8), .val (.int (own_emp (0 : Int32))), .val (.int (own_emp ((0 : Int32) + (own_min ((p2.toUInt32 >>> ((2 : Int32) &&& 31).toUInt32).toInt32 &&& (7 : Int32)) (((1 : Int32) + (p1 &&& (3 : Int32))) - (0 : Int32)))))), .unset, .unset, .unset]) rfl ?_
    show Steps p.tables e below (T12.setTop (mkF m 113 #[.val (.int p1), .val (.int p2), .val (.int p3), .val (.int p4), .val (.int ((1 : Int32) + (p1 &&& (3 : Int32)))), .val (.int (p2 &&& (3 : Int32))), .val (.int (((p2.toUInt32 >>> ((2 : Int32) &&& 31).toUInt32).toInt32) &&& (7 : Int32))), .val (.int (p3 &&& (3 : Int32))), .val (.int (((p3.toUInt32 >>> ((2 : Int32) &&& 31).toUInt32).toInt32) &&& (7 : Int32))), .val (.int (1 : Int32)), .val (.ref b5), .val (.ref b8), .val (.int (own_emp (0 : Int32))), .val (.int (own_emp ((0 : Int32) + (own_min ((p2.toUInt32 >>> ((2 : Int32) &&& 31).toUInt32).toInt32 &&& (7 : Int32)) (((1 : Int32) + (p1 &&& (3 : Int32))) - (0 : Int32)))))), .unset, .unset, .unset] [])) _
    refine XS.iload X12.here hx rfl (hb hby at_113) rfl ?_
    show Steps p.tables e below (T12.setTop (mkF m 115 #[.val (.int p1), .val (.int p2), .val (.int p3), .val (.int p4), .val (.int ((1 : Int32) + (p1 &&& (3 : Int32)))), .val (.int (p2 &&& (3 : Int32))), .val (.int (((p2.toUInt32 >>> ((2 : Int32) &&& 31).toUInt32).toInt32) &&& (7 : Int32))), .val (.int (p3 &&& (3 : Int32))), .val (.int (((p3.toUInt32 >>> ((2 : Int32) &&& 31).toUInt32).toInt32) &&& (7 : Int32))), .val (.int (1 : Int32)), .val (.ref b5), .val (.ref b8), .val (.int (own_emp (0 : Int32))), .val (.int (own_emp ((0 : Int32) + (own_min ((p2.toUInt32 >>> ((2 : Int32) &&& 31).toUInt32).toInt32 &&& (7 : Int32)) (((1 : Int32) + (p1 &&& (3 : Int32))) - (0 : Int32)))))), .unset, .unset, .unset] [(.int (1 : Int32))])) _
    refine XS.ifNo X12.here hx rfl (hb hby at_115) rfl ((if0 _ _).trans (feq (by decide : ¬ ((1 : Int32) = (0 : Int32)))).1) ?_
    show Steps p.tables e below (T12.setTop (mkF m 118 #[.val (.int p1), .val (.int p2), .val (.int p3), .val (.int p4), .val (.int ((1 : Int32) + (p1 &&& (3 : Int32)))), .val (.int (p2 &&& (3 : Int32))), .val (.int (((p2.toUInt32 >>> ((2 : Int32) &&& 31).toUInt32).toInt32) &&& (7 : Int32))), .val (.int (p3 &&& (3 : Int32))), .val (.int (((p3.toUInt32 >>> ((2 : Int32) &&& 31).toUInt32).toInt32) &&& (7 : Int32))), .val (.int (1 : Int32)), .val (.ref b5), .val (.ref b8), .val (.int (own_emp (0 : Int32))), .val (.int (own_emp ((0 : Int32) + (own_min ((p2.toUInt32 >>> ((2 : Int32) &&& 31).toUInt32).toInt32 &&& (7 : Int32)) (((1 : Int32) + (p1 &&& (3 : Int32))) - (0 : Int32)))))), .unset, .unset, .unset] [])) _
    refine XS.aload X12.here hx rfl (hb hby at_118) rfl rfl ?_
    show Steps p.tables e below (T12.setTop (mkF m 120 #[.val (.int p1), .val (.int p2), .val (.int p3), .val (.int p4), .val (.int ((1 : Int32) + (p1 &&& (3 : Int32)))), .val (.int (p2 &&& (3 : Int32))), .val (.int (((p2.toUInt32 >>> ((2 : Int32) &&& 31).toUInt32).toInt32) &&& (7 : Int32))), .val (.int (p3 &&& (3 : Int32))), .val (.int (((p3.toUInt32 >>> ((2 : Int32) &&& 31).toUInt32).toInt32) &&& (7 : Int32))), .val (.int (1 : Int32)), .val (.ref b5), .val (.ref b8), .val (.int (own_emp (0 : Int32))), .val (.int (own_emp ((0 : Int32) + (own_min ((p2.toUInt32 >>> ((2 : Int32) &&& 31).toUInt32).toInt32 &&& (7 : Int32)) (((1 : Int32) + (p1 &&& (3 : Int32))) - (0 : Int32)))))), .unset, .unset, .unset] [(.ref b8)])) _
    refine st13.trans ?_
    show Steps p.tables e below (T13.setTop (mkF m 123 #[.val (.int p1), .val (.int p2), .val (.int p3), .val (.int p4), .val (.int ((1 : Int32) + (p1 &&& (3 : Int32)))), .val (.int (p2 &&& (3 : Int32))), .val (.int (((p2.toUInt32 >>> ((2 : Int32) &&& 31).toUInt32).toInt32) &&& (7 : Int32))), .val (.int (p3 &&& (3 : Int32))), .val (.int (((p3.toUInt32 >>> ((2 : Int32) &&& 31).toUInt32).toInt32) &&& (7 : Int32))), .val (.int (1 : Int32)), .val (.ref b5), .val (.ref b8), .val (.int (own_emp (0 : Int32))), .val (.int (own_emp ((0 : Int32) + (own_min ((p2.toUInt32 >>> ((2 : Int32) &&& 31).toUInt32).toInt32 &&& (7 : Int32)) (((1 : Int32) + (p1 &&& (3 : Int32))) - (0 : Int32)))))), .unset, .unset, .unset] [])) _
    refine XS.aload X13.here hx rfl (hb hby at_123) rfl rfl ?_
    show Steps p.tables e below (T13.setTop (mkF m 125 #[.val (.int p1), .val (.int p2), .val (.int p3), .val (.int p4), .val (.int ((1 : Int32) + (p1 &&& (3 : Int32)))), .val (.int (p2 &&& (3 : Int32))), .val (.int (((p2.toUInt32 >>> ((2 : Int32) &&& 31).toUInt32).toInt32) &&& (7 : Int32))), .val (.int (p3 &&& (3 : Int32))), .val (.int (((p3.toUInt32 >>> ((2 : Int32) &&& 31).toUInt32).toInt32) &&& (7 : Int32))), .val (.int (1 : Int32)), .val (.ref b5), .val (.ref b8), .val (.int (own_emp (0 : Int32))), .val (.int (own_emp ((0 : Int32) + (own_min ((p2.toUInt32 >>> ((2 : Int32) &&& 31).toUInt32).toInt32 &&& (7 : Int32)) (((1 : Int32) + (p1 &&& (3 : Int32))) - (0 : Int32)))))), .unset, .unset, .unset] [(.ref b8)])) _
    refine XS.aload X13.here hx rfl (hb hby at_125) rfl rfl ?_
    show Steps p.tables e below (T13.setTop (mkF m 127 #[.val (.int p1), .val (.int p2), .val (.int p3), .val (.int p4), .val (.int ((1 : Int32) + (p1 &&& (3 : Int32)))), .val (.int (p2 &&& (3 : Int32))), .val (.int (((p2.toUInt32 >>> ((2 : Int32) &&& 31).toUInt32).toInt32) &&& (7 : Int32))), .val (.int (p3 &&& (3 : Int32))), .val (.int (((p3.toUInt32 >>> ((2 : Int32) &&& 31).toUInt32).toInt32) &&& (7 : Int32))), .val (.int (1 : Int32)), .val (.ref b5), .val (.ref b8), .val (.int (own_emp (0 : Int32))), .val (.int (own_emp ((0 : Int32) + (own_min ((p2.toUInt32 >>> ((2 : Int32) &&& 31).toUInt32).toInt32 &&& (7 : Int32)) (((1 : Int32) + (p1 &&& (3 : Int32))) - (0 : Int32)))))), .unset, .unset, .unset] [(.ref b5), (.ref b8)])) _
    refine XS.iload X13.here hx rfl (hb hby at_127) rfl ?_
    show Steps p.tables e below (T13.setTop (mkF m 129 #[.val (.int p1), .val (.int p2), .val (.int p3), .val (.int p4), .val (.int ((1 : Int32) + (p1 &&& (3 : Int32)))), .val (.int (p2 &&& (3 : Int32))), .val (.int (((p2.toUInt32 >>> ((2 : Int32) &&& 31).toUInt32).toInt32) &&& (7 : Int32))), .val (.int (p3 &&& (3 : Int32))), .val (.int (((p3.toUInt32 >>> ((2 : Int32) &&& 31).toUInt32).toInt32) &&& (7 : Int32))), .val (.int (1 : Int32)), .val (.ref b5), .val (.ref b8), .val (.int (own_emp (0 : Int32))), .val (.int (own_emp ((0 : Int32) + (own_min ((p2.toUInt32 >>> ((2 : Int32) &&& 31).toUInt32).toInt32 &&& (7 : Int32)) (((1 : Int32) + (p1 &&& (3 : Int32))) - (0 : Int32)))))), .unset, .unset, .unset] [(.int (p3 &&& (3 : Int32))), (.ref b5), (.ref b8)])) _
    refine XS.iload X13.here hx rfl (hb hby at_129) rfl ?_
    show Steps p.tables e below (T13.setTop (mkF m 131 #[.val (.int p1), .val (.int p2), .val (.int p3), .val (.int p4), .val (.int ((1 : Int32) + (p1 &&& (3 : Int32)))), .val (.int (p2 &&& (3 : Int32))), .val (.int (((p2.toUInt32 >>> ((2 : Int32) &&& 31).toUInt32).toInt32) &&& (7 : Int32))), .val (.int (p3 &&& (3 : Int32))), .val (.int (((p3.toUInt32 >>> ((2 : Int32) &&& 31).toUInt32).toInt32) &&& (7 : Int32))), .val (.int (1 : Int32)), .val (.ref b5), .val (.ref b8), .val (.int (own_emp (0 : Int32))), .val (.int (own_emp ((0 : Int32) + (own_min ((p2.toUInt32 >>> ((2 : Int32) &&& 31).toUInt32).toInt32 &&& (7 : Int32)) (((1 : Int32) + (p1 &&& (3 : Int32))) - (0 : Int32)))))), .unset, .unset, .unset] [(.int (((p3.toUInt32 >>> ((2 : Int32) &&& 31).toUInt32).toInt32) &&& (7 : Int32))), (.int (p3 &&& (3 : Int32))), (.ref b5), (.ref b8)])) _
    refine st14.trans ?_
    show Steps p.tables e below (T14.setTop (mkF m 134 #[.val (.int p1), .val (.int p2), .val (.int p3), .val (.int p4), .val (.int ((1 : Int32) + (p1 &&& (3 : Int32)))), .val (.int (p2 &&& (3 : Int32))), .val (.int (((p2.toUInt32 >>> ((2 : Int32) &&& 31).toUInt32).toInt32) &&& (7 : Int32))), .val (.int (p3 &&& (3 : Int32))), .val (.int (((p3.toUInt32 >>> ((2 : Int32) &&& 31).toUInt32).toInt32) &&& (7 : Int32))), .val (.int (1 : Int32)), .val (.ref b5), .val (.ref b8), .val (.int (own_emp (0 : Int32))), .val (.int (own_emp ((0 : Int32) + (own_min ((p2.toUInt32 >>> ((2 : Int32) &&& 31).toUInt32).toInt32 &&& (7 : Int32)) (((1 : Int32) + (p1 &&& (3 : Int32))) - (0 : Int32)))))), .unset, .unset, .unset] [])) _
    refine XS.aload X14.here hx rfl (hb hby at_134) rfl rfl ?_
    show Steps p.tables e below (T14.setTop (mkF m 136 #[.val (.int p1), .val (.int p2), .val (.int p3), .val (.int p4), .val (.int ((1 : Int32) + (p1 &&& (3 : Int32)))), .val (.int (p2 &&& (3 : Int32))), .val (.int (((p2.toUInt32 >>> ((2 : Int32) &&& 31).toUInt32).toInt32) &&& (7 : Int32))), .val (.int (p3 &&& (3 : Int32))), .val (.int (((p3.toUInt32 >>> ((2 : Int32) &&& 31).toUInt32).toInt32) &&& (7 : Int32))), .val (.int (1 : Int32)), .val (.ref b5), .val (.ref b8), .val (.int (own_emp (0 : Int32))), .val (.int (own_emp ((0 : Int32) + (own_min ((p2.toUInt32 >>> ((2 : Int32) &&& 31).toUInt32).toInt32 &&& (7 : Int32)) (((1 : Int32) + (p1 &&& (3 : Int32))) - (0 : Int32)))))), .unset, .unset, .unset] [(.ref b8)])) _
    refine st15.trans ?_
    show Steps p.tables e below (T15.setTop (mkF m 139 #[.val (.int p1), .val (.int p2), .val (.int p3), .val (.int p4), .val (.int ((1 : Int32) + (p1 &&& (3 : Int32)))), .val (.int (p2 &&& (3 : Int32))), .val (.int (((p2.toUInt32 >>> ((2 : Int32) &&& 31).toUInt32).toInt32) &&& (7 : Int32))), .val (.int (p3 &&& (3 : Int32))), .val (.int (((p3.toUInt32 >>> ((2 : Int32) &&& 31).toUInt32).toInt32) &&& (7 : Int32))), .val (.int (1 : Int32)), .val (.ref b5), .val (.ref b8), .val (.int (own_emp (0 : Int32))), .val (.int (own_emp ((0 : Int32) + (own_min ((p2.toUInt32 >>> ((2 : Int32) &&& 31).toUInt32).toInt32 &&& (7 : Int32)) (((1 : Int32) + (p1 &&& (3 : Int32))) - (0 : Int32)))))), .unset, .unset, .unset] [(.int (own_emp ((0 : Int32) + (own_min ((p3.toUInt32 >>> ((2 : Int32) &&& 31).toUInt32).toInt32 &&& (7 : Int32)) (((1 : Int32) + (p1 &&& (3 : Int32))) - (0 : Int32))))))])) _
    refine XS.istore X15.here hx rfl (hb hby at_139) rfl (l' := #[.val (.int p1), .val (.int p2), .val (.int p3), .val (.int p4), .val (.int ((1 : Int32) + (p1 &&& (3 : Int32)))), .val (.int (p2 &&& (3 : Int32))), .val (.int (((p2.toUInt32 >>> ((2 : Int32) &&& 31).toUInt32).toInt32) &&& (7 : Int32))), .val (.int (p3 &&& (3 : Int32))), .val (.int (((p3.toUInt32 >>> ((2 : Int32) &&& 31).toUInt32).toInt32) &&& (7 : Int32))), .val (.int (1 : Int32)), .val (.ref b5), .val (.ref b8), .val (.int (own_emp (0 : Int32))), .val (.int (own_emp ((0 : Int32) + (own_min ((p2.toUInt32 >>> ((2 : Int32) &&& 31).toUInt32).toInt32 &&& (7 : Int32)) (((1 : Int32) + (p1 &&& (3 : Int32))) - (0 : Int32)))))), .val (.int (own_emp ((0 : Int32) + (own_min ((p3.toUInt32 >>> ((2 : Int32) &&& 31).toUInt32).toInt32 &&& (7 : Int32)) (((1 : Int32) + (p1 &&& (3 : Int32))) - (0 : Int32)))))), .unset, .unset]) rfl ?_
    show Steps p.tables e below (T15.setTop (mkF m 141 #[.val (.int p1), .val (.int p2), .val (.int p3), .val (.int p4), .val (.int ((1 : Int32) + (p1 &&& (3 : Int32)))), .val (.int (p2 &&& (3 : Int32))), .val (.int (((p2.toUInt32 >>> ((2 : Int32) &&& 31).toUInt32).toInt32) &&& (7 : Int32))), .val (.int (p3 &&& (3 : Int32))), .val (.int (((p3.toUInt32 >>> ((2 : Int32) &&& 31).toUInt32).toInt32) &&& (7 : Int32))), .val (.int (1 : Int32)), .val (.ref b5), .val (.ref b8), .val (.int (own_emp (0 : Int32))), .val (.int (own_emp ((0 : Int32) + (own_min ((p2.toUInt32 >>> ((2 : Int32) &&& 31).toUInt32).toInt32 &&& (7 : Int32)) (((1 : Int32) + (p1 &&& (3 : Int32))) - (0 : Int32)))))), .val (.int (own_emp ((0 : Int32) + (own_min ((p3.toUInt32 >>> ((2 : Int32) &&& 31).toUInt32).toInt32 &&& (7 : Int32)) (((1 : Int32) + (p1 &&& (3 : Int32))) - (0 : Int32)))))), .unset, .unset] [])) _
    refine own_s1 X15 hx hZ hw hby hml hown _ ?_
    show Steps p.tables e below (T15.setTop (mkF m 151 #[.val (.int p1), .val (.int p2), .val (.int p3), .val (.int p4), .val (.int ((1 : Int32) + (p1 &&& (3 : Int32)))), .val (.int (p2 &&& (3 : Int32))), .val (.int (((p2.toUInt32 >>> ((2 : Int32) &&& 31).toUInt32).toInt32) &&& (7 : Int32))), .val (.int (p3 &&& (3 : Int32))), .val (.int (((p3.toUInt32 >>> ((2 : Int32) &&& 31).toUInt32).toInt32) &&& (7 : Int32))), .val (.int (1 : Int32)), .val (.ref b5), .val (.ref b8), .val (.int (own_emp (0 : Int32))), .val (.int (own_emp ((0 : Int32) + (own_min ((p2.toUInt32 >>> ((2 : Int32) &&& 31).toUInt32).toInt32 &&& (7 : Int32)) (((1 : Int32) + (p1 &&& (3 : Int32))) - (0 : Int32)))))), .val (.int (own_emp ((0 : Int32) + (own_min ((p3.toUInt32 >>> ((2 : Int32) &&& 31).toUInt32).toInt32 &&& (7 : Int32)) (((1 : Int32) + (p1 &&& (3 : Int32))) - (0 : Int32)))))), .unset, .unset] [(.int (own_x1 ((p2.toUInt32 >>> ((2 : Int32) &&& 31).toUInt32).toInt32 &&& (7 : Int32))))])) _
    refine XS.istore X15.here hx rfl (hb hby at_151) rfl (l' := #[.val (.int p1), .val (.int p2), .val (.int p3), .val (.int p4), .val (.int ((1 : Int32) + (p1 &&& (3 : Int32)))), .val (.int (p2 &&& (3 : Int32))), .val (.int (((p2.toUInt32 >>> ((2 : Int32) &&& 31).toUInt32).toInt32) &&& (7 : Int32))), .val (.int (p3 &&& (3 : Int32))), .val (.int (((p3.toUInt32 >>> ((2 : Int32) &&& 31).toUInt32).toInt32) &&& (7 : Int32))), .val (.int (1 : Int32)), .val (.ref b5), .val (.ref b8), .val (.int (own_emp (0 : Int32))), .val (.int (own_emp ((0 : Int32) + (own_min ((p2.toUInt32 >>> ((2 : Int32) &&& 31).toUInt32).toInt32 &&& (7 : Int32)) (((1 : Int32) + (p1 &&& (3 : Int32))) - (0 : Int32)))))), .val (.int (own_emp ((0 : Int32) + (own_min ((p3.toUInt32 >>> ((2 : Int32) &&& 31).toUInt32).toInt32 &&& (7 : Int32)) (((1 : Int32) + (p1 &&& (3 : Int32))) - (0 : Int32)))))), .val (.int (own_x1 ((p2.toUInt32 >>> ((2 : Int32) &&& 31).toUInt32).toInt32 &&& (7 : Int32)))), .unset]) rfl ?_
    show Steps p.tables e below (T15.setTop (mkF m 153 #[.val (.int p1), .val (.int p2), .val (.int p3), .val (.int p4), .val (.int ((1 : Int32) + (p1 &&& (3 : Int32)))), .val (.int (p2 &&& (3 : Int32))), .val (.int (((p2.toUInt32 >>> ((2 : Int32) &&& 31).toUInt32).toInt32) &&& (7 : Int32))), .val (.int (p3 &&& (3 : Int32))), .val (.int (((p3.toUInt32 >>> ((2 : Int32) &&& 31).toUInt32).toInt32) &&& (7 : Int32))), .val (.int (1 : Int32)), .val (.ref b5), .val (.ref b8), .val (.int (own_emp (0 : Int32))), .val (.int (own_emp ((0 : Int32) + (own_min ((p2.toUInt32 >>> ((2 : Int32) &&& 31).toUInt32).toInt32 &&& (7 : Int32)) (((1 : Int32) + (p1 &&& (3 : Int32))) - (0 : Int32)))))), .val (.int (own_emp ((0 : Int32) + (own_min ((p3.toUInt32 >>> ((2 : Int32) &&& 31).toUInt32).toInt32 &&& (7 : Int32)) (((1 : Int32) + (p1 &&& (3 : Int32))) - (0 : Int32)))))), .val (.int (own_x1 ((p2.toUInt32 >>> ((2 : Int32) &&& 31).toUInt32).toInt32 &&& (7 : Int32)))), .unset] [])) _
    refine XS.iload X15.here hx rfl (hb hby at_153) rfl ?_
    show Steps p.tables e below (T15.setTop (mkF m 155 #[.val (.int p1), .val (.int p2), .val (.int p3), .val (.int p4), .val (.int ((1 : Int32) + (p1 &&& (3 : Int32)))), .val (.int (p2 &&& (3 : Int32))), .val (.int (((p2.toUInt32 >>> ((2 : Int32) &&& 31).toUInt32).toInt32) &&& (7 : Int32))), .val (.int (p3 &&& (3 : Int32))), .val (.int (((p3.toUInt32 >>> ((2 : Int32) &&& 31).toUInt32).toInt32) &&& (7 : Int32))), .val (.int (1 : Int32)), .val (.ref b5), .val (.ref b8), .val (.int (own_emp (0 : Int32))), .val (.int (own_emp ((0 : Int32) + (own_min ((p2.toUInt32 >>> ((2 : Int32) &&& 31).toUInt32).toInt32 &&& (7 : Int32)) (((1 : Int32) + (p1 &&& (3 : Int32))) - (0 : Int32)))))), .val (.int (own_emp ((0 : Int32) + (own_min ((p3.toUInt32 >>> ((2 : Int32) &&& 31).toUInt32).toInt32 &&& (7 : Int32)) (((1 : Int32) + (p1 &&& (3 : Int32))) - (0 : Int32)))))), .val (.int (own_x1 ((p2.toUInt32 >>> ((2 : Int32) &&& 31).toUInt32).toInt32 &&& (7 : Int32)))), .unset] [(.int (1 : Int32))])) _
    refine XS.ifNo X15.here hx rfl (hb hby at_155) rfl ((if0 _ _).trans (feq (by decide : ¬ ((1 : Int32) = (0 : Int32)))).1) ?_
    show Steps p.tables e below (T15.setTop (mkF m 158 #[.val (.int p1), .val (.int p2), .val (.int p3), .val (.int p4), .val (.int ((1 : Int32) + (p1 &&& (3 : Int32)))), .val (.int (p2 &&& (3 : Int32))), .val (.int (((p2.toUInt32 >>> ((2 : Int32) &&& 31).toUInt32).toInt32) &&& (7 : Int32))), .val (.int (p3 &&& (3 : Int32))), .val (.int (((p3.toUInt32 >>> ((2 : Int32) &&& 31).toUInt32).toInt32) &&& (7 : Int32))), .val (.int (1 : Int32)), .val (.ref b5), .val (.ref b8), .val (.int (own_emp (0 : Int32))), .val (.int (own_emp ((0 : Int32) + (own_min ((p2.toUInt32 >>> ((2 : Int32) &&& 31).toUInt32).toInt32 &&& (7 : Int32)) (((1 : Int32) + (p1 &&& (3 : Int32))) - (0 : Int32)))))), .val (.int (own_emp ((0 : Int32) + (own_min ((p3.toUInt32 >>> ((2 : Int32) &&& 31).toUInt32).toInt32 &&& (7 : Int32)) (((1 : Int32) + (p1 &&& (3 : Int32))) - (0 : Int32)))))), .val (.int (own_x1 ((p2.toUInt32 >>> ((2 : Int32) &&& 31).toUInt32).toInt32 &&& (7 : Int32)))), .unset] [])) _
    refine own_s2 X15 hx hZ hw hby hml hown _ ?_
    show Steps p.tables e below (T15.setTop (mkF m 168 #[.val (.int p1), .val (.int p2), .val (.int p3), .val (.int p4), .val (.int ((1 : Int32) + (p1 &&& (3 : Int32)))), .val (.int (p2 &&& (3 : Int32))), .val (.int (((p2.toUInt32 >>> ((2 : Int32) &&& 31).toUInt32).toInt32) &&& (7 : Int32))), .val (.int (p3 &&& (3 : Int32))), .val (.int (((p3.toUInt32 >>> ((2 : Int32) &&& 31).toUInt32).toInt32) &&& (7 : Int32))), .val (.int (1 : Int32)), .val (.ref b5), .val (.ref b8), .val (.int (own_emp (0 : Int32))), .val (.int (own_emp ((0 : Int32) + (own_min ((p2.toUInt32 >>> ((2 : Int32) &&& 31).toUInt32).toInt32 &&& (7 : Int32)) (((1 : Int32) + (p1 &&& (3 : Int32))) - (0 : Int32)))))), .val (.int (own_emp ((0 : Int32) + (own_min ((p3.toUInt32 >>> ((2 : Int32) &&& 31).toUInt32).toInt32 &&& (7 : Int32)) (((1 : Int32) + (p1 &&& (3 : Int32))) - (0 : Int32)))))), .val (.int (own_x1 ((p2.toUInt32 >>> ((2 : Int32) &&& 31).toUInt32).toInt32 &&& (7 : Int32)))), .unset] [(.int (own_x2 ((p3.toUInt32 >>> ((2 : Int32) &&& 31).toUInt32).toInt32 &&& (7 : Int32))))])) _
    refine XS.istore X15.here hx rfl (hb hby at_168) rfl (l' := #[.val (.int p1), .val (.int p2), .val (.int p3), .val (.int p4), .val (.int ((1 : Int32) + (p1 &&& (3 : Int32)))), .val (.int (p2 &&& (3 : Int32))), .val (.int (((p2.toUInt32 >>> ((2 : Int32) &&& 31).toUInt32).toInt32) &&& (7 : Int32))), .val (.int (p3 &&& (3 : Int32))), .val (.int (((p3.toUInt32 >>> ((2 : Int32) &&& 31).toUInt32).toInt32) &&& (7 : Int32))), .val (.int (1 : Int32)), .val (.ref b5), .val (.ref b8), .val (.int (own_emp (0 : Int32))), .val (.int (own_emp ((0 : Int32) + (own_min ((p2.toUInt32 >>> ((2 : Int32) &&& 31).toUInt32).toInt32 &&& (7 : Int32)) (((1 : Int32) + (p1 &&& (3 : Int32))) - (0 : Int32)))))), .val (.int (own_emp ((0 : Int32) + (own_min ((p3.toUInt32 >>> ((2 : Int32) &&& 31).toUInt32).toInt32 &&& (7 : Int32)) (((1 : Int32) + (p1 &&& (3 : Int32))) - (0 : Int32)))))), .val (.int (own_x1 ((p2.toUInt32 >>> ((2 : Int32) &&& 31).toUInt32).toInt32 &&& (7 : Int32)))), .val (.int (own_x2 ((p3.toUInt32 >>> ((2 : Int32) &&& 31).toUInt32).toInt32 &&& (7 : Int32))))]) rfl ?_
    show Steps p.tables e below (T15.setTop (mkF m 170 #[.val (.int p1), .val (.int p2), .val (.int p3), .val (.int p4), .val (.int ((1 : Int32) + (p1 &&& (3 : Int32)))), .val (.int (p2 &&& (3 : Int32))), .val (.int (((p2.toUInt32 >>> ((2 : Int32) &&& 31).toUInt32).toInt32) &&& (7 : Int32))), .val (.int (p3 &&& (3 : Int32))), .val (.int (((p3.toUInt32 >>> ((2 : Int32) &&& 31).toUInt32).toInt32) &&& (7 : Int32))), .val (.int (1 : Int32)), .val (.ref b5), .val (.ref b8), .val (.int (own_emp (0 : Int32))), .val (.int (own_emp ((0 : Int32) + (own_min ((p2.toUInt32 >>> ((2 : Int32) &&& 31).toUInt32).toInt32 &&& (7 : Int32)) (((1 : Int32) + (p1 &&& (3 : Int32))) - (0 : Int32)))))), .val (.int (own_emp ((0 : Int32) + (own_min ((p3.toUInt32 >>> ((2 : Int32) &&& 31).toUInt32).toInt32 &&& (7 : Int32)) (((1 : Int32) + (p1 &&& (3 : Int32))) - (0 : Int32)))))), .val (.int (own_x1 ((p2.toUInt32 >>> ((2 : Int32) &&& 31).toUInt32).toInt32 &&& (7 : Int32)))), .val (.int (own_x2 ((p3.toUInt32 >>> ((2 : Int32) &&& 31).toUInt32).toInt32 &&& (7 : Int32))))] [])) _
    refine XS.goto X15.here hx rfl (pc0 := 170) (pc' := 190) rfl (hb hby at_170) (by decide) (by decide) ?_
    show Steps p.tables e below (T15.setTop (mkF m 190 #[.val (.int p1), .val (.int p2), .val (.int p3), .val (.int p4), .val (.int ((1 : Int32) + (p1 &&& (3 : Int32)))), .val (.int (p2 &&& (3 : Int32))), .val (.int (((p2.toUInt32 >>> ((2 : Int32) &&& 31).toUInt32).toInt32) &&& (7 : Int32))), .val (.int (p3 &&& (3 : Int32))), .val (.int (((p3.toUInt32 >>> ((2 : Int32) &&& 31).toUInt32).toInt32) &&& (7 : Int32))), .val (.int (1 : Int32)), .val (.ref b5), .val (.ref b8), .val (.int (own_emp (0 : Int32))), .val (.int (own_emp ((0 : Int32) + (own_min ((p2.toUInt32 >>> ((2 : Int32) &&& 31).toUInt32).toInt32 &&& (7 : Int32)) (((1 : Int32) + (p1 &&& (3 : Int32))) - (0 : Int32)))))), .val (.int (own_emp ((0 : Int32) + (own_min ((p3.toUInt32 >>> ((2 : Int32) &&& 31).toUInt32).toInt32 &&& (7 : Int32)) (((1 : Int32) + (p1 &&& (3 : Int32))) - (0 : Int32)))))), .val (.int (own_x1 ((p2.toUInt32 >>> ((2 : Int32) &&& 31).toUInt32).toInt32 &&& (7 : Int32)))), .val (.int (own_x2 ((p3.toUInt32 >>> ((2 : Int32) &&& 31).toUInt32).toInt32 &&& (7 : Int32))))] [])) _
    refine XS.iload X15.here hx rfl (hb hby at_190) rfl ?_
    show Steps p.tables e below (T15.setTop (mkF m 192 #[.val (.int p1), .val (.int p2), .val (.int p3), .val (.int p4), .val (.int ((1 : Int32) + (p1 &&& (3 : Int32)))), .val (.int (p2 &&& (3 : Int32))), .val (.int (((p2.toUInt32 >>> ((2 : Int32) &&& 31).toUInt32).toInt32) &&& (7 : Int32))), .val (.int (p3 &&& (3 : Int32))), .val (.int (((p3.toUInt32 >>> ((2 : Int32) &&& 31).toUInt32).toInt32) &&& (7 : Int32))), .val (.int (1 : Int32)), .val (.ref b5), .val (.ref b8), .val (.int (own_emp (0 : Int32))), .val (.int (own_emp ((0 : Int32) + (own_min ((p2.toUInt32 >>> ((2 : Int32) &&& 31).toUInt32).toInt32 &&& (7 : Int32)) (((1 : Int32) + (p1 &&& (3 : Int32))) - (0 : Int32)))))), .val (.int (own_emp ((0 : Int32) + (own_min ((p3.toUInt32 >>> ((2 : Int32) &&& 31).toUInt32).toInt32 &&& (7 : Int32)) (((1 : Int32) + (p1 &&& (3 : Int32))) - (0 : Int32)))))), .val (.int (own_x1 ((p2.toUInt32 >>> ((2 : Int32) &&& 31).toUInt32).toInt32 &&& (7 : Int32)))), .val (.int (own_x2 ((p3.toUInt32 >>> ((2 : Int32) &&& 31).toUInt32).toInt32 &&& (7 : Int32))))] [(.int (own_emp (0 : Int32)))])) _
    refine XS.ifNo X15.here hx rfl (hb hby at_192) rfl ((if0 _ _).trans (feq (by decide : ¬ ((own_emp (0 : Int32)) = (0 : Int32)))).1) ?_
    show Steps p.tables e below (T15.setTop (mkF m 195 #[.val (.int p1), .val (.int p2), .val (.int p3), .val (.int p4), .val (.int ((1 : Int32) + (p1 &&& (3 : Int32)))), .val (.int (p2 &&& (3 : Int32))), .val (.int (((p2.toUInt32 >>> ((2 : Int32) &&& 31).toUInt32).toInt32) &&& (7 : Int32))), .val (.int (p3 &&& (3 : Int32))), .val (.int (((p3.toUInt32 >>> ((2 : Int32) &&& 31).toUInt32).toInt32) &&& (7 : Int32))), .val (.int (1 : Int32)), .val (.ref b5), .val (.ref b8), .val (.int (own_emp (0 : Int32))), .val (.int (own_emp ((0 : Int32) + (own_min ((p2.toUInt32 >>> ((2 : Int32) &&& 31).toUInt32).toInt32 &&& (7 : Int32)) (((1 : Int32) + (p1 &&& (3 : Int32))) - (0 : Int32)))))), .val (.int (own_emp ((0 : Int32) + (own_min ((p3.toUInt32 >>> ((2 : Int32) &&& 31).toUInt32).toInt32 &&& (7 : Int32)) (((1 : Int32) + (p1 &&& (3 : Int32))) - (0 : Int32)))))), .val (.int (own_x1 ((p2.toUInt32 >>> ((2 : Int32) &&& 31).toUInt32).toInt32 &&& (7 : Int32)))), .val (.int (own_x2 ((p3.toUInt32 >>> ((2 : Int32) &&& 31).toUInt32).toInt32 &&& (7 : Int32))))] [])) _
    refine XS.iload X15.here hx rfl (hb hby at_195) rfl ?_
    show Steps p.tables e below (T15.setTop (mkF m 197 #[.val (.int p1), .val (.int p2), .val (.int p3), .val (.int p4), .val (.int ((1 : Int32) + (p1 &&& (3 : Int32)))), .val (.int (p2 &&& (3 : Int32))), .val (.int (((p2.toUInt32 >>> ((2 : Int32) &&& 31).toUInt32).toInt32) &&& (7 : Int32))), .val (.int (p3 &&& (3 : Int32))), .val (.int (((p3.toUInt32 >>> ((2 : Int32) &&& 31).toUInt32).toInt32) &&& (7 : Int32))), .val (.int (1 : Int32)), .val (.ref b5), .val (.ref b8), .val (.int (own_emp (0 : Int32))), .val (.int (own_emp ((0 : Int32) + (own_min ((p2.toUInt32 >>> ((2 : Int32) &&& 31).toUInt32).toInt32 &&& (7 : Int32)) (((1 : Int32) + (p1 &&& (3 : Int32))) - (0 : Int32)))))), .val (.int (own_emp ((0 : Int32) + (own_min ((p3.toUInt32 >>> ((2 : Int32) &&& 31).toUInt32).toInt32 &&& (7 : Int32)) (((1 : Int32) + (p1 &&& (3 : Int32))) - (0 : Int32)))))), .val (.int (own_x1 ((p2.toUInt32 >>> ((2 : Int32) &&& 31).toUInt32).toInt32 &&& (7 : Int32)))), .val (.int (own_x2 ((p3.toUInt32 >>> ((2 : Int32) &&& 31).toUInt32).toInt32 &&& (7 : Int32))))] [(.int (own_emp ((0 : Int32) + (own_min ((p2.toUInt32 >>> ((2 : Int32) &&& 31).toUInt32).toInt32 &&& (7 : Int32)) (((1 : Int32) + (p1 &&& (3 : Int32))) - (0 : Int32))))))])) _
    refine XS.iload X15.here hx rfl (hb hby at_197) rfl ?_
    show Steps p.tables e below (T15.setTop (mkF m 199 #[.val (.int p1), .val (.int p2), .val (.int p3), .val (.int p4), .val (.int ((1 : Int32) + (p1 &&& (3 : Int32)))), .val (.int (p2 &&& (3 : Int32))), .val (.int (((p2.toUInt32 >>> ((2 : Int32) &&& 31).toUInt32).toInt32) &&& (7 : Int32))), .val (.int (p3 &&& (3 : Int32))), .val (.int (((p3.toUInt32 >>> ((2 : Int32) &&& 31).toUInt32).toInt32) &&& (7 : Int32))), .val (.int (1 : Int32)), .val (.ref b5), .val (.ref b8), .val (.int (own_emp (0 : Int32))), .val (.int (own_emp ((0 : Int32) + (own_min ((p2.toUInt32 >>> ((2 : Int32) &&& 31).toUInt32).toInt32 &&& (7 : Int32)) (((1 : Int32) + (p1 &&& (3 : Int32))) - (0 : Int32)))))), .val (.int (own_emp ((0 : Int32) + (own_min ((p3.toUInt32 >>> ((2 : Int32) &&& 31).toUInt32).toInt32 &&& (7 : Int32)) (((1 : Int32) + (p1 &&& (3 : Int32))) - (0 : Int32)))))), .val (.int (own_x1 ((p2.toUInt32 >>> ((2 : Int32) &&& 31).toUInt32).toInt32 &&& (7 : Int32)))), .val (.int (own_x2 ((p3.toUInt32 >>> ((2 : Int32) &&& 31).toUInt32).toInt32 &&& (7 : Int32))))] [(.int (own_x1 ((p2.toUInt32 >>> ((2 : Int32) &&& 31).toUInt32).toInt32 &&& (7 : Int32)))), (.int (own_emp ((0 : Int32) + (own_min ((p2.toUInt32 >>> ((2 : Int32) &&& 31).toUInt32).toInt32 &&& (7 : Int32)) (((1 : Int32) + (p1 &&& (3 : Int32))) - (0 : Int32))))))])) _
    refine XS.icmpNo X15.here hx rfl (hb hby at_199) rfl (teq (own_f1 on11.2.2.2.2.2.2.2.2 : (own_emp ((0 : Int32) + (own_min ((p2.toUInt32 >>> ((2 : Int32) &&& 31).toUInt32).toInt32 &&& (7 : Int32)) (((1 : Int32) + (p1 &&& (3 : Int32))) - (0 : Int32))))) = (own_x1 ((p2.toUInt32 >>> ((2 : Int32) &&& 31).toUInt32).toInt32 &&& (7 : Int32))))).2 ?_
    show Steps p.tables e below (T15.setTop (mkF m 202 #[.val (.int p1), .val (.int p2), .val (.int p3), .val (.int p4), .val (.int ((1 : Int32) + (p1 &&& (3 : Int32)))), .val (.int (p2 &&& (3 : Int32))), .val (.int (((p2.toUInt32 >>> ((2 : Int32) &&& 31).toUInt32).toInt32) &&& (7 : Int32))), .val (.int (p3 &&& (3 : Int32))), .val (.int (((p3.toUInt32 >>> ((2 : Int32) &&& 31).toUInt32).toInt32) &&& (7 : Int32))), .val (.int (1 : Int32)), .val (.ref b5), .val (.ref b8), .val (.int (own_emp (0 : Int32))), .val (.int (own_emp ((0 : Int32) + (own_min ((p2.toUInt32 >>> ((2 : Int32) &&& 31).toUInt32).toInt32 &&& (7 : Int32)) (((1 : Int32) + (p1 &&& (3 : Int32))) - (0 : Int32)))))), .val (.int (own_emp ((0 : Int32) + (own_min ((p3.toUInt32 >>> ((2 : Int32) &&& 31).toUInt32).toInt32 &&& (7 : Int32)) (((1 : Int32) + (p1 &&& (3 : Int32))) - (0 : Int32)))))), .val (.int (own_x1 ((p2.toUInt32 >>> ((2 : Int32) &&& 31).toUInt32).toInt32 &&& (7 : Int32)))), .val (.int (own_x2 ((p3.toUInt32 >>> ((2 : Int32) &&& 31).toUInt32).toInt32 &&& (7 : Int32))))] [])) _
    refine XS.iload X15.here hx rfl (hb hby at_202) rfl ?_
    show Steps p.tables e below (T15.setTop (mkF m 204 #[.val (.int p1), .val (.int p2), .val (.int p3), .val (.int p4), .val (.int ((1 : Int32) + (p1 &&& (3 : Int32)))), .val (.int (p2 &&& (3 : Int32))), .val (.int (((p2.toUInt32 >>> ((2 : Int32) &&& 31).toUInt32).toInt32) &&& (7 : Int32))), .val (.int (p3 &&& (3 : Int32))), .val (.int (((p3.toUInt32 >>> ((2 : Int32) &&& 31).toUInt32).toInt32) &&& (7 : Int32))), .val (.int (1 : Int32)), .val (.ref b5), .val (.ref b8), .val (.int (own_emp (0 : Int32))), .val (.int (own_emp ((0 : Int32) + (own_min ((p2.toUInt32 >>> ((2 : Int32) &&& 31).toUInt32).toInt32 &&& (7 : Int32)) (((1 : Int32) + (p1 &&& (3 : Int32))) - (0 : Int32)))))), .val (.int (own_emp ((0 : Int32) + (own_min ((p3.toUInt32 >>> ((2 : Int32) &&& 31).toUInt32).toInt32 &&& (7 : Int32)) (((1 : Int32) + (p1 &&& (3 : Int32))) - (0 : Int32)))))), .val (.int (own_x1 ((p2.toUInt32 >>> ((2 : Int32) &&& 31).toUInt32).toInt32 &&& (7 : Int32)))), .val (.int (own_x2 ((p3.toUInt32 >>> ((2 : Int32) &&& 31).toUInt32).toInt32 &&& (7 : Int32))))] [(.int (own_emp ((0 : Int32) + (own_min ((p3.toUInt32 >>> ((2 : Int32) &&& 31).toUInt32).toInt32 &&& (7 : Int32)) (((1 : Int32) + (p1 &&& (3 : Int32))) - (0 : Int32))))))])) _
    refine XS.iload X15.here hx rfl (hb hby at_204) rfl ?_
    show Steps p.tables e below (T15.setTop (mkF m 206 #[.val (.int p1), .val (.int p2), .val (.int p3), .val (.int p4), .val (.int ((1 : Int32) + (p1 &&& (3 : Int32)))), .val (.int (p2 &&& (3 : Int32))), .val (.int (((p2.toUInt32 >>> ((2 : Int32) &&& 31).toUInt32).toInt32) &&& (7 : Int32))), .val (.int (p3 &&& (3 : Int32))), .val (.int (((p3.toUInt32 >>> ((2 : Int32) &&& 31).toUInt32).toInt32) &&& (7 : Int32))), .val (.int (1 : Int32)), .val (.ref b5), .val (.ref b8), .val (.int (own_emp (0 : Int32))), .val (.int (own_emp ((0 : Int32) + (own_min ((p2.toUInt32 >>> ((2 : Int32) &&& 31).toUInt32).toInt32 &&& (7 : Int32)) (((1 : Int32) + (p1 &&& (3 : Int32))) - (0 : Int32)))))), .val (.int (own_emp ((0 : Int32) + (own_min ((p3.toUInt32 >>> ((2 : Int32) &&& 31).toUInt32).toInt32 &&& (7 : Int32)) (((1 : Int32) + (p1 &&& (3 : Int32))) - (0 : Int32)))))), .val (.int (own_x1 ((p2.toUInt32 >>> ((2 : Int32) &&& 31).toUInt32).toInt32 &&& (7 : Int32)))), .val (.int (own_x2 ((p3.toUInt32 >>> ((2 : Int32) &&& 31).toUInt32).toInt32 &&& (7 : Int32))))] [(.int (own_x2 ((p3.toUInt32 >>> ((2 : Int32) &&& 31).toUInt32).toInt32 &&& (7 : Int32)))), (.int (own_emp ((0 : Int32) + (own_min ((p3.toUInt32 >>> ((2 : Int32) &&& 31).toUInt32).toInt32 &&& (7 : Int32)) (((1 : Int32) + (p1 &&& (3 : Int32))) - (0 : Int32))))))])) _
    refine XS.icmpNo X15.here hx rfl (hb hby at_206) rfl (teq (own_f2 on14.2.2.2.2.2.2.2.2 : (own_emp ((0 : Int32) + (own_min ((p3.toUInt32 >>> ((2 : Int32) &&& 31).toUInt32).toInt32 &&& (7 : Int32)) (((1 : Int32) + (p1 &&& (3 : Int32))) - (0 : Int32))))) = (own_x2 ((p3.toUInt32 >>> ((2 : Int32) &&& 31).toUInt32).toInt32 &&& (7 : Int32))))).2 ?_
    show Steps p.tables e below (T15.setTop (mkF m 209 #[.val (.int p1), .val (.int p2), .val (.int p3), .val (.int p4), .val (.int ((1 : Int32) + (p1 &&& (3 : Int32)))), .val (.int (p2 &&& (3 : Int32))), .val (.int (((p2.toUInt32 >>> ((2 : Int32) &&& 31).toUInt32).toInt32) &&& (7 : Int32))), .val (.int (p3 &&& (3 : Int32))), .val (.int (((p3.toUInt32 >>> ((2 : Int32) &&& 31).toUInt32).toInt32) &&& (7 : Int32))), .val (.int (1 : Int32)), .val (.ref b5), .val (.ref b8), .val (.int (own_emp (0 : Int32))), .val (.int (own_emp ((0 : Int32) + (own_min ((p2.toUInt32 >>> ((2 : Int32) &&& 31).toUInt32).toInt32 &&& (7 : Int32)) (((1 : Int32) + (p1 &&& (3 : Int32))) - (0 : Int32)))))), .val (.int (own_emp ((0 : Int32) + (own_min ((p3.toUInt32 >>> ((2 : Int32) &&& 31).toUInt32).toInt32 &&& (7 : Int32)) (((1 : Int32) + (p1 &&& (3 : Int32))) - (0 : Int32)))))), .val (.int (own_x1 ((p2.toUInt32 >>> ((2 : Int32) &&& 31).toUInt32).toInt32 &&& (7 : Int32)))), .val (.int (own_x2 ((p3.toUInt32 >>> ((2 : Int32) &&& 31).toUInt32).toInt32 &&& (7 : Int32))))] [])) _
    refine XS.iconst X15.here hx rfl (hb hby at_209) ?_
    show Steps p.tables e below (T15.setTop (mkF m 210 #[.val (.int p1), .val (.int p2), .val (.int p3), .val (.int p4), .val (.int ((1 : Int32) + (p1 &&& (3 : Int32)))), .val (.int (p2 &&& (3 : Int32))), .val (.int (((p2.toUInt32 >>> ((2 : Int32) &&& 31).toUInt32).toInt32) &&& (7 : Int32))), .val (.int (p3 &&& (3 : Int32))), .val (.int (((p3.toUInt32 >>> ((2 : Int32) &&& 31).toUInt32).toInt32) &&& (7 : Int32))), .val (.int (1 : Int32)), .val (.ref b5), .val (.ref b8), .val (.int (own_emp (0 : Int32))), .val (.int (own_emp ((0 : Int32) + (own_min ((p2.toUInt32 >>> ((2 : Int32) &&& 31).toUInt32).toInt32 &&& (7 : Int32)) (((1 : Int32) + (p1 &&& (3 : Int32))) - (0 : Int32)))))), .val (.int (own_emp ((0 : Int32) + (own_min ((p3.toUInt32 >>> ((2 : Int32) &&& 31).toUInt32).toInt32 &&& (7 : Int32)) (((1 : Int32) + (p1 &&& (3 : Int32))) - (0 : Int32)))))), .val (.int (own_x1 ((p2.toUInt32 >>> ((2 : Int32) &&& 31).toUInt32).toInt32 &&& (7 : Int32)))), .val (.int (own_x2 ((p3.toUInt32 >>> ((2 : Int32) &&& 31).toUInt32).toInt32 &&& (7 : Int32))))] [(.int (1 : Int32))])) _
    refine XS.goto X15.here hx rfl (pc0 := 210) (pc' := 214) rfl (hb hby at_210) (by decide) (by decide) ?_
    show Steps p.tables e below (T15.setTop (mkF m 214 #[.val (.int p1), .val (.int p2), .val (.int p3), .val (.int p4), .val (.int ((1 : Int32) + (p1 &&& (3 : Int32)))), .val (.int (p2 &&& (3 : Int32))), .val (.int (((p2.toUInt32 >>> ((2 : Int32) &&& 31).toUInt32).toInt32) &&& (7 : Int32))), .val (.int (p3 &&& (3 : Int32))), .val (.int (((p3.toUInt32 >>> ((2 : Int32) &&& 31).toUInt32).toInt32) &&& (7 : Int32))), .val (.int (1 : Int32)), .val (.ref b5), .val (.ref b8), .val (.int (own_emp (0 : Int32))), .val (.int (own_emp ((0 : Int32) + (own_min ((p2.toUInt32 >>> ((2 : Int32) &&& 31).toUInt32).toInt32 &&& (7 : Int32)) (((1 : Int32) + (p1 &&& (3 : Int32))) - (0 : Int32)))))), .val (.int (own_emp ((0 : Int32) + (own_min ((p3.toUInt32 >>> ((2 : Int32) &&& 31).toUInt32).toInt32 &&& (7 : Int32)) (((1 : Int32) + (p1 &&& (3 : Int32))) - (0 : Int32)))))), .val (.int (own_x1 ((p2.toUInt32 >>> ((2 : Int32) &&& 31).toUInt32).toInt32 &&& (7 : Int32)))), .val (.int (own_x2 ((p3.toUInt32 >>> ((2 : Int32) &&& 31).toUInt32).toInt32 &&& (7 : Int32))))] [(.int (1 : Int32))])) _
    exact retN X15 hx (t := .boolean) Bd.returns (by simp) (hb hby at_214) hr
  · show Q0 Z p1 p2 p3 p4 h0 n0 _ T15.heap _
    exact ⟨rfl, N15⟩
set_option maxRecDepth 65536 in
set_option maxHeartbeats 40000000 in
theorem rm0_n (l : Launch) (Z : State) (a0 : Array Value) (hw : ∀ d ∈ tables_1, d.before a0 Z = true) (ws : List Jvm.Cond) (p1 : Int32) (p2 : Int32) (p3 : Int32) (p4 : Int32) (h0 : Heap) (n0 : Nat) (Z0 : n0 ≤ h0.size) (hc36 : (p4 &&& (1 : Int32)) = (0 : Int32)) :
    MetFree l x (head1 (Jvm.Cond.code x code maxLocals ret :: ws) room_1) (fun a U => a = #[(.int p1), (.int p2), (.int p3), (.int p4)] ∧ Z.Warmed39 U.vm ∧ U.heap = h0) (fun _ _ _ _ _ => True) (fun _ U o U' => ∃ v L, o = .returned v ∧ Q0 Z p1 p2 p3 p4 h0 n0 v U'.heap L ∧ FrameEnd U o U' L room_1.cells room_1.slots) := by
  refine MetFree.of_bodySF (plainFor_of_name pn_0) hisR ?_
  intro p e s m args below meth c s₁ Bd hml0 hP hK
  obtain ⟨rfl, hZ, hh⟩ := hP
  have hx := Bd.exec
  have hby := Bd.bytes
  have hml : c.maxLocals = 17 := hml0
  have hown : s.vm.findClass "descry/read/TextPrefixIsEmptyPinLaw" = some m.cls := findClass_of_methodNamed Bd.named
  have hnm := (name_of_methodNamed Bd.named Bd.method).1
  have X0 : Stand p l e room_1 s m #[(.int p1), (.int p2), (.int p3), (.int p4)] below meth c s₁ [] 0 0 := Stand.of_body Bd
  have e0 : s₁.heap = h0 := by rw [← hh, Bd.state]; rfl
  have N0 := Fr.nil n0
  obtain ⟨z1, z2, z3, z4⟩ := own_lim p1
  have on1 := own_on p2
  have on2 := own_on p3
  have pre0 : ∀ t, Steps p.tables e below (s₁.setTop (mkF m 0 #[.val (.int p1), .val (.int p2), .val (.int p3), .val (.int p4), .unset, .unset, .unset, .unset, .unset, .unset, .unset, .unset, .unset, .unset, .unset, .unset, .unset] [])) t → Steps p.tables e below (s₁.setTop (entryFrame m #[(.int p1), (.int p2), (.int p3), (.int p4)] maxLocals)) t := fun t k => castTop (ef_0 m p1 p2 p3 p4) k
  obtain ⟨T5, h5, k5, X5, e5, E5, A5, st5⟩ := newP X0 hx hZ (hw _ (List.mem_of_getElem? (i := 0) rfl)) e0 (g := (mkF m 48 #[.val (.int p1), .val (.int p2), .val (.int p3), .val (.int p4), .val (.int ((1 : Int32) + (p1 &&& (3 : Int32)))), .val (.int (p2 &&& (3 : Int32))), .val (.int (((p2.toUInt32 >>> ((2 : Int32) &&& 31).toUInt32).toInt32) &&& (7 : Int32))), .val (.int (p3 &&& (3 : Int32))), .val (.int (((p3.toUInt32 >>> ((2 : Int32) &&& 31).toUInt32).toInt32) &&& (7 : Int32))), .val (.int (0 : Int32)), .unset, .unset, .unset, .unset, .unset, .unset, .unset] [(.int (12 : Int32))])) rfl (hb hby at_48) rfl (by decide) (cap := 12) (by decide) (by decide) (by decide) (by decide)
  obtain ⟨b5, g5⟩ : ∃ z, z = h0.size := ⟨_, rfl⟩
  rw [← g5] at A5 st5
  have V_b5 : Arv Z h5 b5 k5 .char (12 : Int32) [(.int (0 : Int32)), (.int (0 : Int32)), (.int (0 : Int32)), (.int (0 : Int32)), (.int (0 : Int32)), (.int (0 : Int32)), (.int (0 : Int32)), (.int (0 : Int32)), (.int (0 : Int32)), (.int (0 : Int32)), (.int (0 : Int32)), (.int (0 : Int32))] (.int (0 : Int32)) := (Arv.new A5 (by decide)).pad (pad_rep [] (.int (0 : Int32)) 12)
  have g_b5 : n0 ≤ b5 := Nat.le_trans Z0 (Nat.le_of_eq g5.symm)
  have sz_b5 : h0.size ≤ b5 := (Nat.le_trans (Keep.refl h0 []).1 (Nat.le_of_eq g5.symm))
  have K5 : Keep h0 h5 [] := (Keep.refl h0 []).ext E5
  obtain ⟨cl_b5_63, Ar_b5, q_b5, S_b5, N_b5, H_b5, G_b5⟩ := V_b5
  have hin63 : ¬ ((0 : Int32) < 0 ∨ cl_b5_63.slots.size ≤ ((0 : Int32)).toNatClampNeg) := inb_of S_b5 ⟨by decide, by decide⟩
  obtain ⟨T6, h6, X6, e6, W6, st6⟩ := stC X5 hx hZ e5 Ar_b5 (j := (0 : Int32)) hin63 (g := (mkF m 63 #[.val (.int p1), .val (.int p2), .val (.int p3), .val (.int p4), .val (.int ((1 : Int32) + (p1 &&& (3 : Int32)))), .val (.int (p2 &&& (3 : Int32))), .val (.int (((p2.toUInt32 >>> ((2 : Int32) &&& 31).toUInt32).toInt32) &&& (7 : Int32))), .val (.int (p3 &&& (3 : Int32))), .val (.int (((p3.toUInt32 >>> ((2 : Int32) &&& 31).toUInt32).toInt32) &&& (7 : Int32))), .val (.int (0 : Int32)), .val (.ref b5), .unset, .unset, .unset, .unset, .unset, .unset] [(.int ((((p4.toUInt32 >>> ((1 : Int32) &&& 31).toUInt32).toInt32) &&& (255 : Int32)).toUInt32.toUInt16.toUInt32.toInt32)), (.int (0 : Int32)), (.ref b5)])) rfl rfl (hb hby at_63)
  have V_b5_6 := Arv.set Ar_b5 q_b5 S_b5 N_b5 H_b5 G_b5 (fits_nar_char _) W6 0 rfl (Nat.le_of_ble_eq_true rfl)
  have K6 : Keep h0 h6 [] := K5.wr W6 (Or.inr sz_b5)
  have N6 := Fr.snoc X6 N0 g_b5
  obtain ⟨cl_b5_76, Ar_b5, q_b5, S_b5, N_b5, H_b5, G_b5⟩ := V_b5_6
  have hin76 : ¬ ((5 : Int32) < 0 ∨ cl_b5_76.slots.size ≤ ((5 : Int32)).toNatClampNeg) := inb_of S_b5 ⟨by decide, by decide⟩
  obtain ⟨T7, h7, X7, e7, W7, st7⟩ := stC X6 hx hZ e6 Ar_b5 (j := (5 : Int32)) hin76 (g := (mkF m 76 #[.val (.int p1), .val (.int p2), .val (.int p3), .val (.int p4), .val (.int ((1 : Int32) + (p1 &&& (3 : Int32)))), .val (.int (p2 &&& (3 : Int32))), .val (.int (((p2.toUInt32 >>> ((2 : Int32) &&& 31).toUInt32).toInt32) &&& (7 : Int32))), .val (.int (p3 &&& (3 : Int32))), .val (.int (((p3.toUInt32 >>> ((2 : Int32) &&& 31).toUInt32).toInt32) &&& (7 : Int32))), .val (.int (0 : Int32)), .val (.ref b5), .unset, .unset, .unset, .unset, .unset, .unset] [(.int ((((p4.toUInt32 >>> ((9 : Int32) &&& 31).toUInt32).toInt32) &&& (255 : Int32)).toUInt32.toUInt16.toUInt32.toInt32)), (.int (5 : Int32)), (.ref b5)])) rfl rfl (hb hby at_76)
  have V_b5_7 := Arv.set Ar_b5 q_b5 S_b5 N_b5 H_b5 G_b5 (fits_nar_char _) W7 5 rfl (Nat.le_of_ble_eq_true rfl)
  have K7 : Keep h0 h7 [] := K6.wr W7 (Or.inr sz_b5)
  have N7 := Fr.snoc X7 N6 g_b5
  obtain ⟨T8, h8, X8, e8, E8, A8, D8, -, st8⟩ := newO X7 hx hZ hown (hw _ (List.mem_of_getElem? (i := 1) rfl)) (hw _ (List.mem_of_getElem? (i := 2) rfl)) (hw _ (List.mem_of_getElem? (i := 3) rfl)) e7 (g := (mkF m 77 #[.val (.int p1), .val (.int p2), .val (.int p3), .val (.int p4), .val (.int ((1 : Int32) + (p1 &&& (3 : Int32)))), .val (.int (p2 &&& (3 : Int32))), .val (.int (((p2.toUInt32 >>> ((2 : Int32) &&& 31).toUInt32).toInt32) &&& (7 : Int32))), .val (.int (p3 &&& (3 : Int32))), .val (.int (((p3.toUInt32 >>> ((2 : Int32) &&& 31).toUInt32).toInt32) &&& (7 : Int32))), .val (.int (0 : Int32)), .val (.ref b5), .unset, .unset, .unset, .unset, .unset, .unset] [])) rfl (hb hby at_77) (by decide) (by decide)
  obtain ⟨b8, g8⟩ : ∃ z, z = h7.size := ⟨_, rfl⟩
  rw [← g8] at A8 D8 st8
  have F_lock_b8 : Fld Z h8 b8 "java/io/Writer" "lock" "Ljava/lang/Object;" .null := D8 (Or.inl (hw _ (List.mem_of_getElem? (i := 16) rfl))) (ty := (.object "java/lang/Object")) (by decide)
  have F_held_b8 : Fld Z h8 b8 "descry/read/TextPrefix" "held" "[C" .null := D8 (Or.inr (hw _ (List.mem_of_getElem? (i := 18) rfl))) (ty := (.array .char)) (by decide)
  have F_length_b8 : Fld Z h8 b8 "descry/read/TextPrefix" "length" "I" (.int (0 : Int32)) := D8 (Or.inl (hw _ (List.mem_of_getElem? (i := 25) rfl))) (ty := .int) (by decide)
  have F_cut_b8 : Fld Z h8 b8 "descry/read/TextPrefix" "cut" "Z" (.int (0 : Int32)) := D8 (Or.inl (hw _ (List.mem_of_getElem? (i := 40) rfl))) (ty := .boolean) (by decide)
  have E_b8 := A8
  have g_b8 : n0 ≤ b8 := Nat.le_trans (Nat.le_trans (Nat.le_trans (Nat.le_trans Z0 E5.1) (Keep.of_wr W6).1) (Keep.of_wr W7).1) (Nat.le_of_eq g8.symm)
  have sz_b8 : h0.size ≤ b8 := (Nat.le_trans K7.1 (Nat.le_of_eq g8.symm))
  have K8 : Keep h0 h8 [] := K7.ext E8
  obtain ⟨_, _, ⟨T9, L9, k9, n9⟩, -, X9, ⟨Lc9, hQ9, l9, y9, z9⟩, st9⟩ := X8.specialBack hx (y := (⟨"descry/read/TextPrefix", "<init>", "(I)V"⟩ : MethodName)) rfl hown (mvT hZ (hw _ (List.mem_of_getElem? (i := 4) rfl))) (mvT hZ (hw _ (List.mem_of_getElem? (i := 5) rfl))) (mvT hZ (hw _ (List.mem_of_getElem? (i := 6) rfl))) (by decide) (backOf (W := 1) (rm1 l Z a0 hw [] b8 ((1 : Int32) + (p1 &&& (3 : Int32))) h8 n0 (Nat.le_trans Z0 K8.1) E_b8 F_held_b8 g_b8 F_lock_b8 F_length_b8 F_cut_b8 z3 z4) hZ (hw _ (List.mem_of_getElem? (i := 6) rfl)) (hw _ (List.mem_of_getElem? (i := 3) rfl)) (by decide) (by decide)) (g := (mkF m 83 #[.val (.int p1), .val (.int p2), .val (.int p3), .val (.int p4), .val (.int ((1 : Int32) + (p1 &&& (3 : Int32)))), .val (.int (p2 &&& (3 : Int32))), .val (.int (((p2.toUInt32 >>> ((2 : Int32) &&& 31).toUInt32).toInt32) &&& (7 : Int32))), .val (.int (p3 &&& (3 : Int32))), .val (.int (((p3.toUInt32 >>> ((2 : Int32) &&& 31).toUInt32).toInt32) &&& (7 : Int32))), .val (.int (0 : Int32)), .val (.ref b5), .unset, .unset, .unset, .unset, .unset, .unset] [(.int ((1 : Int32) + (p1 &&& (3 : Int32)))), (.ref b8), (.ref b8)])) rfl (by rw [hml]; rfl) (Steps.refl _) (a := b8) (argsL := [(.int ((1 : Int32) + (p1 &&& (3 : Int32))))]) (rest := [(.ref b8)]) (lenOf pd_0_0 rfl) rfl (by show 2 * 0 + _ ≤ _; exact Nat.le_of_eq rfl) (hb hby at_83) (fun _ _ => ⟨rfl, e8, (Nat.le_of_ble_eq_true rfl), (Nat.le_of_ble_eq_true rfl)⟩)
  dsimp only [Pt.U, Pt.locs, Pt.cells, Pt.slots] at X9 l9 y9 z9 st9 hQ9
  subst l9 y9 z9
  obtain ⟨rfl, N9q, K9, wh, kh, szh, I9⟩ := hQ9
  have Zz9 : n0 ≤ T9.heap.size := Nat.le_trans (Nat.le_trans Z0 K8.1) K9.1
  have g_wh : n0 ≤ wh := Nat.le_trans (Nat.le_trans Z0 K8.1) szh
  have ne1 : b8 ≠ wh := Nat.ne_of_lt (Nat.lt_of_lt_of_le E_b8.lt szh)
  have lt57 : b5 < h7.size := V_b5_7.lt
  have ne58 : b5 ≠ b8 := Nat.ne_of_lt (by rw [g8]; exact lt57)
  have ne5w : b5 ≠ wh := Nat.ne_of_lt (Nat.lt_of_lt_of_le (Nat.lt_of_lt_of_le lt57 E8.1) szh)
  have nin5 : b5 ∉ [b8, wh] := ninS ne58 (ninS ne5w nin0)
  have V9 := (V_b5_7.ext E8).keep K9 (ninS ne58 nin0)
  have N9 := Fr.app N7 N9q
  obtain ⟨cq10, kq10, q10a, q10b, q10c⟩ := isOf hZ rfl I9.1
  obtain ⟨_, _, ⟨T10, L10, k10, n10⟩, -, X10, ⟨Lc10, hQ10, l10, y10, z10⟩, st10⟩ := X9.virtualBack hx (y := (⟨"descry/read/TextPrefix", "isEmpty", "()Z"⟩ : MethodName)) (z := (⟨"descry/read/TextPrefix", "isEmpty", "()Z"⟩ : MethodName)) hown (mvT hZ (hw _ (List.mem_of_getElem? (i := 19) rfl))) (mvT hZ (hw _ (List.mem_of_getElem? (i := 20) rfl))) (notFace_of_selects (args := #[]) (mvT hZ (hw _ (List.mem_of_getElem? (i := 22) rfl)))) (mvT hZ (hw _ (List.mem_of_getElem? (i := 22) rfl))) (mvT hZ (hw _ (List.mem_of_getElem? (i := 21) rfl))) (by decide) (backOf (W := 0) (rm4 l Z a0 hw [] b8 (0 : Int32) T9.heap n0 Zz9 I9.2.2.1) hZ (hw _ (List.mem_of_getElem? (i := 23) rfl)) (hw _ (List.mem_of_getElem? (i := 3) rfl)) (by decide) (by decide)) q10a q10c (g := (mkF m 90 #[.val (.int p1), .val (.int p2), .val (.int p3), .val (.int p4), .val (.int ((1 : Int32) + (p1 &&& (3 : Int32)))), .val (.int (p2 &&& (3 : Int32))), .val (.int (((p2.toUInt32 >>> ((2 : Int32) &&& 31).toUInt32).toInt32) &&& (7 : Int32))), .val (.int (p3 &&& (3 : Int32))), .val (.int (((p3.toUInt32 >>> ((2 : Int32) &&& 31).toUInt32).toInt32) &&& (7 : Int32))), .val (.int (0 : Int32)), .val (.ref b5), .val (.ref b8), .unset, .unset, .unset, .unset, .unset] [(.ref b8)])) rfl (by rw [hml]; rfl) (Steps.refl _) (argsL := []) (rest := []) (lenOf pd_0_2 rfl) rfl (by show 2 * 0 + _ ≤ _; exact Nat.le_of_eq rfl) (hb hby at_90) (fun _ _ => ⟨rfl, rfl, (Nat.le_of_ble_eq_true rfl), (Nat.le_of_ble_eq_true rfl)⟩)
  dsimp only [Pt.U, Pt.locs, Pt.cells, Pt.slots] at X10 l10 y10 z10 st10 hQ10
  subst l10 y10 z10
  obtain ⟨rfl, N10q, e10⟩ := hQ10
  have I10 : own_I Z T10.heap b8 wh kh ((1 : Int32) + (p1 &&& (3 : Int32))) (0 : Int32) := by rw [e10]; exact I9
  have Zz10 : n0 ≤ T10.heap.size := by rw [e10]; exact Zz9
  have V10 := V9
  rw [← e10] at V10
  have N10 := Fr.app N9 N10q
  obtain ⟨cq11, kq11, q11a, q11b, q11c⟩ := isOf hZ rfl I10.1
  have on11 := own_ok ((1 : Int32) + (p1 &&& (3 : Int32))) (p2 &&& (3 : Int32)) ((p2.toUInt32 >>> ((2 : Int32) &&& 31).toUInt32).toInt32 &&& (7 : Int32)) (0 : Int32) z1 z2 on1.1 on1.2.1 on1.2.2.1 on1.2.2.2 (by decide) (Int.le_trans (by decide : (0 : Int32).toInt ≤ 1) z1)
  obtain ⟨_, _, ⟨T11, L11, k11, n11⟩, -, X11, ⟨Lc11, hQ11, l11, y11, z11⟩, st11⟩ := X10.virtualBack hx (y := (⟨"descry/read/TextPrefix", "write", "([CII)V"⟩ : MethodName)) (z := (⟨"descry/read/TextPrefix", "write", "([CII)V"⟩ : MethodName)) hown (mvT hZ (hw _ (List.mem_of_getElem? (i := 26) rfl))) (mvT hZ (hw _ (List.mem_of_getElem? (i := 27) rfl))) (notFace_of_selects (args := #[]) (mvT hZ (hw _ (List.mem_of_getElem? (i := 29) rfl)))) (mvT hZ (hw _ (List.mem_of_getElem? (i := 29) rfl))) (mvT hZ (hw _ (List.mem_of_getElem? (i := 28) rfl))) (by decide) (backOf (W := 0) (rm5 l Z a0 hw [] b8 b5 (p2 &&& (3 : Int32)) (((p2.toUInt32 >>> ((2 : Int32) &&& 31).toUInt32).toInt32) &&& (7 : Int32)) wh kh ((1 : Int32) + (p1 &&& (3 : Int32))) (0 : Int32) _ (12 : Int32) _ T10.heap n0 Zz10 I10 V10 g_b8 g_wh ne1 on11.1 on11.2.1 on11.2.2.1 on11.2.2.2.1 on11.2.2.2.2.1 on11.2.2.2.2.2.1) hZ (hw _ (List.mem_of_getElem? (i := 30) rfl)) (hw _ (List.mem_of_getElem? (i := 3) rfl)) (by decide) (by decide)) q11a q11c (g := (mkF m 103 #[.val (.int p1), .val (.int p2), .val (.int p3), .val (.int p4), .val (.int ((1 : Int32) + (p1 &&& (3 : Int32)))), .val (.int (p2 &&& (3 : Int32))), .val (.int (((p2.toUInt32 >>> ((2 : Int32) &&& 31).toUInt32).toInt32) &&& (7 : Int32))), .val (.int (p3 &&& (3 : Int32))), .val (.int (((p3.toUInt32 >>> ((2 : Int32) &&& 31).toUInt32).toInt32) &&& (7 : Int32))), .val (.int (0 : Int32)), .val (.ref b5), .val (.ref b8), .val (.int (own_emp (0 : Int32))), .unset, .unset, .unset, .unset] [(.int (((p2.toUInt32 >>> ((2 : Int32) &&& 31).toUInt32).toInt32) &&& (7 : Int32))), (.int (p2 &&& (3 : Int32))), (.ref b5), (.ref b8)])) rfl (by rw [hml]; rfl) (Steps.refl _) (argsL := [(.ref b5), (.int (p2 &&& (3 : Int32))), (.int (((p2.toUInt32 >>> ((2 : Int32) &&& 31).toUInt32).toInt32) &&& (7 : Int32)))]) (rest := []) (lenOf pd_0_3 rfl) rfl (by show 2 * 0 + _ ≤ _; exact Nat.le_of_eq rfl) (hb hby at_103) (fun _ _ => ⟨rfl, rfl, (Nat.le_of_ble_eq_true rfl), (Nat.le_of_ble_eq_true rfl)⟩)
  dsimp only [Pt.U, Pt.locs, Pt.cells, Pt.slots] at X11 l11 y11 z11 st11 hQ11
  subst l11 y11 z11
  obtain ⟨rfl, N11q, K11, I11⟩ := hQ11
  have Zz11 : n0 ≤ T11.heap.size := Nat.le_trans Zz10 K11.1
  have V11 := V10.keep K11 nin5
  have N11 := Fr.app N10 N11q
  obtain ⟨cq12, kq12, q12a, q12b, q12c⟩ := isOf hZ rfl I11.1
  obtain ⟨_, _, ⟨T12, L12, k12, n12⟩, -, X12, ⟨Lc12, hQ12, l12, y12, z12⟩, st12⟩ := X11.virtualBack hx (y := (⟨"descry/read/TextPrefix", "isEmpty", "()Z"⟩ : MethodName)) (z := (⟨"descry/read/TextPrefix", "isEmpty", "()Z"⟩ : MethodName)) hown (mvT hZ (hw _ (List.mem_of_getElem? (i := 19) rfl))) (mvT hZ (hw _ (List.mem_of_getElem? (i := 20) rfl))) (notFace_of_selects (args := #[]) (mvT hZ (hw _ (List.mem_of_getElem? (i := 22) rfl)))) (mvT hZ (hw _ (List.mem_of_getElem? (i := 22) rfl))) (mvT hZ (hw _ (List.mem_of_getElem? (i := 21) rfl))) (by decide) (backOf (W := 0) (rm4 l Z a0 hw [] b8 ((0 : Int32) + (own_min ((p2.toUInt32 >>> ((2 : Int32) &&& 31).toUInt32).toInt32 &&& (7 : Int32)) (((1 : Int32) + (p1 &&& (3 : Int32))) - (0 : Int32)))) T11.heap n0 Zz11 I11.2.2.1) hZ (hw _ (List.mem_of_getElem? (i := 23) rfl)) (hw _ (List.mem_of_getElem? (i := 3) rfl)) (by decide) (by decide)) q12a q12c (g := (mkF m 108 #[.val (.int p1), .val (.int p2), .val (.int p3), .val (.int p4), .val (.int ((1 : Int32) + (p1 &&& (3 : Int32)))), .val (.int (p2 &&& (3 : Int32))), .val (.int (((p2.toUInt32 >>> ((2 : Int32) &&& 31).toUInt32).toInt32) &&& (7 : Int32))), .val (.int (p3 &&& (3 : Int32))), .val (.int (((p3.toUInt32 >>> ((2 : Int32) &&& 31).toUInt32).toInt32) &&& (7 : Int32))), .val (.int (0 : Int32)), .val (.ref b5), .val (.ref b8), .val (.int (own_emp (0 : Int32))), .unset, .unset, .unset, .unset] [(.ref b8)])) rfl (by rw [hml]; rfl) (Steps.refl _) (argsL := []) (rest := []) (lenOf pd_0_2 rfl) rfl (by show 2 * 0 + _ ≤ _; exact Nat.le_of_eq rfl) (hb hby at_108) (fun _ _ => ⟨rfl, rfl, (Nat.le_of_ble_eq_true rfl), (Nat.le_of_ble_eq_true rfl)⟩)
  dsimp only [Pt.U, Pt.locs, Pt.cells, Pt.slots] at X12 l12 y12 z12 st12 hQ12
  subst l12 y12 z12
  obtain ⟨rfl, N12q, e12⟩ := hQ12
  have I12 : own_I Z T12.heap b8 wh kh ((1 : Int32) + (p1 &&& (3 : Int32))) ((0 : Int32) + (own_min ((p2.toUInt32 >>> ((2 : Int32) &&& 31).toUInt32).toInt32 &&& (7 : Int32)) (((1 : Int32) + (p1 &&& (3 : Int32))) - (0 : Int32)))) := by rw [e12]; exact I11
  have Zz12 : n0 ≤ T12.heap.size := by rw [e12]; exact Zz11
  have V12 := V11
  rw [← e12] at V12
  have N12 := Fr.app N11 N12q
  obtain ⟨cq13, kq13, q13a, q13b, q13c⟩ := isOf hZ rfl I12.1
  have on13 := own_ok ((1 : Int32) + (p1 &&& (3 : Int32))) (p3 &&& (3 : Int32)) ((p3.toUInt32 >>> ((2 : Int32) &&& 31).toUInt32).toInt32 &&& (7 : Int32)) ((0 : Int32) + (own_min ((p2.toUInt32 >>> ((2 : Int32) &&& 31).toUInt32).toInt32 &&& (7 : Int32)) (((1 : Int32) + (p1 &&& (3 : Int32))) - (0 : Int32)))) z1 z2 on2.1 on2.2.1 on2.2.2.1 on2.2.2.2 on11.2.2.2.2.2.2.1 on11.2.2.2.2.2.2.2.1
  obtain ⟨_, _, ⟨T13, L13, k13, n13⟩, -, X13, ⟨Lc13, hQ13, l13, y13, z13⟩, st13⟩ := X12.virtualBack hx (y := (⟨"descry/read/TextPrefix", "write", "([CII)V"⟩ : MethodName)) (z := (⟨"descry/read/TextPrefix", "write", "([CII)V"⟩ : MethodName)) hown (mvT hZ (hw _ (List.mem_of_getElem? (i := 26) rfl))) (mvT hZ (hw _ (List.mem_of_getElem? (i := 27) rfl))) (notFace_of_selects (args := #[]) (mvT hZ (hw _ (List.mem_of_getElem? (i := 29) rfl)))) (mvT hZ (hw _ (List.mem_of_getElem? (i := 29) rfl))) (mvT hZ (hw _ (List.mem_of_getElem? (i := 28) rfl))) (by decide) (backOf (W := 0) (rm5 l Z a0 hw [] b8 b5 (p3 &&& (3 : Int32)) (((p3.toUInt32 >>> ((2 : Int32) &&& 31).toUInt32).toInt32) &&& (7 : Int32)) wh kh ((1 : Int32) + (p1 &&& (3 : Int32))) ((0 : Int32) + (own_min ((p2.toUInt32 >>> ((2 : Int32) &&& 31).toUInt32).toInt32 &&& (7 : Int32)) (((1 : Int32) + (p1 &&& (3 : Int32))) - (0 : Int32)))) _ (12 : Int32) _ T12.heap n0 Zz12 I12 V12 g_b8 g_wh ne1 on13.1 on13.2.1 on13.2.2.1 on13.2.2.2.1 on13.2.2.2.2.1 on13.2.2.2.2.2.1) hZ (hw _ (List.mem_of_getElem? (i := 30) rfl)) (hw _ (List.mem_of_getElem? (i := 3) rfl)) (by decide) (by decide)) q13a q13c (g := (mkF m 131 #[.val (.int p1), .val (.int p2), .val (.int p3), .val (.int p4), .val (.int ((1 : Int32) + (p1 &&& (3 : Int32)))), .val (.int (p2 &&& (3 : Int32))), .val (.int (((p2.toUInt32 >>> ((2 : Int32) &&& 31).toUInt32).toInt32) &&& (7 : Int32))), .val (.int (p3 &&& (3 : Int32))), .val (.int (((p3.toUInt32 >>> ((2 : Int32) &&& 31).toUInt32).toInt32) &&& (7 : Int32))), .val (.int (0 : Int32)), .val (.ref b5), .val (.ref b8), .val (.int (own_emp (0 : Int32))), .val (.int (own_emp ((0 : Int32) + (own_min ((p2.toUInt32 >>> ((2 : Int32) &&& 31).toUInt32).toInt32 &&& (7 : Int32)) (((1 : Int32) + (p1 &&& (3 : Int32))) - (0 : Int32)))))), .unset, .unset, .unset] [(.int (((p3.toUInt32 >>> ((2 : Int32) &&& 31).toUInt32).toInt32) &&& (7 : Int32))), (.int (p3 &&& (3 : Int32))), (.ref b5), (.ref b8)])) rfl (by rw [hml]; rfl) (Steps.refl _) (argsL := [(.ref b5), (.int (p3 &&& (3 : Int32))), (.int (((p3.toUInt32 >>> ((2 : Int32) &&& 31).toUInt32).toInt32) &&& (7 : Int32)))]) (rest := []) (lenOf pd_0_3 rfl) rfl (by show 2 * 0 + _ ≤ _; exact Nat.le_of_eq rfl) (hb hby at_131) (fun _ _ => ⟨rfl, rfl, (Nat.le_of_ble_eq_true rfl), (Nat.le_of_ble_eq_true rfl)⟩)
  dsimp only [Pt.U, Pt.locs, Pt.cells, Pt.slots] at X13 l13 y13 z13 st13 hQ13
  subst l13 y13 z13
  obtain ⟨rfl, N13q, K13, I13⟩ := hQ13
  have Zz13 : n0 ≤ T13.heap.size := Nat.le_trans Zz12 K13.1
  have V13 := V12.keep K13 nin5
  have N13 := Fr.app N12 N13q
  obtain ⟨cq14, kq14, q14a, q14b, q14c⟩ := isOf hZ rfl I13.1
  obtain ⟨_, _, ⟨T14, L14, k14, n14⟩, -, X14, ⟨Lc14, hQ14, l14, y14, z14⟩, st14⟩ := X13.virtualBack hx (y := (⟨"descry/read/TextPrefix", "isEmpty", "()Z"⟩ : MethodName)) (z := (⟨"descry/read/TextPrefix", "isEmpty", "()Z"⟩ : MethodName)) hown (mvT hZ (hw _ (List.mem_of_getElem? (i := 19) rfl))) (mvT hZ (hw _ (List.mem_of_getElem? (i := 20) rfl))) (notFace_of_selects (args := #[]) (mvT hZ (hw _ (List.mem_of_getElem? (i := 22) rfl)))) (mvT hZ (hw _ (List.mem_of_getElem? (i := 22) rfl))) (mvT hZ (hw _ (List.mem_of_getElem? (i := 21) rfl))) (by decide) (backOf (W := 0) (rm4 l Z a0 hw [] b8 (((0 : Int32) + (own_min ((p2.toUInt32 >>> ((2 : Int32) &&& 31).toUInt32).toInt32 &&& (7 : Int32)) (((1 : Int32) + (p1 &&& (3 : Int32))) - (0 : Int32)))) + (own_min ((p3.toUInt32 >>> ((2 : Int32) &&& 31).toUInt32).toInt32 &&& (7 : Int32)) (((1 : Int32) + (p1 &&& (3 : Int32))) - ((0 : Int32) + (own_min ((p2.toUInt32 >>> ((2 : Int32) &&& 31).toUInt32).toInt32 &&& (7 : Int32)) (((1 : Int32) + (p1 &&& (3 : Int32))) - (0 : Int32))))))) T13.heap n0 Zz13 I13.2.2.1) hZ (hw _ (List.mem_of_getElem? (i := 23) rfl)) (hw _ (List.mem_of_getElem? (i := 3) rfl)) (by decide) (by decide)) q14a q14c (g := (mkF m 136 #[.val (.int p1), .val (.int p2), .val (.int p3), .val (.int p4), .val (.int ((1 : Int32) + (p1 &&& (3 : Int32)))), .val (.int (p2 &&& (3 : Int32))), .val (.int (((p2.toUInt32 >>> ((2 : Int32) &&& 31).toUInt32).toInt32) &&& (7 : Int32))), .val (.int (p3 &&& (3 : Int32))), .val (.int (((p3.toUInt32 >>> ((2 : Int32) &&& 31).toUInt32).toInt32) &&& (7 : Int32))), .val (.int (0 : Int32)), .val (.ref b5), .val (.ref b8), .val (.int (own_emp (0 : Int32))), .val (.int (own_emp ((0 : Int32) + (own_min ((p2.toUInt32 >>> ((2 : Int32) &&& 31).toUInt32).toInt32 &&& (7 : Int32)) (((1 : Int32) + (p1 &&& (3 : Int32))) - (0 : Int32)))))), .unset, .unset, .unset] [(.ref b8)])) rfl (by rw [hml]; rfl) (Steps.refl _) (argsL := []) (rest := []) (lenOf pd_0_2 rfl) rfl (by show 2 * 0 + _ ≤ _; exact Nat.le_of_eq rfl) (hb hby at_136) (fun _ _ => ⟨rfl, rfl, (Nat.le_of_ble_eq_true rfl), (Nat.le_of_ble_eq_true rfl)⟩)
  dsimp only [Pt.U, Pt.locs, Pt.cells, Pt.slots] at X14 l14 y14 z14 st14 hQ14
  subst l14 y14 z14
  obtain ⟨rfl, N14q, e14⟩ := hQ14
  have I14 : own_I Z T14.heap b8 wh kh ((1 : Int32) + (p1 &&& (3 : Int32))) (((0 : Int32) + (own_min ((p2.toUInt32 >>> ((2 : Int32) &&& 31).toUInt32).toInt32 &&& (7 : Int32)) (((1 : Int32) + (p1 &&& (3 : Int32))) - (0 : Int32)))) + (own_min ((p3.toUInt32 >>> ((2 : Int32) &&& 31).toUInt32).toInt32 &&& (7 : Int32)) (((1 : Int32) + (p1 &&& (3 : Int32))) - ((0 : Int32) + (own_min ((p2.toUInt32 >>> ((2 : Int32) &&& 31).toUInt32).toInt32 &&& (7 : Int32)) (((1 : Int32) + (p1 &&& (3 : Int32))) - (0 : Int32))))))) := by rw [e14]; exact I13
  have Zz14 : n0 ≤ T14.heap.size := by rw [e14]; exact Zz13
  have V14 := V13
  rw [← e14] at V14
  have N14 := Fr.app N13 N14q
  obtain ⟨fs, hr, hrun, hended, hW, hsame⟩ := X14.leave (v := some (.int (1 : Int32))) (fun h => by rw [Bd.returns] at h; cases h)
  refine ⟨_, _, pre0 _ ?_, hrun, hended, _, _, rfl, ?_, ⟨_, rfl⟩, hW, hsame.mono (by decide) (by decide)⟩
  · show Steps p.tables e below (s₁.setTop (mkF m 0 #[.val (.int p1), .val (.int p2), .val (.int p3), .val (.int p4), .unset, .unset, .unset, .unset, .unset, .unset, .unset, .unset, .unset, .unset, .unset, .unset, .unset] [])) _
    refine XS.iconst X0.here hx rfl (hb hby at_0) ?_
    show Steps p.tables e below (s₁.setTop (mkF m 1 #[.val (.int p1), .val (.int p2), .val (.int p3), .val (.int p4), .unset, .unset, .unset, .unset, .unset, .unset, .unset, .unset, .unset, .unset, .unset, .unset, .unset] [(.int (1 : Int32))])) _
    refine XS.iloadN X0.here hx rfl (hb hby at_1) rfl ?_
    show Steps p.tables e below (s₁.setTop (mkF m 2 #[.val (.int p1), .val (.int p2), .val (.int p3), .val (.int p4), .unset, .unset, .unset, .unset, .unset, .unset, .unset, .unset, .unset, .unset, .unset, .unset, .unset] [(.int p1), (.int (1 : Int32))])) _
    refine XS.iconst X0.here hx rfl (hb hby at_2) ?_
    show Steps p.tables e below (s₁.setTop (mkF m 3 #[.val (.int p1), .val (.int p2), .val (.int p3), .val (.int p4), .unset, .unset, .unset, .unset, .unset, .unset, .unset, .unset, .unset, .unset, .unset, .unset, .unset] [(.int (3 : Int32)), (.int p1), (.int (1 : Int32))])) _
    refine XS.iand X0.here hx rfl (hb hby at_3) rfl ?_
    show Steps p.tables e below (s₁.setTop (mkF m 4 #[.val (.int p1), .val (.int p2), .val (.int p3), .val (.int p4), .unset, .unset, .unset, .unset, .unset, .unset, .unset, .unset, .unset, .unset, .unset, .unset, .unset] [(.int (p1 &&& (3 : Int32))), (.int (1 : Int32))])) _
    refine XS.iadd X0.here hx rfl (hb hby at_4) rfl ?_
    show Steps p.tables e below (s₁.setTop (mkF m 5 #[.val (.int p1), .val (.int p2), .val (.int p3), .val (.int p4), .unset, .unset, .unset, .unset, .unset, .unset, .unset, .unset, .unset, .unset, .unset, .unset, .unset] [(.int ((1 : Int32) + (p1 &&& (3 : Int32))))])) _
    refine XS.istore X0.here hx rfl (hb hby at_5) rfl (l' := #[.val (.int p1), .val (.int p2), .val (.int p3), .val (.int p4), .val (.int ((1 : Int32) + (p1 &&& (3 : Int32)))), .unset, .unset, .unset, .unset, .unset, .unset, .unset, .unset, .unset, .unset, .unset, .unset]) rfl ?_
    show Steps p.tables e below (s₁.setTop (mkF m 7 #[.val (.int p1), .val (.int p2), .val (.int p3), .val (.int p4), .val (.int ((1 : Int32) + (p1 &&& (3 : Int32)))), .unset, .unset, .unset, .unset, .unset, .unset, .unset, .unset, .unset, .unset, .unset, .unset] [])) _
    refine XS.iloadN X0.here hx rfl (hb hby at_7) rfl ?_
    show Steps p.tables e below (s₁.setTop (mkF m 8 #[.val (.int p1), .val (.int p2), .val (.int p3), .val (.int p4), .val (.int ((1 : Int32) + (p1 &&& (3 : Int32)))), .unset, .unset, .unset, .unset, .unset, .unset, .unset, .unset, .unset, .unset, .unset, .unset] [(.int p2)])) _
    refine XS.iconst X0.here hx rfl (hb hby at_8) ?_
    show Steps p.tables e below (s₁.setTop (mkF m 9 #[.val (.int p1), .val (.int p2), .val (.int p3), .val (.int p4), .val (.int ((1 : Int32) + (p1 &&& (3 : Int32)))), .unset, .unset, .unset, .unset, .unset, .unset, .unset, .unset, .unset, .unset, .unset, .unset] [(.int (3 : Int32)), (.int p2)])) _
    refine XS.iand X0.here hx rfl (hb hby at_9) rfl ?_
    show Steps p.tables e below (s₁.setTop (mkF m 10 #[.val (.int p1), .val (.int p2), .val (.int p3), .val (.int p4), .val (.int ((1 : Int32) + (p1 &&& (3 : Int32)))), .unset, .unset, .unset, .unset, .unset, .unset, .unset, .unset, .unset, .unset, .unset, .unset] [(.int (p2 &&& (3 : Int32)))])) _
    refine XS.istore X0.here hx rfl (hb hby at_10) rfl (l' := #[.val (.int p1), .val (.int p2), .val (.int p3), .val (.int p4), .val (.int ((1 : Int32) + (p1 &&& (3 : Int32)))), .val (.int (p2 &&& (3 : Int32))), .unset, .unset, .unset, .unset, .unset, .unset, .unset, .unset, .unset, .unset, .unset]) rfl ?_
    show Steps p.tables e below (s₁.setTop (mkF m 12 #[.val (.int p1), .val (.int p2), .val (.int p3), .val (.int p4), .val (.int ((1 : Int32) + (p1 &&& (3 : Int32)))), .val (.int (p2 &&& (3 : Int32))), .unset, .unset, .unset, .unset, .unset, .unset, .unset, .unset, .unset, .unset, .unset] [])) _
    refine XS.iloadN X0.here hx rfl (hb hby at_12) rfl ?_
    show Steps p.tables e below (s₁.setTop (mkF m 13 #[.val (.int p1), .val (.int p2), .val (.int p3), .val (.int p4), .val (.int ((1 : Int32) + (p1 &&& (3 : Int32)))), .val (.int (p2 &&& (3 : Int32))), .unset, .unset, .unset, .unset, .unset, .unset, .unset, .unset, .unset, .unset, .unset] [(.int p2)])) _
    refine XS.iconst X0.here hx rfl (hb hby at_13) ?_
    show Steps p.tables e below (s₁.setTop (mkF m 14 #[.val (.int p1), .val (.int p2), .val (.int p3), .val (.int p4), .val (.int ((1 : Int32) + (p1 &&& (3 : Int32)))), .val (.int (p2 &&& (3 : Int32))), .unset, .unset, .unset, .unset, .unset, .unset, .unset, .unset, .unset, .unset, .unset] [(.int (2 : Int32)), (.int p2)])) _
    refine XS.iushr X0.here hx rfl (hb hby at_14) rfl ?_
    show Steps p.tables e below (s₁.setTop (mkF m 15 #[.val (.int p1), .val (.int p2), .val (.int p3), .val (.int p4), .val (.int ((1 : Int32) + (p1 &&& (3 : Int32)))), .val (.int (p2 &&& (3 : Int32))), .unset, .unset, .unset, .unset, .unset, .unset, .unset, .unset, .unset, .unset, .unset] [(.int ((p2.toUInt32 >>> ((2 : Int32) &&& 31).toUInt32).toInt32))])) _
    refine XS.bipush X0.here hx rfl (hb hby at_15) ?_
    show Steps p.tables e below (s₁.setTop (mkF m 17 #[.val (.int p1), .val (.int p2), .val (.int p3), .val (.int p4), .val (.int ((1 : Int32) + (p1 &&& (3 : Int32)))), .val (.int (p2 &&& (3 : Int32))), .unset, .unset, .unset, .unset, .unset, .unset, .unset, .unset, .unset, .unset, .unset] [(.int (7 : Int32)), (.int ((p2.toUInt32 >>> ((2 : Int32) &&& 31).toUInt32).toInt32))])) _
    refine XS.iand X0.here hx rfl (hb hby at_17) rfl ?_
    show Steps p.tables e below (s₁.setTop (mkF m 18 #[.val (.int p1), .val (.int p2), .val (.int p3), .val (.int p4), .val (.int ((1 : Int32) + (p1 &&& (3 : Int32)))), .val (.int (p2 &&& (3 : Int32))), .unset, .unset, .unset, .unset, .unset, .unset, .unset, .unset, .unset, .unset, .unset] [(.int (((p2.toUInt32 >>> ((2 : Int32) &&& 31).toUInt32).toInt32) &&& (7 : Int32)))])) _
    refine XS.istore X0.here hx rfl (hb hby at_18) rfl (l' := #[.val (.int p1), .val (.int p2), .val (.int p3), .val (.int p4), .val (.int ((1 : Int32) + (p1 &&& (3 : Int32)))), .val (.int (p2 &&& (3 : Int32))), .val (.int (((p2.toUInt32 >>> ((2 : Int32) &&& 31).toUInt32).toInt32) &&& (7 : Int32))), .unset, .unset, .unset, .unset, .unset, .unset, .unset, .unset, .unset, .unset]) rfl ?_
    show Steps p.tables e below (s₁.setTop (mkF m 20 #[.val (.int p1), .val (.int p2), .val (.int p3), .val (.int p4), .val (.int ((1 : Int32) + (p1 &&& (3 : Int32)))), .val (.int (p2 &&& (3 : Int32))), .val (.int (((p2.toUInt32 >>> ((2 : Int32) &&& 31).toUInt32).toInt32) &&& (7 : Int32))), .unset, .unset, .unset, .unset, .unset, .unset, .unset, .unset, .unset, .unset] [])) _
    refine XS.iloadN X0.here hx rfl (hb hby at_20) rfl ?_
    show Steps p.tables e below (s₁.setTop (mkF m 21 #[.val (.int p1), .val (.int p2), .val (.int p3), .val (.int p4), .val (.int ((1 : Int32) + (p1 &&& (3 : Int32)))), .val (.int (p2 &&& (3 : Int32))), .val (.int (((p2.toUInt32 >>> ((2 : Int32) &&& 31).toUInt32).toInt32) &&& (7 : Int32))), .unset, .unset, .unset, .unset, .unset, .unset, .unset, .unset, .unset, .unset] [(.int p3)])) _
    refine XS.iconst X0.here hx rfl (hb hby at_21) ?_
    show Steps p.tables e below (s₁.setTop (mkF m 22 #[.val (.int p1), .val (.int p2), .val (.int p3), .val (.int p4), .val (.int ((1 : Int32) + (p1 &&& (3 : Int32)))), .val (.int (p2 &&& (3 : Int32))), .val (.int (((p2.toUInt32 >>> ((2 : Int32) &&& 31).toUInt32).toInt32) &&& (7 : Int32))), .unset, .unset, .unset, .unset, .unset, .unset, .unset, .unset, .unset, .unset] [(.int (3 : Int32)), (.int p3)])) _
    refine XS.iand X0.here hx rfl (hb hby at_22) rfl ?_
    show Steps p.tables e below (s₁.setTop (mkF m 23 #[.val (.int p1), .val (.int p2), .val (.int p3), .val (.int p4), .val (.int ((1 : Int32) + (p1 &&& (3 : Int32)))), .val (.int (p2 &&& (3 : Int32))), .val (.int (((p2.toUInt32 >>> ((2 : Int32) &&& 31).toUInt32).toInt32) &&& (7 : Int32))), .unset, .unset, .unset, .unset, .unset, .unset, .unset, .unset, .unset, .unset] [(.int (p3 &&& (3 : Int32)))])) _
    refine XS.istore X0.here hx rfl (hb hby at_23) rfl (l' := #[.val (.int p1), .val (.int p2), .val (.int p3), .val (.int p4), .val (.int ((1 : Int32) + (p1 &&& (3 : Int32)))), .val (.int (p2 &&& (3 : Int32))), .val (.int (((p2.toUInt32 >>> ((2 : Int32) &&& 31).toUInt32).toInt32) &&& (7 : Int32))), .val (.int (p3 &&& (3 : Int32))), .unset, .unset, .unset, .unset, .unset, .unset, .unset, .unset, .unset]) rfl ?_
    show Steps p.tables e below (s₁.setTop (mkF m 25 #[.val (.int p1), .val (.int p2), .val (.int p3), .val (.int p4), .val (.int ((1 : Int32) + (p1 &&& (3 : Int32)))), .val (.int (p2 &&& (3 : Int32))), .val (.int (((p2.toUInt32 >>> ((2 : Int32) &&& 31).toUInt32).toInt32) &&& (7 : Int32))), .val (.int (p3 &&& (3 : Int32))), .unset, .unset, .unset, .unset, .unset, .unset, .unset, .unset, .unset] [])) _
    refine XS.iloadN X0.here hx rfl (hb hby at_25) rfl ?_
    show Steps p.tables e below (s₁.setTop (mkF m 26 #[.val (.int p1), .val (.int p2), .val (.int p3), .val (.int p4), .val (.int ((1 : Int32) + (p1 &&& (3 : Int32)))), .val (.int (p2 &&& (3 : Int32))), .val (.int (((p2.toUInt32 >>> ((2 : Int32) &&& 31).toUInt32).toInt32) &&& (7 : Int32))), .val (.int (p3 &&& (3 : Int32))), .unset, .unset, .unset, .unset, .unset, .unset, .unset, .unset, .unset] [(.int p3)])) _
    refine XS.iconst X0.here hx rfl (hb hby at_26) ?_
    show Steps p.tables e below (s₁.setTop (mkF m 27 #[.val (.int p1), .val (.int p2), .val (.int p3), .val (.int p4), .val (.int ((1 : Int32) + (p1 &&& (3 : Int32)))), .val (.int (p2 &&& (3 : Int32))), .val (.int (((p2.toUInt32 >>> ((2 : Int32) &&& 31).toUInt32).toInt32) &&& (7 : Int32))), .val (.int (p3 &&& (3 : Int32))), .unset, .unset, .unset, .unset, .unset, .unset, .unset, .unset, .unset] [(.int (2 : Int32)), (.int p3)])) _
    refine XS.iushr X0.here hx rfl (hb hby at_27) rfl ?_
    show Steps p.tables e below (s₁.setTop (mkF m 28 #[.val (.int p1), .val (.int p2), .val (.int p3), .val (.int p4), .val (.int ((1 : Int32) + (p1 &&& (3 : Int32)))), .val (.int (p2 &&& (3 : Int32))), .val (.int (((p2.toUInt32 >>> ((2 : Int32) &&& 31).toUInt32).toInt32) &&& (7 : Int32))), .val (.int (p3 &&& (3 : Int32))), .unset, .unset, .unset, .unset, .unset, .unset, .unset, .unset, .unset] [(.int ((p3.toUInt32 >>> ((2 : Int32) &&& 31).toUInt32).toInt32))])) _
    refine XS.bipush X0.here hx rfl (hb hby at_28) ?_
    show Steps p.tables e below (s₁.setTop (mkF m 30 #[.val (.int p1), .val (.int p2), .val (.int p3), .val (.int p4), .val (.int ((1 : Int32) + (p1 &&& (3 : Int32)))), .val (.int (p2 &&& (3 : Int32))), .val (.int (((p2.toUInt32 >>> ((2 : Int32) &&& 31).toUInt32).toInt32) &&& (7 : Int32))), .val (.int (p3 &&& (3 : Int32))), .unset, .unset, .unset, .unset, .unset, .unset, .unset, .unset, .unset] [(.int (7 : Int32)), (.int ((p3.toUInt32 >>> ((2 : Int32) &&& 31).toUInt32).toInt32))])) _
    refine XS.iand X0.here hx rfl (hb hby at_30) rfl ?_
    show Steps p.tables e below (s₁.setTop (mkF m 31 #[.val (.int p1), .val (.int p2), .val (.int p3), .val (.int p4), .val (.int ((1 : Int32) + (p1 &&& (3 : Int32)))), .val (.int (p2 &&& (3 : Int32))), .val (.int (((p2.toUInt32 >>> ((2 : Int32) &&& 31).toUInt32).toInt32) &&& (7 : Int32))), .val (.int (p3 &&& (3 : Int32))), .unset, .unset, .unset, .unset, .unset, .unset, .unset, .unset, .unset] [(.int (((p3.toUInt32 >>> ((2 : Int32) &&& 31).toUInt32).toInt32) &&& (7 : Int32)))])) _
    refine XS.istore X0.here hx rfl (hb hby at_31) rfl (l' := #[.val (.int p1), .val (.int p2), .val (.int p3), .val (.int p4), .val (.int ((1 : Int32) + (p1 &&& (3 : Int32)))), .val (.int (p2 &&& (3 : Int32))), .val (.int (((p2.toUInt32 >>> ((2 : Int32) &&& 31).toUInt32).toInt32) &&& (7 : Int32))), .val (.int (p3 &&& (3 : Int32))), .val (.int (((p3.toUInt32 >>> ((2 : Int32) &&& 31).toUInt32).toInt32) &&& (7 : Int32))), .unset, .unset, .unset, .unset, .unset, .unset, .unset, .unset]) rfl ?_
    show Steps p.tables e below (s₁.setTop (mkF m 33 #[.val (.int p1), .val (.int p2), .val (.int p3), .val (.int p4), .val (.int ((1 : Int32) + (p1 &&& (3 : Int32)))), .val (.int (p2 &&& (3 : Int32))), .val (.int (((p2.toUInt32 >>> ((2 : Int32) &&& 31).toUInt32).toInt32) &&& (7 : Int32))), .val (.int (p3 &&& (3 : Int32))), .val (.int (((p3.toUInt32 >>> ((2 : Int32) &&& 31).toUInt32).toInt32) &&& (7 : Int32))), .unset, .unset, .unset, .unset, .unset, .unset, .unset, .unset] [])) _
    refine XS.iloadN X0.here hx rfl (hb hby at_33) rfl ?_
    show Steps p.tables e below (s₁.setTop (mkF m 34 #[.val (.int p1), .val (.int p2), .val (.int p3), .val (.int p4), .val (.int ((1 : Int32) + (p1 &&& (3 : Int32)))), .val (.int (p2 &&& (3 : Int32))), .val (.int (((p2.toUInt32 >>> ((2 : Int32) &&& 31).toUInt32).toInt32) &&& (7 : Int32))), .val (.int (p3 &&& (3 : Int32))), .val (.int (((p3.toUInt32 >>> ((2 : Int32) &&& 31).toUInt32).toInt32) &&& (7 : Int32))), .unset, .unset, .unset, .unset, .unset, .unset, .unset, .unset] [(.int p4)])) _
    refine XS.iconst X0.here hx rfl (hb hby at_34) ?_
    show Steps p.tables e below (s₁.setTop (mkF m 35 #[.val (.int p1), .val (.int p2), .val (.int p3), .val (.int p4), .val (.int ((1 : Int32) + (p1 &&& (3 : Int32)))), .val (.int (p2 &&& (3 : Int32))), .val (.int (((p2.toUInt32 >>> ((2 : Int32) &&& 31).toUInt32).toInt32) &&& (7 : Int32))), .val (.int (p3 &&& (3 : Int32))), .val (.int (((p3.toUInt32 >>> ((2 : Int32) &&& 31).toUInt32).toInt32) &&& (7 : Int32))), .unset, .unset, .unset, .unset, .unset, .unset, .unset, .unset] [(.int (1 : Int32)), (.int p4)])) _
    refine XS.iand X0.here hx rfl (hb hby at_35) rfl ?_
    show Steps p.tables e below (s₁.setTop (mkF m 36 #[.val (.int p1), .val (.int p2), .val (.int p3), .val (.int p4), .val (.int ((1 : Int32) + (p1 &&& (3 : Int32)))), .val (.int (p2 &&& (3 : Int32))), .val (.int (((p2.toUInt32 >>> ((2 : Int32) &&& 31).toUInt32).toInt32) &&& (7 : Int32))), .val (.int (p3 &&& (3 : Int32))), .val (.int (((p3.toUInt32 >>> ((2 : Int32) &&& 31).toUInt32).toInt32) &&& (7 : Int32))), .unset, .unset, .unset, .unset, .unset, .unset, .unset, .unset] [(.int (p4 &&& (1 : Int32)))])) _
    refine XS.ifYes X0.here hx rfl (pc0 := 36) (pc' := 43) rfl (hb hby at_36) rfl ((if0 _ _).trans (teq hc36).1) (by decide) (by decide) ?_
    show Steps p.tables e below (s₁.setTop (mkF m 43 #[.val (.int p1), .val (.int p2), .val (.int p3), .val (.int p4), .val (.int ((1 : Int32) + (p1 &&& (3 : Int32)))), .val (.int (p2 &&& (3 : Int32))), .val (.int (((p2.toUInt32 >>> ((2 : Int32) &&& 31).toUInt32).toInt32) &&& (7 : Int32))), .val (.int (p3 &&& (3 : Int32))), .val (.int (((p3.toUInt32 >>> ((2 : Int32) &&& 31).toUInt32).toInt32) &&& (7 : Int32))), .unset, .unset, .unset, .unset, .unset, .unset, .unset, .unset] [])) _
    refine XS.iconst X0.here hx rfl (hb hby at_43) ?_
    show Steps p.tables e below (s₁.setTop (mkF m 44 #[.val (.int p1), .val (.int p2), .val (.int p3), .val (.int p4), .val (.int ((1 : Int32) + (p1 &&& (3 : Int32)))), .val (.int (p2 &&& (3 : Int32))), .val (.int (((p2.toUInt32 >>> ((2 : Int32) &&& 31).toUInt32).toInt32) &&& (7 : Int32))), .val (.int (p3 &&& (3 : Int32))), .val (.int (((p3.toUInt32 >>> ((2 : Int32) &&& 31).toUInt32).toInt32) &&& (7 : Int32))), .unset, .unset, .unset, .unset, .unset, .unset, .unset, .unset] [(.int (0 : Int32))])) _
    refine XS.istore X0.here hx rfl (hb hby at_44) rfl (l' := #[.val (.int p1), .val (.int p2), .val (.int p3), .val (.int p4), .val (.int ((1 : Int32) + (p1 &&& (3 : Int32)))), .val (.int (p2 &&& (3 : Int32))), .val (.int (((p2.toUInt32 >>> ((2 : Int32) &&& 31).toUInt32).toInt32) &&& (7 : Int32))), .val (.int (p3 &&& (3 : Int32))), .val (.int (((p3.toUInt32 >>> ((2 : Int32) &&& 31).toUInt32).toInt32) &&& (7 : Int32))), .val (.int (0 : Int32)), .unset, .unset, .unset, .unset, .unset, .unset, .unset]) rfl ?_
    show Steps p.tables e below (s₁.setTop (mkF m 46 #[.val (.int p1), .val (.int p2), .val (.int p3), .val (.int p4), .val (.int ((1 : Int32) + (p1 &&& (3 : Int32)))), .val (.int (p2 &&& (3 : Int32))), .val (.int (((p2.toUInt32 >>> ((2 : Int32) &&& 31).toUInt32).toInt32) &&& (7 : Int32))), .val (.int (p3 &&& (3 : Int32))), .val (.int (((p3.toUInt32 >>> ((2 : Int32) &&& 31).toUInt32).toInt32) &&& (7 : Int32))), .val (.int (0 : Int32)), .unset, .unset, .unset, .unset, .unset, .unset, .unset] [])) _
    refine XS.bipush X0.here hx rfl (hb hby at_46) ?_
    show Steps p.tables e below (s₁.setTop (mkF m 48 #[.val (.int p1), .val (.int p2), .val (.int p3), .val (.int p4), .val (.int ((1 : Int32) + (p1 &&& (3 : Int32)))), .val (.int (p2 &&& (3 : Int32))), .val (.int (((p2.toUInt32 >>> ((2 : Int32) &&& 31).toUInt32).toInt32) &&& (7 : Int32))), .val (.int (p3 &&& (3 : Int32))), .val (.int (((p3.toUInt32 >>> ((2 : Int32) &&& 31).toUInt32).toInt32) &&& (7 : Int32))), .val (.int (0 : Int32)), .unset, .unset, .unset, .unset, .unset, .unset, .unset] [(.int (12 : Int32))])) _
    refine st5 _ ?_
    show Steps p.tables e below (T5.setTop (mkF m 50 #[.val (.int p1), .val (.int p2), .val (.int p3), .val (.int p4), .val (.int ((1 : Int32) + (p1 &&& (3 : Int32)))), .val (.int (p2 &&& (3 : Int32))), .val (.int (((p2.toUInt32 >>> ((2 : Int32) &&& 31).toUInt32).toInt32) &&& (7 : Int32))), .val (.int (p3 &&& (3 : Int32))), .val (.int (((p3.toUInt32 >>> ((2 : Int32) &&& 31).toUInt32).toInt32) &&& (7 : Int32))), .val (.int (0 : Int32)), .unset, .unset, .unset, .unset, .unset, .unset, .unset] [(.ref b5)])) _
    refine XS.astore X5.here hx rfl (hb hby at_50) rfl rfl (l' := #[.val (.int p1), .val (.int p2), .val (.int p3), .val (.int p4), .val (.int ((1 : Int32) + (p1 &&& (3 : Int32)))), .val (.int (p2 &&& (3 : Int32))), .val (.int (((p2.toUInt32 >>> ((2 : Int32) &&& 31).toUInt32).toInt32) &&& (7 : Int32))), .val (.int (p3 &&& (3 : Int32))), .val (.int (((p3.toUInt32 >>> ((2 : Int32) &&& 31).toUInt32).toInt32) &&& (7 : Int32))), .val (.int (0 : Int32)), .val (.ref b5), .unset, .unset, .unset, .unset, .unset, .unset]) rfl ?_
    show Steps p.tables e below (T5.setTop (mkF m 52 #[.val (.int p1), .val (.int p2), .val (.int p3), .val (.int p4), .val (.int ((1 : Int32) + (p1 &&& (3 : Int32)))), .val (.int (p2 &&& (3 : Int32))), .val (.int (((p2.toUInt32 >>> ((2 : Int32) &&& 31).toUInt32).toInt32) &&& (7 : Int32))), .val (.int (p3 &&& (3 : Int32))), .val (.int (((p3.toUInt32 >>> ((2 : Int32) &&& 31).toUInt32).toInt32) &&& (7 : Int32))), .val (.int (0 : Int32)), .val (.ref b5), .unset, .unset, .unset, .unset, .unset, .unset] [])) _
    refine XS.aload X5.here hx rfl (hb hby at_52) rfl rfl ?_
    show Steps p.tables e below (T5.setTop (mkF m 54 #[.val (.int p1), .val (.int p2), .val (.int p3), .val (.int p4), .val (.int ((1 : Int32) + (p1 &&& (3 : Int32)))), .val (.int (p2 &&& (3 : Int32))), .val (.int (((p2.toUInt32 >>> ((2 : Int32) &&& 31).toUInt32).toInt32) &&& (7 : Int32))), .val (.int (p3 &&& (3 : Int32))), .val (.int (((p3.toUInt32 >>> ((2 : Int32) &&& 31).toUInt32).toInt32) &&& (7 : Int32))), .val (.int (0 : Int32)), .val (.ref b5), .unset, .unset, .unset, .unset, .unset, .unset] [(.ref b5)])) _
    refine XS.iconst X5.here hx rfl (hb hby at_54) ?_
    show Steps p.tables e below (T5.setTop (mkF m 55 #[.val (.int p1), .val (.int p2), .val (.int p3), .val (.int p4), .val (.int ((1 : Int32) + (p1 &&& (3 : Int32)))), .val (.int (p2 &&& (3 : Int32))), .val (.int (((p2.toUInt32 >>> ((2 : Int32) &&& 31).toUInt32).toInt32) &&& (7 : Int32))), .val (.int (p3 &&& (3 : Int32))), .val (.int (((p3.toUInt32 >>> ((2 : Int32) &&& 31).toUInt32).toInt32) &&& (7 : Int32))), .val (.int (0 : Int32)), .val (.ref b5), .unset, .unset, .unset, .unset, .unset, .unset] [(.int (0 : Int32)), (.ref b5)])) _
    refine XS.iloadN X5.here hx rfl (hb hby at_55) rfl ?_
    show Steps p.tables e below (T5.setTop (mkF m 56 #[.val (.int p1), .val (.int p2), .val (.int p3), .val (.int p4), .val (.int ((1 : Int32) + (p1 &&& (3 : Int32)))), .val (.int (p2 &&& (3 : Int32))), .val (.int (((p2.toUInt32 >>> ((2 : Int32) &&& 31).toUInt32).toInt32) &&& (7 : Int32))), .val (.int (p3 &&& (3 : Int32))), .val (.int (((p3.toUInt32 >>> ((2 : Int32) &&& 31).toUInt32).toInt32) &&& (7 : Int32))), .val (.int (0 : Int32)), .val (.ref b5), .unset, .unset, .unset, .unset, .unset, .unset] [(.int p4), (.int (0 : Int32)), (.ref b5)])) _
    refine XS.iconst X5.here hx rfl (hb hby at_56) ?_
    show Steps p.tables e below (T5.setTop (mkF m 57 #[.val (.int p1), .val (.int p2), .val (.int p3), .val (.int p4), .val (.int ((1 : Int32) + (p1 &&& (3 : Int32)))), .val (.int (p2 &&& (3 : Int32))), .val (.int (((p2.toUInt32 >>> ((2 : Int32) &&& 31).toUInt32).toInt32) &&& (7 : Int32))), .val (.int (p3 &&& (3 : Int32))), .val (.int (((p3.toUInt32 >>> ((2 : Int32) &&& 31).toUInt32).toInt32) &&& (7 : Int32))), .val (.int (0 : Int32)), .val (.ref b5), .unset, .unset, .unset, .unset, .unset, .unset] [(.int (1 : Int32)), (.int p4), (.int (0 : Int32)), (.ref b5)])) _
    refine XS.iushr X5.here hx rfl (hb hby at_57) rfl ?_
    show Steps p.tables e below (T5.setTop (mkF m 58 #[.val (.int p1), .val (.int p2), .val (.int p3), .val (.int p4), .val (.int ((1 : Int32) + (p1 &&& (3 : Int32)))), .val (.int (p2 &&& (3 : Int32))), .val (.int (((p2.toUInt32 >>> ((2 : Int32) &&& 31).toUInt32).toInt32) &&& (7 : Int32))), .val (.int (p3 &&& (3 : Int32))), .val (.int (((p3.toUInt32 >>> ((2 : Int32) &&& 31).toUInt32).toInt32) &&& (7 : Int32))), .val (.int (0 : Int32)), .val (.ref b5), .unset, .unset, .unset, .unset, .unset, .unset] [(.int ((p4.toUInt32 >>> ((1 : Int32) &&& 31).toUInt32).toInt32)), (.int (0 : Int32)), (.ref b5)])) _
    refine XS.sipush X5.here hx rfl (hb hby at_58) ?_
    show Steps p.tables e below (T5.setTop (mkF m 61 #[.val (.int p1), .val (.int p2), .val (.int p3), .val (.int p4), .val (.int ((1 : Int32) + (p1 &&& (3 : Int32)))), .val (.int (p2 &&& (3 : Int32))), .val (.int (((p2.toUInt32 >>> ((2 : Int32) &&& 31).toUInt32).toInt32) &&& (7 : Int32))), .val (.int (p3 &&& (3 : Int32))), .val (.int (((p3.toUInt32 >>> ((2 : Int32) &&& 31).toUInt32).toInt32) &&& (7 : Int32))), .val (.int (0 : Int32)), .val (.ref b5), .unset, .unset, .unset, .unset, .unset, .unset] [(.int (255 : Int32)), (.int ((p4.toUInt32 >>> ((1 : Int32) &&& 31).toUInt32).toInt32)), (.int (0 : Int32)), (.ref b5)])) _
    refine XS.iand X5.here hx rfl (hb hby at_61) rfl ?_
    show Steps p.tables e below (T5.setTop (mkF m 62 #[.val (.int p1), .val (.int p2), .val (.int p3), .val (.int p4), .val (.int ((1 : Int32) + (p1 &&& (3 : Int32)))), .val (.int (p2 &&& (3 : Int32))), .val (.int (((p2.toUInt32 >>> ((2 : Int32) &&& 31).toUInt32).toInt32) &&& (7 : Int32))), .val (.int (p3 &&& (3 : Int32))), .val (.int (((p3.toUInt32 >>> ((2 : Int32) &&& 31).toUInt32).toInt32) &&& (7 : Int32))), .val (.int (0 : Int32)), .val (.ref b5), .unset, .unset, .unset, .unset, .unset, .unset] [(.int (((p4.toUInt32 >>> ((1 : Int32) &&& 31).toUInt32).toInt32) &&& (255 : Int32))), (.int (0 : Int32)), (.ref b5)])) _
    refine XS.i2c X5.here hx rfl (hb hby at_62) rfl ?_
    show Steps p.tables e below (T5.setTop (mkF m 63 #[.val (.int p1), .val (.int p2), .val (.int p3), .val (.int p4), .val (.int ((1 : Int32) + (p1 &&& (3 : Int32)))), .val (.int (p2 &&& (3 : Int32))), .val (.int (((p2.toUInt32 >>> ((2 : Int32) &&& 31).toUInt32).toInt32) &&& (7 : Int32))), .val (.int (p3 &&& (3 : Int32))), .val (.int (((p3.toUInt32 >>> ((2 : Int32) &&& 31).toUInt32).toInt32) &&& (7 : Int32))), .val (.int (0 : Int32)), .val (.ref b5), .unset, .unset, .unset, .unset, .unset, .unset] [(.int ((((p4.toUInt32 >>> ((1 : Int32) &&& 31).toUInt32).toInt32) &&& (255 : Int32)).toUInt32.toUInt16.toUInt32.toInt32)), (.int (0 : Int32)), (.ref b5)])) _
    refine st6 _ ?_
    show Steps p.tables e below (T6.setTop (mkF m 64 #[.val (.int p1), .val (.int p2), .val (.int p3), .val (.int p4), .val (.int ((1 : Int32) + (p1 &&& (3 : Int32)))), .val (.int (p2 &&& (3 : Int32))), .val (.int (((p2.toUInt32 >>> ((2 : Int32) &&& 31).toUInt32).toInt32) &&& (7 : Int32))), .val (.int (p3 &&& (3 : Int32))), .val (.int (((p3.toUInt32 >>> ((2 : Int32) &&& 31).toUInt32).toInt32) &&& (7 : Int32))), .val (.int (0 : Int32)), .val (.ref b5), .unset, .unset, .unset, .unset, .unset, .unset] [])) _
    refine XS.aload X6.here hx rfl (hb hby at_64) rfl rfl ?_
    show Steps p.tables e below (T6.setTop (mkF m 66 #[.val (.int p1), .val (.int p2), .val (.int p3), .val (.int p4), .val (.int ((1 : Int32) + (p1 &&& (3 : Int32)))), .val (.int (p2 &&& (3 : Int32))), .val (.int (((p2.toUInt32 >>> ((2 : Int32) &&& 31).toUInt32).toInt32) &&& (7 : Int32))), .val (.int (p3 &&& (3 : Int32))), .val (.int (((p3.toUInt32 >>> ((2 : Int32) &&& 31).toUInt32).toInt32) &&& (7 : Int32))), .val (.int (0 : Int32)), .val (.ref b5), .unset, .unset, .unset, .unset, .unset, .unset] [(.ref b5)])) _
    refine XS.iconst X6.here hx rfl (hb hby at_66) ?_
    show Steps p.tables e below (T6.setTop (mkF m 67 #[.val (.int p1), .val (.int p2), .val (.int p3), .val (.int p4), .val (.int ((1 : Int32) + (p1 &&& (3 : Int32)))), .val (.int (p2 &&& (3 : Int32))), .val (.int (((p2.toUInt32 >>> ((2 : Int32) &&& 31).toUInt32).toInt32) &&& (7 : Int32))), .val (.int (p3 &&& (3 : Int32))), .val (.int (((p3.toUInt32 >>> ((2 : Int32) &&& 31).toUInt32).toInt32) &&& (7 : Int32))), .val (.int (0 : Int32)), .val (.ref b5), .unset, .unset, .unset, .unset, .unset, .unset] [(.int (5 : Int32)), (.ref b5)])) _
    refine XS.iloadN X6.here hx rfl (hb hby at_67) rfl ?_
    show Steps p.tables e below (T6.setTop (mkF m 68 #[.val (.int p1), .val (.int p2), .val (.int p3), .val (.int p4), .val (.int ((1 : Int32) + (p1 &&& (3 : Int32)))), .val (.int (p2 &&& (3 : Int32))), .val (.int (((p2.toUInt32 >>> ((2 : Int32) &&& 31).toUInt32).toInt32) &&& (7 : Int32))), .val (.int (p3 &&& (3 : Int32))), .val (.int (((p3.toUInt32 >>> ((2 : Int32) &&& 31).toUInt32).toInt32) &&& (7 : Int32))), .val (.int (0 : Int32)), .val (.ref b5), .unset, .unset, .unset, .unset, .unset, .unset] [(.int p4), (.int (5 : Int32)), (.ref b5)])) _
    refine XS.bipush X6.here hx rfl (hb hby at_68) ?_
    show Steps p.tables e below (T6.setTop (mkF m 70 #[.val (.int p1), .val (.int p2), .val (.int p3), .val (.int p4), .val (.int ((1 : Int32) + (p1 &&& (3 : Int32)))), .val (.int (p2 &&& (3 : Int32))), .val (.int (((p2.toUInt32 >>> ((2 : Int32) &&& 31).toUInt32).toInt32) &&& (7 : Int32))), .val (.int (p3 &&& (3 : Int32))), .val (.int (((p3.toUInt32 >>> ((2 : Int32) &&& 31).toUInt32).toInt32) &&& (7 : Int32))), .val (.int (0 : Int32)), .val (.ref b5), .unset, .unset, .unset, .unset, .unset, .unset] [(.int (9 : Int32)), (.int p4), (.int (5 : Int32)), (.ref b5)])) _
    refine XS.iushr X6.here hx rfl (hb hby at_70) rfl ?_
    show Steps p.tables e below (T6.setTop (mkF m 71 #[.val (.int p1), .val (.int p2), .val (.int p3), .val (.int p4), .val (.int ((1 : Int32) + (p1 &&& (3 : Int32)))), .val (.int (p2 &&& (3 : Int32))), .val (.int (((p2.toUInt32 >>> ((2 : Int32) &&& 31).toUInt32).toInt32) &&& (7 : Int32))), .val (.int (p3 &&& (3 : Int32))), .val (.int (((p3.toUInt32 >>> ((2 : Int32) &&& 31).toUInt32).toInt32) &&& (7 : Int32))), .val (.int (0 : Int32)), .val (.ref b5), .unset, .unset, .unset, .unset, .unset, .unset] [(.int ((p4.toUInt32 >>> ((9 : Int32) &&& 31).toUInt32).toInt32)), (.int (5 : Int32)), (.ref b5)])) _
    refine XS.sipush X6.here hx rfl (hb hby at_71) ?_
    show Steps p.tables e below (T6.setTop (mkF m 74 #[.val (.int p1), .val (.int p2), .val (.int p3), .val (.int p4), .val (.int ((1 : Int32) + (p1 &&& (3 : Int32)))), .val (.int (p2 &&& (3 : Int32))), .val (.int (((p2.toUInt32 >>> ((2 : Int32) &&& 31).toUInt32).toInt32) &&& (7 : Int32))), .val (.int (p3 &&& (3 : Int32))), .val (.int (((p3.toUInt32 >>> ((2 : Int32) &&& 31).toUInt32).toInt32) &&& (7 : Int32))), .val (.int (0 : Int32)), .val (.ref b5), .unset, .unset, .unset, .unset, .unset, .unset] [(.int (255 : Int32)), (.int ((p4.toUInt32 >>> ((9 : Int32) &&& 31).toUInt32).toInt32)), (.int (5 : Int32)), (.ref b5)])) _
    refine XS.iand X6.here hx rfl (hb hby at_74) rfl ?_
    show Steps p.tables e below (T6.setTop (mkF m 75 #[.val (.int p1), .val (.int p2), .val (.int p3), .val (.int p4), .val (.int ((1 : Int32) + (p1 &&& (3 : Int32)))), .val (.int (p2 &&& (3 : Int32))), .val (.int (((p2.toUInt32 >>> ((2 : Int32) &&& 31).toUInt32).toInt32) &&& (7 : Int32))), .val (.int (p3 &&& (3 : Int32))), .val (.int (((p3.toUInt32 >>> ((2 : Int32) &&& 31).toUInt32).toInt32) &&& (7 : Int32))), .val (.int (0 : Int32)), .val (.ref b5), .unset, .unset, .unset, .unset, .unset, .unset] [(.int (((p4.toUInt32 >>> ((9 : Int32) &&& 31).toUInt32).toInt32) &&& (255 : Int32))), (.int (5 : Int32)), (.ref b5)])) _
    refine XS.i2c X6.here hx rfl (hb hby at_75) rfl ?_
    show Steps p.tables e below (T6.setTop (mkF m 76 #[.val (.int p1), .val (.int p2), .val (.int p3), .val (.int p4), .val (.int ((1 : Int32) + (p1 &&& (3 : Int32)))), .val (.int (p2 &&& (3 : Int32))), .val (.int (((p2.toUInt32 >>> ((2 : Int32) &&& 31).toUInt32).toInt32) &&& (7 : Int32))), .val (.int (p3 &&& (3 : Int32))), .val (.int (((p3.toUInt32 >>> ((2 : Int32) &&& 31).toUInt32).toInt32) &&& (7 : Int32))), .val (.int (0 : Int32)), .val (.ref b5), .unset, .unset, .unset, .unset, .unset, .unset] [(.int ((((p4.toUInt32 >>> ((9 : Int32) &&& 31).toUInt32).toInt32) &&& (255 : Int32)).toUInt32.toUInt16.toUInt32.toInt32)), (.int (5 : Int32)), (.ref b5)])) _
    refine st7 _ ?_
    show Steps p.tables e below (T7.setTop (mkF m 77 #[.val (.int p1), .val (.int p2), .val (.int p3), .val (.int p4), .val (.int ((1 : Int32) + (p1 &&& (3 : Int32)))), .val (.int (p2 &&& (3 : Int32))), .val (.int (((p2.toUInt32 >>> ((2 : Int32) &&& 31).toUInt32).toInt32) &&& (7 : Int32))), .val (.int (p3 &&& (3 : Int32))), .val (.int (((p3.toUInt32 >>> ((2 : Int32) &&& 31).toUInt32).toInt32) &&& (7 : Int32))), .val (.int (0 : Int32)), .val (.ref b5), .unset, .unset, .unset, .unset, .unset, .unset] [])) _
    refine st8 _ ?_
    show Steps p.tables e below (T8.setTop (mkF m 80 #[.val (.int p1), .val (.int p2), .val (.int p3), .val (.int p4), .val (.int ((1 : Int32) + (p1 &&& (3 : Int32)))), .val (.int (p2 &&& (3 : Int32))), .val (.int (((p2.toUInt32 >>> ((2 : Int32) &&& 31).toUInt32).toInt32) &&& (7 : Int32))), .val (.int (p3 &&& (3 : Int32))), .val (.int (((p3.toUInt32 >>> ((2 : Int32) &&& 31).toUInt32).toInt32) &&& (7 : Int32))), .val (.int (0 : Int32)), .val (.ref b5), .unset, .unset, .unset, .unset, .unset, .unset] [(.ref b8)])) _
    refine XS.dup X8.here hx rfl (hb hby at_80) rfl rfl ?_
    show Steps p.tables e below (T8.setTop (mkF m 81 #[.val (.int p1), .val (.int p2), .val (.int p3), .val (.int p4), .val (.int ((1 : Int32) + (p1 &&& (3 : Int32)))), .val (.int (p2 &&& (3 : Int32))), .val (.int (((p2.toUInt32 >>> ((2 : Int32) &&& 31).toUInt32).toInt32) &&& (7 : Int32))), .val (.int (p3 &&& (3 : Int32))), .val (.int (((p3.toUInt32 >>> ((2 : Int32) &&& 31).toUInt32).toInt32) &&& (7 : Int32))), .val (.int (0 : Int32)), .val (.ref b5), .unset, .unset, .unset, .unset, .unset, .unset] [(.ref b8), (.ref b8)])) _
    refine XS.iload X8.here hx rfl (hb hby at_81) rfl ?_
    show Steps p.tables e below (T8.setTop (mkF m 83 #[.val (.int p1), .val (.int p2), .val (.int p3), .val (.int p4), .val (.int ((1 : Int32) + (p1 &&& (3 : Int32)))), .val (.int (p2 &&& (3 : Int32))), .val (.int (((p2.toUInt32 >>> ((2 : Int32) &&& 31).toUInt32).toInt32) &&& (7 : Int32))), .val (.int (p3 &&& (3 : Int32))), .val (.int (((p3.toUInt32 >>> ((2 : Int32) &&& 31).toUInt32).toInt32) &&& (7 : Int32))), .val (.int (0 : Int32)), .val (.ref b5), .unset, .unset, .unset, .unset, .unset, .unset] [(.int ((1 : Int32) + (p1 &&& (3 : Int32)))), (.ref b8), (.ref b8)])) _
    refine st9.trans ?_
    show Steps p.tables e below (T9.setTop (mkF m 86 #[.val (.int p1), .val (.int p2), .val (.int p3), .val (.int p4), .val (.int ((1 : Int32) + (p1 &&& (3 : Int32)))), .val (.int (p2 &&& (3 : Int32))), .val (.int (((p2.toUInt32 >>> ((2 : Int32) &&& 31).toUInt32).toInt32) &&& (7 : Int32))), .val (.int (p3 &&& (3 : Int32))), .val (.int (((p3.toUInt32 >>> ((2 : Int32) &&& 31).toUInt32).toInt32) &&& (7 : Int32))), .val (.int (0 : Int32)), .val (.ref b5), .unset, .unset, .unset, .unset, .unset, .unset] [(.ref b8)])) _
    refine XS.astore X9.here hx rfl (hb hby at_86) rfl rfl (l' := #[.val (.int p1), .val (.int p2), .val (.int p3), .val (.int p4), .val (.int ((1 : Int32) + (p1 &&& (3 : Int32)))), .val (.int (p2 &&& (3 : Int32))), .val (.int (((p2.toUInt32 >>> ((2 : Int32) &&& 31).toUInt32).toInt32) &&& (7 : Int32))), .val (.int (p3 &&& (3 : Int32))), .val (.int (((p3.toUInt32 >>> ((2 : Int32) &&& 31).toUInt32).toInt32) &&& (7 : Int32))), .val (.int (0 : Int32)), .val (.ref b5), .val (.ref b8), .unset, .unset, .unset, .unset, .unset]) rfl ?_
    show Steps p.tables e below (T9.setTop (mkF m 88 #[.val (.int p1), .val (.int p2), .val (.int p3), .val (.int p4), .val (.int ((1 : Int32) + (p1 &&& (3 : Int32)))), .val (.int (p2 &&& (3 : Int32))), .val (.int (((p2.toUInt32 >>> ((2 : Int32) &&& 31).toUInt32).toInt32) &&& (7 : Int32))), .val (.int (p3 &&& (3 : Int32))), .val (.int (((p3.toUInt32 >>> ((2 : Int32) &&& 31).toUInt32).toInt32) &&& (7 : Int32))), .val (.int (0 : Int32)), .val (.ref b5), .val (.ref b8), .unset, .unset, .unset, .unset, .unset] [])) _
    refine XS.aload X9.here hx rfl (hb hby at_88) rfl rfl ?_
    show Steps p.tables e below (T9.setTop (mkF m 90 #[.val (.int p1), .val (.int p2), .val (.int p3), .val (.int p4), .val (.int ((1 : Int32) + (p1 &&& (3 : Int32)))), .val (.int (p2 &&& (3 : Int32))), .val (.int (((p2.toUInt32 >>> ((2 : Int32) &&& 31).toUInt32).toInt32) &&& (7 : Int32))), .val (.int (p3 &&& (3 : Int32))), .val (.int (((p3.toUInt32 >>> ((2 : Int32) &&& 31).toUInt32).toInt32) &&& (7 : Int32))), .val (.int (0 : Int32)), .val (.ref b5), .val (.ref b8), .unset, .unset, .unset, .unset, .unset] [(.ref b8)])) _
    refine st10.trans ?_
    show Steps p.tables e below (T10.setTop (mkF m 93 #[.val (.int p1), .val (.int p2), .val (.int p3), .val (.int p4), .val (.int ((1 : Int32) + (p1 &&& (3 : Int32)))), .val (.int (p2 &&& (3 : Int32))), .val (.int (((p2.toUInt32 >>> ((2 : Int32) &&& 31).toUInt32).toInt32) &&& (7 : Int32))), .val (.int (p3 &&& (3 : Int32))), .val (.int (((p3.toUInt32 >>> ((2 : Int32) &&& 31).toUInt32).toInt32) &&& (7 : Int32))), .val (.int (0 : Int32)), .val (.ref b5), .val (.ref b8), .unset, .unset, .unset, .unset, .unset] [(.int (own_emp (0 : Int32)))])) _
    refine XS.istore X10.here hx rfl (hb hby at_93) rfl (l' := #[.val (.int p1), .val (.int p2), .val (.int p3), .val (.int p4), .val (.int ((1 : Int32) + (p1 &&& (3 : Int32)))), .val (.int (p2 &&& (3 : Int32))), .val (.int (((p2.toUInt32 >>> ((2 : Int32) &&& 31).toUInt32).toInt32) &&& (7 : Int32))), .val (.int (p3 &&& (3 : Int32))), .val (.int (((p3.toUInt32 >>> ((2 : Int32) &&& 31).toUInt32).toInt32) &&& (7 : Int32))), .val (.int (0 : Int32)), .val (.ref b5), .val (.ref b8), .val (.int (own_emp (0 : Int32))), .unset, .unset, .unset, .unset]) rfl ?_
    show Steps p.tables e below (T10.setTop (mkF m 95 #[.val (.int p1), .val (.int p2), .val (.int p3), .val (.int p4), .val (.int ((1 : Int32) + (p1 &&& (3 : Int32)))), .val (.int (p2 &&& (3 : Int32))), .val (.int (((p2.toUInt32 >>> ((2 : Int32) &&& 31).toUInt32).toInt32) &&& (7 : Int32))), .val (.int (p3 &&& (3 : Int32))), .val (.int (((p3.toUInt32 >>> ((2 : Int32) &&& 31).toUInt32).toInt32) &&& (7 : Int32))), .val (.int (0 : Int32)), .val (.ref b5), .val (.ref b8), .val (.int (own_emp (0 : Int32))), .unset, .unset, .unset, .unset] [])) _
    refine XS.aload X10.here hx rfl (hb hby at_95) rfl rfl ?_
    show Steps p.tables e below (T10.setTop (mkF m 97 #[.val (.int p1), .val (.int p2), .val (.int p3), .val (.int p4), .val (.int ((1 : Int32) + (p1 &&& (3 : Int32)))), .val (.int (p2 &&& (3 : Int32))), .val (.int (((p2.toUInt32 >>> ((2 : Int32) &&& 31).toUInt32).toInt32) &&& (7 : Int32))), .val (.int (p3 &&& (3 : Int32))), .val (.int (((p3.toUInt32 >>> ((2 : Int32) &&& 31).toUInt32).toInt32) &&& (7 : Int32))), .val (.int (0 : Int32)), .val (.ref b5), .val (.ref b8), .val (.int (own_emp (0 : Int32))), .unset, .unset, .unset, .unset] [(.ref b8)])) _
    refine XS.aload X10.here hx rfl (hb hby at_97) rfl rfl ?_
    show Steps p.tables e below (T10.setTop (mkF m 99 #[.val (.int p1), .val (.int p2), .val (.int p3), .val (.int p4), .val (.int ((1 : Int32) + (p1 &&& (3 : Int32)))), .val (.int (p2 &&& (3 : Int32))), .val (.int (((p2.toUInt32 >>> ((2 : Int32) &&& 31).toUInt32).toInt32) &&& (7 : Int32))), .val (.int (p3 &&& (3 : Int32))), .val (.int (((p3.toUInt32 >>> ((2 : Int32) &&& 31).toUInt32).toInt32) &&& (7 : Int32))), .val (.int (0 : Int32)), .val (.ref b5), .val (.ref b8), .val (.int (own_emp (0 : Int32))), .unset, .unset, .unset, .unset] [(.ref b5), (.ref b8)])) _
    refine XS.iload X10.here hx rfl (hb hby at_99) rfl ?_
    show Steps p.tables e below (T10.setTop (mkF m 101 #[.val (.int p1), .val (.int p2), .val (.int p3), .val (.int p4), .val (.int ((1 : Int32) + (p1 &&& (3 : Int32)))), .val (.int (p2 &&& (3 : Int32))), .val (.int (((p2.toUInt32 >>> ((2 : Int32) &&& 31).toUInt32).toInt32) &&& (7 : Int32))), .val (.int (p3 &&& (3 : Int32))), .val (.int (((p3.toUInt32 >>> ((2 : Int32) &&& 31).toUInt32).toInt32) &&& (7 : Int32))), .val (.int (0 : Int32)), .val (.ref b5), .val (.ref b8), .val (.int (own_emp (0 : Int32))), .unset, .unset, .unset, .unset] [(.int (p2 &&& (3 : Int32))), (.ref b5), (.ref b8)])) _
    refine XS.iload X10.here hx rfl (hb hby at_101) rfl ?_
    show Steps p.tables e below (T10.setTop (mkF m 103 #[.val (.int p1), .val (.int p2), .val (.int p3), .val (.int p4), .val (.int ((1 : Int32) + (p1 &&& (3 : Int32)))), .val (.int (p2 &&& (3 : Int32))), .val (.int (((p2.toUInt32 >>> ((2 : Int32) &&& 31).toUInt32).toInt32) &&& (7 : Int32))), .val (.int (p3 &&& (3 : Int32))), .val (.int (((p3.toUInt32 >>> ((2 : Int32) &&& 31).toUInt32).toInt32) &&& (7 : Int32))), .val (.int (0 : Int32)), .val (.ref b5), .val (.ref b8), .val (.int (own_emp (0 : Int32))), .unset, .unset, .unset, .unset] [(.int (((p2.toUInt32 >>> ((2 : Int32) &&& 31).toUInt32).toInt32) &&& (7 : Int32))), (.int (p2 &&& (3 : Int32))), (.ref b5), (.ref b8)])) _
    refine st11.trans ?_
    show Steps p.tables e below (T11.setTop (mkF m 106 #[.val (.int p1), .val (.int p2), .val (.int p3), .val (.int p4), .val (.int ((1 : Int32) + (p1 &&& (3 : Int32)))), .val (.int (p2 &&& (3 : Int32))), .val (.int (((p2.toUInt32 >>> ((2 : Int32) &&& 31).toUInt32).toInt32) &&& (7 : Int32))), .val (.int (p3 &&& (3 : Int32))), .val (.int (((p3.toUInt32 >>> ((2 : Int32) &&& 31).toUInt32).toInt32) &&& (7 : Int32))), .val (.int (0 : Int32)), .val (.ref b5), .val (.ref b8), .val (.int (own_emp (0 : Int32))), .unset, .unset, .unset, .unset] [])) _
    refine XS.aload X11.here hx rfl (hb hby at_106) rfl rfl ?_
    show Steps p.tables e below (T11.setTop (mkF m 108 #[.val (.int p1), .val (.int p2), .val (.int p3), .val (.int p4), .val (.int ((1 : Int32) + (p1 &&& (3 : Int32)))), .val (.int (p2 &&& (3 : Int32))), .val (.int (((p2.toUInt32 >>> ((2 : Int32) &&& 31).toUInt32).toInt32) &&& (7 : Int32))), .val (.int (p3 &&& (3 : Int32))), .val (.int (((p3.toUInt32 >>> ((2 : Int32) &&& 31).toUInt32).toInt32) &&& (7 : Int32))), .val (.int (0 : Int32)), .val (.ref b5), .val (.ref b8), .val (.int (own_emp (0 : Int32))), .unset, .unset, .unset, .unset] [(.ref b8)])) _
    refine st12.trans ?_
    show Steps p.tables e below (T12.setTop (mkF m 111 #[.val (.int p1), .val (.int p2), .val (.int p3), .val (.int p4), .val (.int ((1 : Int32) + (p1 &&& (3 : Int32)))), .val (.int (p2 &&& (3 : Int32))), .val (.int (((p2.toUInt32 >>> ((2 : Int32) &&& 31).toUInt32).toInt32) &&& (7 : Int32))), .val (.int (p3 &&& (3 : Int32))), .val (.int (((p3.toUInt32 >>> ((2 : Int32) &&& 31).toUInt32).toInt32) &&& (7 : Int32))), .val (.int (0 : Int32)), .val (.ref b5), .val (.ref b8), .val (.int (own_emp (0 : Int32))), .unset, .unset, .unset, .unset] [(.int (own_emp ((0 : Int32) + (own_min ((p2.toUInt32 >>> ((2 : Int32) &&& 31).toUInt32).toInt32 &&& (7 : Int32)) (((1 : Int32) + (p1 &&& (3 : Int32))) - (0 : Int32))))))])) _
    refine XS.istore X12.here hx rfl (hb hby at_111) rfl (l' := #[.val (.int p1), .val (.int p2), .val (.int p3), .val (.int p4), .val (.int ((1 : Int32) + (p1 &&& (3 : Int32)))), .val (.int (p2 &&& (3 : Int32))), .val (.int (((p2.toUInt32 >>> ((2 : Int32) &&& 31).toUInt32).toInt32) &&& (7 : Int32))), .val (.int (p3 &&& (3 : Int32))), .val (.int (((p3.toUInt32 >>> ((2 : Int32) &&& 31).toUInt32).toInt32) &&& (7 : Int32))), .val (.int (0 : Int32)), .val (.ref b5), .val (.ref b8), .val (.int (own_emp (0 : Int32))), .val (.int (own_emp ((0 : Int32) + (own_min ((p2.toUInt32 >>> ((2 : Int32) &&& 31).toUInt32).toInt32 &&& (7 : Int32)) (((1 : Int32) + (p1 &&& (3 : Int32))) - (0 : Int32)))))), .unset, .unset, .unset]) rfl ?_
    show Steps p.tables e below (T12.setTop (mkF m 113 #[.val (.int p1), .val (.int p2), .val (.int p3), .val (.int p4), .val (.int ((1 : Int32) + (p1 &&& (3 : Int32)))), .val (.int (p2 &&& (3 : Int32))), .val (.int (((p2.toUInt32 >>> ((2 : Int32) &&& 31).toUInt32).toInt32) &&& (7 : Int32))), .val (.int (p3 &&& (3 : Int32))), .val (.int (((p3.toUInt32 >>> ((2 : Int32) &&& 31).toUInt32).toInt32) &&& (7 : Int32))), .val (.int (0 : Int32)), .val (.ref b5), .val (.ref b8), .val (.int (own_emp (0 : Int32))), .val (.int (own_emp ((0 : Int32) + (own_min ((p2.toUInt32 >>> ((2 : Int32) &&& 31).toUInt32).toInt32 &&& (7 : Int32)) (((1 : Int32) + (p1 &&& (3 : Int32))) - (0 : Int32)))))), .unset, .unset, .unset] [])) _
    refine XS.iload X12.here hx rfl (hb hby at_113) rfl ?_
    show Steps p.tables e below (T12.setTop (mkF m 115 #[.val (.int p1), .val (.int p2), .val (.int p3), .val (.int p4), .val (.int ((1 : Int32) + (p1 &&& (3 : Int32)))), .val (.int (p2 &&& (3 : Int32))), .val (.int (((p2.toUInt32 >>> ((2 : Int32) &&& 31).toUInt32).toInt32) &&& (7 : Int32))), .val (.int (p3 &&& (3 : Int32))), .val (.int (((p3.toUInt32 >>> ((2 : Int32) &&& 31).toUInt32).toInt32) &&& (7 : Int32))), .val (.int (0 : Int32)), .val (.ref b5), .val (.ref b8), .val (.int (own_emp (0 : Int32))), .val (.int (own_emp ((0 : Int32) + (own_min ((p2.toUInt32 >>> ((2 : Int32) &&& 31).toUInt32).toInt32 &&& (7 : Int32)) (((1 : Int32) + (p1 &&& (3 : Int32))) - (0 : Int32)))))), .unset, .unset, .unset] [(.int (0 : Int32))])) _
    refine XS.ifYes X12.here hx rfl (pc0 := 115) (pc' := 123) rfl (hb hby at_115) rfl ((if0 _ _).trans (teq (rfl : (0 : Int32) = (0 : Int32))).1) (by decide) (by decide) ?_
    show Steps p.tables e below (T12.setTop (mkF m 123 #[.val (.int p1), .val (.int p2), .val (.int p3), .val (.int p4), .val (.int ((1 : Int32) + (p1 &&& (3 : Int32)))), .val (.int (p2 &&& (3 : Int32))), .val (.int (((p2.toUInt32 >>> ((2 : Int32) &&& 31).toUInt32).toInt32) &&& (7 : Int32))), .val (.int (p3 &&& (3 : Int32))), .val (.int (((p3.toUInt32 >>> ((2 : Int32) &&& 31).toUInt32).toInt32) &&& (7 : Int32))), .val (.int (0 : Int32)), .val (.ref b5), .val (.ref b8), .val (.int (own_emp (0 : Int32))), .val (.int (own_emp ((0 : Int32) + (own_min ((p2.toUInt32 >>> ((2 : Int32) &&& 31).toUInt32).toInt32 &&& (7 : Int32)) (((1 : Int32) + (p1 &&& (3 : Int32))) - (0 : Int32)))))), .unset, .unset, .unset] [])) _
    refine XS.aload X12.here hx rfl (hb hby at_123) rfl rfl ?_
    show Steps p.tables e below (T12.setTop (mkF m 125 #[.val (.int p1), .val (.int p2), .val (.int p3), .val (.int p4), .val (.int ((1 : Int32) + (p1 &&& (3 : Int32)))), .val (.int (p2 &&& (3 : Int32))), .val (.int (((p2.toUInt32 >>> ((2 : Int32) &&& 31).toUInt32).toInt32) &&& (7 : Int32))), .val (.int (p3 &&& (3 : Int32))), .val (.int (((p3.toUInt32 >>> ((2 : Int32) &&& 31).toUInt32).toInt32) &&& (7 : Int32))), .val (.int (0 : Int32)), .val (.ref b5), .val (.ref b8), .val (.int (own_emp (0 : Int32))), .val (.int (own_emp ((0 : Int32) + (own_min ((p2.toUInt32 >>> ((2 : Int32) &&& 31).toUInt32).toInt32 &&& (7 : Int32)) (((1 : Int32) + (p1 &&& (3 : Int32))) - (0 : Int32)))))), .unset, .unset, .unset] [(.ref b8)])) _
    refine XS.aload X12.here hx rfl (hb hby at_125) rfl rfl ?_
    show Steps p.tables e below (T12.setTop (mkF m 127 #[.val (.int p1), .val (.int p2), .val (.int p3), .val (.int p4), .val (.int ((1 : Int32) + (p1 &&& (3 : Int32)))), .val (.int (p2 &&& (3 : Int32))), .val (.int (((p2.toUInt32 >>> ((2 : Int32) &&& 31).toUInt32).toInt32) &&& (7 : Int32))), .val (.int (p3 &&& (3 : Int32))), .val (.int (((p3.toUInt32 >>> ((2 : Int32) &&& 31).toUInt32).toInt32) &&& (7 : Int32))), .val (.int (0 : Int32)), .val (.ref b5), .val (.ref b8), .val (.int (own_emp (0 : Int32))), .val (.int (own_emp ((0 : Int32) + (own_min ((p2.toUInt32 >>> ((2 : Int32) &&& 31).toUInt32).toInt32 &&& (7 : Int32)) (((1 : Int32) + (p1 &&& (3 : Int32))) - (0 : Int32)))))), .unset, .unset, .unset] [(.ref b5), (.ref b8)])) _
    refine XS.iload X12.here hx rfl (hb hby at_127) rfl ?_
    show Steps p.tables e below (T12.setTop (mkF m 129 #[.val (.int p1), .val (.int p2), .val (.int p3), .val (.int p4), .val (.int ((1 : Int32) + (p1 &&& (3 : Int32)))), .val (.int (p2 &&& (3 : Int32))), .val (.int (((p2.toUInt32 >>> ((2 : Int32) &&& 31).toUInt32).toInt32) &&& (7 : Int32))), .val (.int (p3 &&& (3 : Int32))), .val (.int (((p3.toUInt32 >>> ((2 : Int32) &&& 31).toUInt32).toInt32) &&& (7 : Int32))), .val (.int (0 : Int32)), .val (.ref b5), .val (.ref b8), .val (.int (own_emp (0 : Int32))), .val (.int (own_emp ((0 : Int32) + (own_min ((p2.toUInt32 >>> ((2 : Int32) &&& 31).toUInt32).toInt32 &&& (7 : Int32)) (((1 : Int32) + (p1 &&& (3 : Int32))) - (0 : Int32)))))), .unset, .unset, .unset] [(.int (p3 &&& (3 : Int32))), (.ref b5), (.ref b8)])) _
    refine XS.iload X12.here hx rfl (hb hby at_129) rfl ?_
    show Steps p.tables e below (T12.setTop (mkF m 131 #[.val (.int p1), .val (.int p2), .val (.int p3), .val (.int p4), .val (.int ((1 : Int32) + (p1 &&& (3 : Int32)))), .val (.int (p2 &&& (3 : Int32))), .val (.int (((p2.toUInt32 >>> ((2 : Int32) &&& 31).toUInt32).toInt32) &&& (7 : Int32))), .val (.int (p3 &&& (3 : Int32))), .val (.int (((p3.toUInt32 >>> ((2 : Int32) &&& 31).toUInt32).toInt32) &&& (7 : Int32))), .val (.int (0 : Int32)), .val (.ref b5), .val (.ref b8), .val (.int (own_emp (0 : Int32))), .val (.int (own_emp ((0 : Int32) + (own_min ((p2.toUInt32 >>> ((2 : Int32) &&& 31).toUInt32).toInt32 &&& (7 : Int32)) (((1 : Int32) + (p1 &&& (3 : Int32))) - (0 : Int32)))))), .unset, .unset, .unset] [(.int (((p3.toUInt32 >>> ((2 : Int32) &&& 31).toUInt32).toInt32) &&& (7 : Int32))), (.int (p3 &&& (3 : Int32))), (.ref b5), (.ref b8)])) _
    refine st13.trans ?_
    show Steps p.tables e below (T13.setTop (mkF m 134 #[.val (.int p1), .val (.int p2), .val (.int p3), .val (.int p4), .val (.int ((1 : Int32) + (p1 &&& (3 : Int32)))), .val (.int (p2 &&& (3 : Int32))), .val (.int (((p2.toUInt32 >>> ((2 : Int32) &&& 31).toUInt32).toInt32) &&& (7 : Int32))), .val (.int (p3 &&& (3 : Int32))), .val (.int (((p3.toUInt32 >>> ((2 : Int32) &&& 31).toUInt32).toInt32) &&& (7 : Int32))), .val (.int (0 : Int32)), .val (.ref b5), .val (.ref b8), .val (.int (own_emp (0 : Int32))), .val (.int (own_emp ((0 : Int32) + (own_min ((p2.toUInt32 >>> ((2 : Int32) &&& 31).toUInt32).toInt32 &&& (7 : Int32)) (((1 : Int32) + (p1 &&& (3 : Int32))) - (0 : Int32)))))), .unset, .unset, .unset] [])) _
    refine XS.aload X13.here hx rfl (hb hby at_134) rfl rfl ?_
    show Steps p.tables e below (T13.setTop (mkF m 136 #[.val (.int p1), .val (.int p2), .val (.int p3), .val (.int p4), .val (.int ((1 : Int32) + (p1 &&& (3 : Int32)))), .val (.int (p2 &&& (3 : Int32))), .val (.int (((p2.toUInt32 >>> ((2 : Int32) &&& 31).toUInt32).toInt32) &&& (7 : Int32))), .val (.int (p3 &&& (3 : Int32))), .val (.int (((p3.toUInt32 >>> ((2 : Int32) &&& 31).toUInt32).toInt32) &&& (7 : Int32))), .val (.int (0 : Int32)), .val (.ref b5), .val (.ref b8), .val (.int (own_emp (0 : Int32))), .val (.int (own_emp ((0 : Int32) + (own_min ((p2.toUInt32 >>> ((2 : Int32) &&& 31).toUInt32).toInt32 &&& (7 : Int32)) (((1 : Int32) + (p1 &&& (3 : Int32))) - (0 : Int32)))))), .unset, .unset, .unset] [(.ref b8)])) _
    refine st14.trans ?_
    show Steps p.tables e below (T14.setTop (mkF m 139 #[.val (.int p1), .val (.int p2), .val (.int p3), .val (.int p4), .val (.int ((1 : Int32) + (p1 &&& (3 : Int32)))), .val (.int (p2 &&& (3 : Int32))), .val (.int (((p2.toUInt32 >>> ((2 : Int32) &&& 31).toUInt32).toInt32) &&& (7 : Int32))), .val (.int (p3 &&& (3 : Int32))), .val (.int (((p3.toUInt32 >>> ((2 : Int32) &&& 31).toUInt32).toInt32) &&& (7 : Int32))), .val (.int (0 : Int32)), .val (.ref b5), .val (.ref b8), .val (.int (own_emp (0 : Int32))), .val (.int (own_emp ((0 : Int32) + (own_min ((p2.toUInt32 >>> ((2 : Int32) &&& 31).toUInt32).toInt32 &&& (7 : Int32)) (((1 : Int32) + (p1 &&& (3 : Int32))) - (0 : Int32)))))), .unset, .unset, .unset] [(.int (own_emp (((0 : Int32) + (own_min ((p2.toUInt32 >>> ((2 : Int32) &&& 31).toUInt32).toInt32 &&& (7 : Int32)) (((1 : Int32) + (p1 &&& (3 : Int32))) - (0 : Int32)))) + (own_min ((p3.toUInt32 >>> ((2 : Int32) &&& 31).toUInt32).toInt32 &&& (7 : Int32)) (((1 : Int32) + (p1 &&& (3 : Int32))) - ((0 : Int32) + (own_min ((p2.toUInt32 >>> ((2 : Int32) &&& 31).toUInt32).toInt32 &&& (7 : Int32)) (((1 : Int32) + (p1 &&& (3 : Int32))) - (0 : Int32)))))))))])) _
    refine XS.istore X14.here hx rfl (hb hby at_139) rfl (l' := #[.val (.int p1), .val (.int p2), .val (.int p3), .val (.int p4), .val (.int ((1 : Int32) + (p1 &&& (3 : Int32)))), .val (.int (p2 &&& (3 : Int32))), .val (.int (((p2.toUInt32 >>> ((2 : Int32) &&& 31).toUInt32).toInt32) &&& (7 : Int32))), .val (.int (p3 &&& (3 : Int32))), .val (.int (((p3.toUInt32 >>> ((2 : Int32) &&& 31).toUInt32).toInt32) &&& (7 : Int32))), .val (.int (0 : Int32)), .val (.ref b5), .val (.ref b8), .val (.int (own_emp (0 : Int32))), .val (.int (own_emp ((0 : Int32) + (own_min ((p2.toUInt32 >>> ((2 : Int32) &&& 31).toUInt32).toInt32 &&& (7 : Int32)) (((1 : Int32) + (p1 &&& (3 : Int32))) - (0 : Int32)))))), .val (.int (own_emp (((0 : Int32) + (own_min ((p2.toUInt32 >>> ((2 : Int32) &&& 31).toUInt32).toInt32 &&& (7 : Int32)) (((1 : Int32) + (p1 &&& (3 : Int32))) - (0 : Int32)))) + (own_min ((p3.toUInt32 >>> ((2 : Int32) &&& 31).toUInt32).toInt32 &&& (7 : Int32)) (((1 : Int32) + (p1 &&& (3 : Int32))) - ((0 : Int32) + (own_min ((p2.toUInt32 >>> ((2 : Int32) &&& 31).toUInt32).toInt32 &&& (7 : Int32)) (((1 : Int32) + (p1 &&& (3 : Int32))) - (0 : Int32))))))))), .unset, .unset]) rfl ?_
    show Steps p.tables e below (T14.setTop (mkF m 141 #[.val (.int p1), .val (.int p2), .val (.int p3), .val (.int p4), .val (.int ((1 : Int32) + (p1 &&& (3 : Int32)))), .val (.int (p2 &&& (3 : Int32))), .val (.int (((p2.toUInt32 >>> ((2 : Int32) &&& 31).toUInt32).toInt32) &&& (7 : Int32))), .val (.int (p3 &&& (3 : Int32))), .val (.int (((p3.toUInt32 >>> ((2 : Int32) &&& 31).toUInt32).toInt32) &&& (7 : Int32))), .val (.int (0 : Int32)), .val (.ref b5), .val (.ref b8), .val (.int (own_emp (0 : Int32))), .val (.int (own_emp ((0 : Int32) + (own_min ((p2.toUInt32 >>> ((2 : Int32) &&& 31).toUInt32).toInt32 &&& (7 : Int32)) (((1 : Int32) + (p1 &&& (3 : Int32))) - (0 : Int32)))))), .val (.int (own_emp (((0 : Int32) + (own_min ((p2.toUInt32 >>> ((2 : Int32) &&& 31).toUInt32).toInt32 &&& (7 : Int32)) (((1 : Int32) + (p1 &&& (3 : Int32))) - (0 : Int32)))) + (own_min ((p3.toUInt32 >>> ((2 : Int32) &&& 31).toUInt32).toInt32 &&& (7 : Int32)) (((1 : Int32) + (p1 &&& (3 : Int32))) - ((0 : Int32) + (own_min ((p2.toUInt32 >>> ((2 : Int32) &&& 31).toUInt32).toInt32 &&& (7 : Int32)) (((1 : Int32) + (p1 &&& (3 : Int32))) - (0 : Int32))))))))), .unset, .unset] [])) _
    refine own_s1 X14 hx hZ hw hby hml hown _ ?_
    show Steps p.tables e below (T14.setTop (mkF m 151 #[.val (.int p1), .val (.int p2), .val (.int p3), .val (.int p4), .val (.int ((1 : Int32) + (p1 &&& (3 : Int32)))), .val (.int (p2 &&& (3 : Int32))), .val (.int (((p2.toUInt32 >>> ((2 : Int32) &&& 31).toUInt32).toInt32) &&& (7 : Int32))), .val (.int (p3 &&& (3 : Int32))), .val (.int (((p3.toUInt32 >>> ((2 : Int32) &&& 31).toUInt32).toInt32) &&& (7 : Int32))), .val (.int (0 : Int32)), .val (.ref b5), .val (.ref b8), .val (.int (own_emp (0 : Int32))), .val (.int (own_emp ((0 : Int32) + (own_min ((p2.toUInt32 >>> ((2 : Int32) &&& 31).toUInt32).toInt32 &&& (7 : Int32)) (((1 : Int32) + (p1 &&& (3 : Int32))) - (0 : Int32)))))), .val (.int (own_emp (((0 : Int32) + (own_min ((p2.toUInt32 >>> ((2 : Int32) &&& 31).toUInt32).toInt32 &&& (7 : Int32)) (((1 : Int32) + (p1 &&& (3 : Int32))) - (0 : Int32)))) + (own_min ((p3.toUInt32 >>> ((2 : Int32) &&& 31).toUInt32).toInt32 &&& (7 : Int32)) (((1 : Int32) + (p1 &&& (3 : Int32))) - ((0 : Int32) + (own_min ((p2.toUInt32 >>> ((2 : Int32) &&& 31).toUInt32).toInt32 &&& (7 : Int32)) (((1 : Int32) + (p1 &&& (3 : Int32))) - (0 : Int32))))))))), .unset, .unset] [(.int (own_x1 ((p2.toUInt32 >>> ((2 : Int32) &&& 31).toUInt32).toInt32 &&& (7 : Int32))))])) _
    refine XS.istore X14.here hx rfl (hb hby at_151) rfl (l' := #[.val (.int p1), .val (.int p2), .val (.int p3), .val (.int p4), .val (.int ((1 : Int32) + (p1 &&& (3 : Int32)))), .val (.int (p2 &&& (3 : Int32))), .val (.int (((p2.toUInt32 >>> ((2 : Int32) &&& 31).toUInt32).toInt32) &&& (7 : Int32))), .val (.int (p3 &&& (3 : Int32))), .val (.int (((p3.toUInt32 >>> ((2 : Int32) &&& 31).toUInt32).toInt32) &&& (7 : Int32))), .val (.int (0 : Int32)), .val (.ref b5), .val (.ref b8), .val (.int (own_emp (0 : Int32))), .val (.int (own_emp ((0 : Int32) + (own_min ((p2.toUInt32 >>> ((2 : Int32) &&& 31).toUInt32).toInt32 &&& (7 : Int32)) (((1 : Int32) + (p1 &&& (3 : Int32))) - (0 : Int32)))))), .val (.int (own_emp (((0 : Int32) + (own_min ((p2.toUInt32 >>> ((2 : Int32) &&& 31).toUInt32).toInt32 &&& (7 : Int32)) (((1 : Int32) + (p1 &&& (3 : Int32))) - (0 : Int32)))) + (own_min ((p3.toUInt32 >>> ((2 : Int32) &&& 31).toUInt32).toInt32 &&& (7 : Int32)) (((1 : Int32) + (p1 &&& (3 : Int32))) - ((0 : Int32) + (own_min ((p2.toUInt32 >>> ((2 : Int32) &&& 31).toUInt32).toInt32 &&& (7 : Int32)) (((1 : Int32) + (p1 &&& (3 : Int32))) - (0 : Int32))))))))), .val (.int (own_x1 ((p2.toUInt32 >>> ((2 : Int32) &&& 31).toUInt32).toInt32 &&& (7 : Int32)))), .unset]) rfl ?_
    show Steps p.tables e below (T14.setTop (mkF m 153 #[.val (.int p1), .val (.int p2), .val (.int p3), .val (.int p4), .val (.int ((1 : Int32) + (p1 &&& (3 : Int32)))), .val (.int (p2 &&& (3 : Int32))), .val (.int (((p2.toUInt32 >>> ((2 : Int32) &&& 31).toUInt32).toInt32) &&& (7 : Int32))), .val (.int (p3 &&& (3 : Int32))), .val (.int (((p3.toUInt32 >>> ((2 : Int32) &&& 31).toUInt32).toInt32) &&& (7 : Int32))), .val (.int (0 : Int32)), .val (.ref b5), .val (.ref b8), .val (.int (own_emp (0 : Int32))), .val (.int (own_emp ((0 : Int32) + (own_min ((p2.toUInt32 >>> ((2 : Int32) &&& 31).toUInt32).toInt32 &&& (7 : Int32)) (((1 : Int32) + (p1 &&& (3 : Int32))) - (0 : Int32)))))), .val (.int (own_emp (((0 : Int32) + (own_min ((p2.toUInt32 >>> ((2 : Int32) &&& 31).toUInt32).toInt32 &&& (7 : Int32)) (((1 : Int32) + (p1 &&& (3 : Int32))) - (0 : Int32)))) + (own_min ((p3.toUInt32 >>> ((2 : Int32) &&& 31).toUInt32).toInt32 &&& (7 : Int32)) (((1 : Int32) + (p1 &&& (3 : Int32))) - ((0 : Int32) + (own_min ((p2.toUInt32 >>> ((2 : Int32) &&& 31).toUInt32).toInt32 &&& (7 : Int32)) (((1 : Int32) + (p1 &&& (3 : Int32))) - (0 : Int32))))))))), .val (.int (own_x1 ((p2.toUInt32 >>> ((2 : Int32) &&& 31).toUInt32).toInt32 &&& (7 : Int32)))), .unset] [])) _
    refine XS.iload X14.here hx rfl (hb hby at_153) rfl ?_
    show Steps p.tables e below (T14.setTop (mkF m 155 #[.val (.int p1), .val (.int p2), .val (.int p3), .val (.int p4), .val (.int ((1 : Int32) + (p1 &&& (3 : Int32)))), .val (.int (p2 &&& (3 : Int32))), .val (.int (((p2.toUInt32 >>> ((2 : Int32) &&& 31).toUInt32).toInt32) &&& (7 : Int32))), .val (.int (p3 &&& (3 : Int32))), .val (.int (((p3.toUInt32 >>> ((2 : Int32) &&& 31).toUInt32).toInt32) &&& (7 : Int32))), .val (.int (0 : Int32)), .val (.ref b5), .val (.ref b8), .val (.int (own_emp (0 : Int32))), .val (.int (own_emp ((0 : Int32) + (own_min ((p2.toUInt32 >>> ((2 : Int32) &&& 31).toUInt32).toInt32 &&& (7 : Int32)) (((1 : Int32) + (p1 &&& (3 : Int32))) - (0 : Int32)))))), .val (.int (own_emp (((0 : Int32) + (own_min ((p2.toUInt32 >>> ((2 : Int32) &&& 31).toUInt32).toInt32 &&& (7 : Int32)) (((1 : Int32) + (p1 &&& (3 : Int32))) - (0 : Int32)))) + (own_min ((p3.toUInt32 >>> ((2 : Int32) &&& 31).toUInt32).toInt32 &&& (7 : Int32)) (((1 : Int32) + (p1 &&& (3 : Int32))) - ((0 : Int32) + (own_min ((p2.toUInt32 >>> ((2 : Int32) &&& 31).toUInt32).toInt32 &&& (7 : Int32)) (((1 : Int32) + (p1 &&& (3 : Int32))) - (0 : Int32))))))))), .val (.int (own_x1 ((p2.toUInt32 >>> ((2 : Int32) &&& 31).toUInt32).toInt32 &&& (7 : Int32)))), .unset] [(.int (0 : Int32))])) _
    refine XS.ifYes X14.here hx rfl (pc0 := 155) (pc' := 173) rfl (hb hby at_155) rfl ((if0 _ _).trans (teq (rfl : (0 : Int32) = (0 : Int32))).1) (by decide) (by decide) ?_
    show Steps p.tables e below (T14.setTop (mkF m 173 #[.val (.int p1), .val (.int p2), .val (.int p3), .val (.int p4), .val (.int ((1 : Int32) + (p1 &&& (3 : Int32)))), .val (.int (p2 &&& (3 : Int32))), .val (.int (((p2.toUInt32 >>> ((2 : Int32) &&& 31).toUInt32).toInt32) &&& (7 : Int32))), .val (.int (p3 &&& (3 : Int32))), .val (.int (((p3.toUInt32 >>> ((2 : Int32) &&& 31).toUInt32).toInt32) &&& (7 : Int32))), .val (.int (0 : Int32)), .val (.ref b5), .val (.ref b8), .val (.int (own_emp (0 : Int32))), .val (.int (own_emp ((0 : Int32) + (own_min ((p2.toUInt32 >>> ((2 : Int32) &&& 31).toUInt32).toInt32 &&& (7 : Int32)) (((1 : Int32) + (p1 &&& (3 : Int32))) - (0 : Int32)))))), .val (.int (own_emp (((0 : Int32) + (own_min ((p2.toUInt32 >>> ((2 : Int32) &&& 31).toUInt32).toInt32 &&& (7 : Int32)) (((1 : Int32) + (p1 &&& (3 : Int32))) - (0 : Int32)))) + (own_min ((p3.toUInt32 >>> ((2 : Int32) &&& 31).toUInt32).toInt32 &&& (7 : Int32)) (((1 : Int32) + (p1 &&& (3 : Int32))) - ((0 : Int32) + (own_min ((p2.toUInt32 >>> ((2 : Int32) &&& 31).toUInt32).toInt32 &&& (7 : Int32)) (((1 : Int32) + (p1 &&& (3 : Int32))) - (0 : Int32))))))))), .val (.int (own_x1 ((p2.toUInt32 >>> ((2 : Int32) &&& 31).toUInt32).toInt32 &&& (7 : Int32)))), .unset] [])) _
    refine own_s3 X14 hx hZ hw hby hml hown _ ?_
    show Steps p.tables e below (T14.setTop (mkF m 188 #[.val (.int p1), .val (.int p2), .val (.int p3), .val (.int p4), .val (.int ((1 : Int32) + (p1 &&& (3 : Int32)))), .val (.int (p2 &&& (3 : Int32))), .val (.int (((p2.toUInt32 >>> ((2 : Int32) &&& 31).toUInt32).toInt32) &&& (7 : Int32))), .val (.int (p3 &&& (3 : Int32))), .val (.int (((p3.toUInt32 >>> ((2 : Int32) &&& 31).toUInt32).toInt32) &&& (7 : Int32))), .val (.int (0 : Int32)), .val (.ref b5), .val (.ref b8), .val (.int (own_emp (0 : Int32))), .val (.int (own_emp ((0 : Int32) + (own_min ((p2.toUInt32 >>> ((2 : Int32) &&& 31).toUInt32).toInt32 &&& (7 : Int32)) (((1 : Int32) + (p1 &&& (3 : Int32))) - (0 : Int32)))))), .val (.int (own_emp (((0 : Int32) + (own_min ((p2.toUInt32 >>> ((2 : Int32) &&& 31).toUInt32).toInt32 &&& (7 : Int32)) (((1 : Int32) + (p1 &&& (3 : Int32))) - (0 : Int32)))) + (own_min ((p3.toUInt32 >>> ((2 : Int32) &&& 31).toUInt32).toInt32 &&& (7 : Int32)) (((1 : Int32) + (p1 &&& (3 : Int32))) - ((0 : Int32) + (own_min ((p2.toUInt32 >>> ((2 : Int32) &&& 31).toUInt32).toInt32 &&& (7 : Int32)) (((1 : Int32) + (p1 &&& (3 : Int32))) - (0 : Int32))))))))), .val (.int (own_x1 ((p2.toUInt32 >>> ((2 : Int32) &&& 31).toUInt32).toInt32 &&& (7 : Int32)))), .unset] [(.int (own_x3 ((p2.toUInt32 >>> ((2 : Int32) &&& 31).toUInt32).toInt32 &&& (7 : Int32)) ((p3.toUInt32 >>> ((2 : Int32) &&& 31).toUInt32).toInt32 &&& (7 : Int32))))])) _
    refine XS.istore X14.here hx rfl (hb hby at_188) rfl (l' := #[.val (.int p1), .val (.int p2), .val (.int p3), .val (.int p4), .val (.int ((1 : Int32) + (p1 &&& (3 : Int32)))), .val (.int (p2 &&& (3 : Int32))), .val (.int (((p2.toUInt32 >>> ((2 : Int32) &&& 31).toUInt32).toInt32) &&& (7 : Int32))), .val (.int (p3 &&& (3 : Int32))), .val (.int (((p3.toUInt32 >>> ((2 : Int32) &&& 31).toUInt32).toInt32) &&& (7 : Int32))), .val (.int (0 : Int32)), .val (.ref b5), .val (.ref b8), .val (.int (own_emp (0 : Int32))), .val (.int (own_emp ((0 : Int32) + (own_min ((p2.toUInt32 >>> ((2 : Int32) &&& 31).toUInt32).toInt32 &&& (7 : Int32)) (((1 : Int32) + (p1 &&& (3 : Int32))) - (0 : Int32)))))), .val (.int (own_emp (((0 : Int32) + (own_min ((p2.toUInt32 >>> ((2 : Int32) &&& 31).toUInt32).toInt32 &&& (7 : Int32)) (((1 : Int32) + (p1 &&& (3 : Int32))) - (0 : Int32)))) + (own_min ((p3.toUInt32 >>> ((2 : Int32) &&& 31).toUInt32).toInt32 &&& (7 : Int32)) (((1 : Int32) + (p1 &&& (3 : Int32))) - ((0 : Int32) + (own_min ((p2.toUInt32 >>> ((2 : Int32) &&& 31).toUInt32).toInt32 &&& (7 : Int32)) (((1 : Int32) + (p1 &&& (3 : Int32))) - (0 : Int32))))))))), .val (.int (own_x1 ((p2.toUInt32 >>> ((2 : Int32) &&& 31).toUInt32).toInt32 &&& (7 : Int32)))), .val (.int (own_x3 ((p2.toUInt32 >>> ((2 : Int32) &&& 31).toUInt32).toInt32 &&& (7 : Int32)) ((p3.toUInt32 >>> ((2 : Int32) &&& 31).toUInt32).toInt32 &&& (7 : Int32))))]) rfl ?_
    show Steps p.tables e below (T14.setTop (mkF m 190 #[.val (.int p1), .val (.int p2), .val (.int p3), .val (.int p4), .val (.int ((1 : Int32) + (p1 &&& (3 : Int32)))), .val (.int (p2 &&& (3 : Int32))), .val (.int (((p2.toUInt32 >>> ((2 : Int32) &&& 31).toUInt32).toInt32) &&& (7 : Int32))), .val (.int (p3 &&& (3 : Int32))), .val (.int (((p3.toUInt32 >>> ((2 : Int32) &&& 31).toUInt32).toInt32) &&& (7 : Int32))), .val (.int (0 : Int32)), .val (.ref b5), .val (.ref b8), .val (.int (own_emp (0 : Int32))), .val (.int (own_emp ((0 : Int32) + (own_min ((p2.toUInt32 >>> ((2 : Int32) &&& 31).toUInt32).toInt32 &&& (7 : Int32)) (((1 : Int32) + (p1 &&& (3 : Int32))) - (0 : Int32)))))), .val (.int (own_emp (((0 : Int32) + (own_min ((p2.toUInt32 >>> ((2 : Int32) &&& 31).toUInt32).toInt32 &&& (7 : Int32)) (((1 : Int32) + (p1 &&& (3 : Int32))) - (0 : Int32)))) + (own_min ((p3.toUInt32 >>> ((2 : Int32) &&& 31).toUInt32).toInt32 &&& (7 : Int32)) (((1 : Int32) + (p1 &&& (3 : Int32))) - ((0 : Int32) + (own_min ((p2.toUInt32 >>> ((2 : Int32) &&& 31).toUInt32).toInt32 &&& (7 : Int32)) (((1 : Int32) + (p1 &&& (3 : Int32))) - (0 : Int32))))))))), .val (.int (own_x1 ((p2.toUInt32 >>> ((2 : Int32) &&& 31).toUInt32).toInt32 &&& (7 : Int32)))), .val (.int (own_x3 ((p2.toUInt32 >>> ((2 : Int32) &&& 31).toUInt32).toInt32 &&& (7 : Int32)) ((p3.toUInt32 >>> ((2 : Int32) &&& 31).toUInt32).toInt32 &&& (7 : Int32))))] [])) _
    refine XS.iload X14.here hx rfl (hb hby at_190) rfl ?_
    show Steps p.tables e below (T14.setTop (mkF m 192 #[.val (.int p1), .val (.int p2), .val (.int p3), .val (.int p4), .val (.int ((1 : Int32) + (p1 &&& (3 : Int32)))), .val (.int (p2 &&& (3 : Int32))), .val (.int (((p2.toUInt32 >>> ((2 : Int32) &&& 31).toUInt32).toInt32) &&& (7 : Int32))), .val (.int (p3 &&& (3 : Int32))), .val (.int (((p3.toUInt32 >>> ((2 : Int32) &&& 31).toUInt32).toInt32) &&& (7 : Int32))), .val (.int (0 : Int32)), .val (.ref b5), .val (.ref b8), .val (.int (own_emp (0 : Int32))), .val (.int (own_emp ((0 : Int32) + (own_min ((p2.toUInt32 >>> ((2 : Int32) &&& 31).toUInt32).toInt32 &&& (7 : Int32)) (((1 : Int32) + (p1 &&& (3 : Int32))) - (0 : Int32)))))), .val (.int (own_emp (((0 : Int32) + (own_min ((p2.toUInt32 >>> ((2 : Int32) &&& 31).toUInt32).toInt32 &&& (7 : Int32)) (((1 : Int32) + (p1 &&& (3 : Int32))) - (0 : Int32)))) + (own_min ((p3.toUInt32 >>> ((2 : Int32) &&& 31).toUInt32).toInt32 &&& (7 : Int32)) (((1 : Int32) + (p1 &&& (3 : Int32))) - ((0 : Int32) + (own_min ((p2.toUInt32 >>> ((2 : Int32) &&& 31).toUInt32).toInt32 &&& (7 : Int32)) (((1 : Int32) + (p1 &&& (3 : Int32))) - (0 : Int32))))))))), .val (.int (own_x1 ((p2.toUInt32 >>> ((2 : Int32) &&& 31).toUInt32).toInt32 &&& (7 : Int32)))), .val (.int (own_x3 ((p2.toUInt32 >>> ((2 : Int32) &&& 31).toUInt32).toInt32 &&& (7 : Int32)) ((p3.toUInt32 >>> ((2 : Int32) &&& 31).toUInt32).toInt32 &&& (7 : Int32))))] [(.int (own_emp (0 : Int32)))])) _
    refine XS.ifNo X14.here hx rfl (hb hby at_192) rfl ((if0 _ _).trans (feq (by decide : ¬ ((own_emp (0 : Int32)) = (0 : Int32)))).1) ?_
    show Steps p.tables e below (T14.setTop (mkF m 195 #[.val (.int p1), .val (.int p2), .val (.int p3), .val (.int p4), .val (.int ((1 : Int32) + (p1 &&& (3 : Int32)))), .val (.int (p2 &&& (3 : Int32))), .val (.int (((p2.toUInt32 >>> ((2 : Int32) &&& 31).toUInt32).toInt32) &&& (7 : Int32))), .val (.int (p3 &&& (3 : Int32))), .val (.int (((p3.toUInt32 >>> ((2 : Int32) &&& 31).toUInt32).toInt32) &&& (7 : Int32))), .val (.int (0 : Int32)), .val (.ref b5), .val (.ref b8), .val (.int (own_emp (0 : Int32))), .val (.int (own_emp ((0 : Int32) + (own_min ((p2.toUInt32 >>> ((2 : Int32) &&& 31).toUInt32).toInt32 &&& (7 : Int32)) (((1 : Int32) + (p1 &&& (3 : Int32))) - (0 : Int32)))))), .val (.int (own_emp (((0 : Int32) + (own_min ((p2.toUInt32 >>> ((2 : Int32) &&& 31).toUInt32).toInt32 &&& (7 : Int32)) (((1 : Int32) + (p1 &&& (3 : Int32))) - (0 : Int32)))) + (own_min ((p3.toUInt32 >>> ((2 : Int32) &&& 31).toUInt32).toInt32 &&& (7 : Int32)) (((1 : Int32) + (p1 &&& (3 : Int32))) - ((0 : Int32) + (own_min ((p2.toUInt32 >>> ((2 : Int32) &&& 31).toUInt32).toInt32 &&& (7 : Int32)) (((1 : Int32) + (p1 &&& (3 : Int32))) - (0 : Int32))))))))), .val (.int (own_x1 ((p2.toUInt32 >>> ((2 : Int32) &&& 31).toUInt32).toInt32 &&& (7 : Int32)))), .val (.int (own_x3 ((p2.toUInt32 >>> ((2 : Int32) &&& 31).toUInt32).toInt32 &&& (7 : Int32)) ((p3.toUInt32 >>> ((2 : Int32) &&& 31).toUInt32).toInt32 &&& (7 : Int32))))] [])) _
    refine XS.iload X14.here hx rfl (hb hby at_195) rfl ?_
    show Steps p.tables e below (T14.setTop (mkF m 197 #[.val (.int p1), .val (.int p2), .val (.int p3), .val (.int p4), .val (.int ((1 : Int32) + (p1 &&& (3 : Int32)))), .val (.int (p2 &&& (3 : Int32))), .val (.int (((p2.toUInt32 >>> ((2 : Int32) &&& 31).toUInt32).toInt32) &&& (7 : Int32))), .val (.int (p3 &&& (3 : Int32))), .val (.int (((p3.toUInt32 >>> ((2 : Int32) &&& 31).toUInt32).toInt32) &&& (7 : Int32))), .val (.int (0 : Int32)), .val (.ref b5), .val (.ref b8), .val (.int (own_emp (0 : Int32))), .val (.int (own_emp ((0 : Int32) + (own_min ((p2.toUInt32 >>> ((2 : Int32) &&& 31).toUInt32).toInt32 &&& (7 : Int32)) (((1 : Int32) + (p1 &&& (3 : Int32))) - (0 : Int32)))))), .val (.int (own_emp (((0 : Int32) + (own_min ((p2.toUInt32 >>> ((2 : Int32) &&& 31).toUInt32).toInt32 &&& (7 : Int32)) (((1 : Int32) + (p1 &&& (3 : Int32))) - (0 : Int32)))) + (own_min ((p3.toUInt32 >>> ((2 : Int32) &&& 31).toUInt32).toInt32 &&& (7 : Int32)) (((1 : Int32) + (p1 &&& (3 : Int32))) - ((0 : Int32) + (own_min ((p2.toUInt32 >>> ((2 : Int32) &&& 31).toUInt32).toInt32 &&& (7 : Int32)) (((1 : Int32) + (p1 &&& (3 : Int32))) - (0 : Int32))))))))), .val (.int (own_x1 ((p2.toUInt32 >>> ((2 : Int32) &&& 31).toUInt32).toInt32 &&& (7 : Int32)))), .val (.int (own_x3 ((p2.toUInt32 >>> ((2 : Int32) &&& 31).toUInt32).toInt32 &&& (7 : Int32)) ((p3.toUInt32 >>> ((2 : Int32) &&& 31).toUInt32).toInt32 &&& (7 : Int32))))] [(.int (own_emp ((0 : Int32) + (own_min ((p2.toUInt32 >>> ((2 : Int32) &&& 31).toUInt32).toInt32 &&& (7 : Int32)) (((1 : Int32) + (p1 &&& (3 : Int32))) - (0 : Int32))))))])) _
    refine XS.iload X14.here hx rfl (hb hby at_197) rfl ?_
    show Steps p.tables e below (T14.setTop (mkF m 199 #[.val (.int p1), .val (.int p2), .val (.int p3), .val (.int p4), .val (.int ((1 : Int32) + (p1 &&& (3 : Int32)))), .val (.int (p2 &&& (3 : Int32))), .val (.int (((p2.toUInt32 >>> ((2 : Int32) &&& 31).toUInt32).toInt32) &&& (7 : Int32))), .val (.int (p3 &&& (3 : Int32))), .val (.int (((p3.toUInt32 >>> ((2 : Int32) &&& 31).toUInt32).toInt32) &&& (7 : Int32))), .val (.int (0 : Int32)), .val (.ref b5), .val (.ref b8), .val (.int (own_emp (0 : Int32))), .val (.int (own_emp ((0 : Int32) + (own_min ((p2.toUInt32 >>> ((2 : Int32) &&& 31).toUInt32).toInt32 &&& (7 : Int32)) (((1 : Int32) + (p1 &&& (3 : Int32))) - (0 : Int32)))))), .val (.int (own_emp (((0 : Int32) + (own_min ((p2.toUInt32 >>> ((2 : Int32) &&& 31).toUInt32).toInt32 &&& (7 : Int32)) (((1 : Int32) + (p1 &&& (3 : Int32))) - (0 : Int32)))) + (own_min ((p3.toUInt32 >>> ((2 : Int32) &&& 31).toUInt32).toInt32 &&& (7 : Int32)) (((1 : Int32) + (p1 &&& (3 : Int32))) - ((0 : Int32) + (own_min ((p2.toUInt32 >>> ((2 : Int32) &&& 31).toUInt32).toInt32 &&& (7 : Int32)) (((1 : Int32) + (p1 &&& (3 : Int32))) - (0 : Int32))))))))), .val (.int (own_x1 ((p2.toUInt32 >>> ((2 : Int32) &&& 31).toUInt32).toInt32 &&& (7 : Int32)))), .val (.int (own_x3 ((p2.toUInt32 >>> ((2 : Int32) &&& 31).toUInt32).toInt32 &&& (7 : Int32)) ((p3.toUInt32 >>> ((2 : Int32) &&& 31).toUInt32).toInt32 &&& (7 : Int32))))] [(.int (own_x1 ((p2.toUInt32 >>> ((2 : Int32) &&& 31).toUInt32).toInt32 &&& (7 : Int32)))), (.int (own_emp ((0 : Int32) + (own_min ((p2.toUInt32 >>> ((2 : Int32) &&& 31).toUInt32).toInt32 &&& (7 : Int32)) (((1 : Int32) + (p1 &&& (3 : Int32))) - (0 : Int32))))))])) _
    refine XS.icmpNo X14.here hx rfl (hb hby at_199) rfl (teq (own_f1 on11.2.2.2.2.2.2.2.2 : (own_emp ((0 : Int32) + (own_min ((p2.toUInt32 >>> ((2 : Int32) &&& 31).toUInt32).toInt32 &&& (7 : Int32)) (((1 : Int32) + (p1 &&& (3 : Int32))) - (0 : Int32))))) = (own_x1 ((p2.toUInt32 >>> ((2 : Int32) &&& 31).toUInt32).toInt32 &&& (7 : Int32))))).2 ?_
    show Steps p.tables e below (T14.setTop (mkF m 202 #[.val (.int p1), .val (.int p2), .val (.int p3), .val (.int p4), .val (.int ((1 : Int32) + (p1 &&& (3 : Int32)))), .val (.int (p2 &&& (3 : Int32))), .val (.int (((p2.toUInt32 >>> ((2 : Int32) &&& 31).toUInt32).toInt32) &&& (7 : Int32))), .val (.int (p3 &&& (3 : Int32))), .val (.int (((p3.toUInt32 >>> ((2 : Int32) &&& 31).toUInt32).toInt32) &&& (7 : Int32))), .val (.int (0 : Int32)), .val (.ref b5), .val (.ref b8), .val (.int (own_emp (0 : Int32))), .val (.int (own_emp ((0 : Int32) + (own_min ((p2.toUInt32 >>> ((2 : Int32) &&& 31).toUInt32).toInt32 &&& (7 : Int32)) (((1 : Int32) + (p1 &&& (3 : Int32))) - (0 : Int32)))))), .val (.int (own_emp (((0 : Int32) + (own_min ((p2.toUInt32 >>> ((2 : Int32) &&& 31).toUInt32).toInt32 &&& (7 : Int32)) (((1 : Int32) + (p1 &&& (3 : Int32))) - (0 : Int32)))) + (own_min ((p3.toUInt32 >>> ((2 : Int32) &&& 31).toUInt32).toInt32 &&& (7 : Int32)) (((1 : Int32) + (p1 &&& (3 : Int32))) - ((0 : Int32) + (own_min ((p2.toUInt32 >>> ((2 : Int32) &&& 31).toUInt32).toInt32 &&& (7 : Int32)) (((1 : Int32) + (p1 &&& (3 : Int32))) - (0 : Int32))))))))), .val (.int (own_x1 ((p2.toUInt32 >>> ((2 : Int32) &&& 31).toUInt32).toInt32 &&& (7 : Int32)))), .val (.int (own_x3 ((p2.toUInt32 >>> ((2 : Int32) &&& 31).toUInt32).toInt32 &&& (7 : Int32)) ((p3.toUInt32 >>> ((2 : Int32) &&& 31).toUInt32).toInt32 &&& (7 : Int32))))] [])) _
    refine XS.iload X14.here hx rfl (hb hby at_202) rfl ?_
    show Steps p.tables e below (T14.setTop (mkF m 204 #[.val (.int p1), .val (.int p2), .val (.int p3), .val (.int p4), .val (.int ((1 : Int32) + (p1 &&& (3 : Int32)))), .val (.int (p2 &&& (3 : Int32))), .val (.int (((p2.toUInt32 >>> ((2 : Int32) &&& 31).toUInt32).toInt32) &&& (7 : Int32))), .val (.int (p3 &&& (3 : Int32))), .val (.int (((p3.toUInt32 >>> ((2 : Int32) &&& 31).toUInt32).toInt32) &&& (7 : Int32))), .val (.int (0 : Int32)), .val (.ref b5), .val (.ref b8), .val (.int (own_emp (0 : Int32))), .val (.int (own_emp ((0 : Int32) + (own_min ((p2.toUInt32 >>> ((2 : Int32) &&& 31).toUInt32).toInt32 &&& (7 : Int32)) (((1 : Int32) + (p1 &&& (3 : Int32))) - (0 : Int32)))))), .val (.int (own_emp (((0 : Int32) + (own_min ((p2.toUInt32 >>> ((2 : Int32) &&& 31).toUInt32).toInt32 &&& (7 : Int32)) (((1 : Int32) + (p1 &&& (3 : Int32))) - (0 : Int32)))) + (own_min ((p3.toUInt32 >>> ((2 : Int32) &&& 31).toUInt32).toInt32 &&& (7 : Int32)) (((1 : Int32) + (p1 &&& (3 : Int32))) - ((0 : Int32) + (own_min ((p2.toUInt32 >>> ((2 : Int32) &&& 31).toUInt32).toInt32 &&& (7 : Int32)) (((1 : Int32) + (p1 &&& (3 : Int32))) - (0 : Int32))))))))), .val (.int (own_x1 ((p2.toUInt32 >>> ((2 : Int32) &&& 31).toUInt32).toInt32 &&& (7 : Int32)))), .val (.int (own_x3 ((p2.toUInt32 >>> ((2 : Int32) &&& 31).toUInt32).toInt32 &&& (7 : Int32)) ((p3.toUInt32 >>> ((2 : Int32) &&& 31).toUInt32).toInt32 &&& (7 : Int32))))] [(.int (own_emp (((0 : Int32) + (own_min ((p2.toUInt32 >>> ((2 : Int32) &&& 31).toUInt32).toInt32 &&& (7 : Int32)) (((1 : Int32) + (p1 &&& (3 : Int32))) - (0 : Int32)))) + (own_min ((p3.toUInt32 >>> ((2 : Int32) &&& 31).toUInt32).toInt32 &&& (7 : Int32)) (((1 : Int32) + (p1 &&& (3 : Int32))) - ((0 : Int32) + (own_min ((p2.toUInt32 >>> ((2 : Int32) &&& 31).toUInt32).toInt32 &&& (7 : Int32)) (((1 : Int32) + (p1 &&& (3 : Int32))) - (0 : Int32)))))))))])) _
    refine XS.iload X14.here hx rfl (hb hby at_204) rfl ?_
    show Steps p.tables e below (T14.setTop (mkF m 206 #[.val (.int p1), .val (.int p2), .val (.int p3), .val (.int p4), .val (.int ((1 : Int32) + (p1 &&& (3 : Int32)))), .val (.int (p2 &&& (3 : Int32))), .val (.int (((p2.toUInt32 >>> ((2 : Int32) &&& 31).toUInt32).toInt32) &&& (7 : Int32))), .val (.int (p3 &&& (3 : Int32))), .val (.int (((p3.toUInt32 >>> ((2 : Int32) &&& 31).toUInt32).toInt32) &&& (7 : Int32))), .val (.int (0 : Int32)), .val (.ref b5), .val (.ref b8), .val (.int (own_emp (0 : Int32))), .val (.int (own_emp ((0 : Int32) + (own_min ((p2.toUInt32 >>> ((2 : Int32) &&& 31).toUInt32).toInt32 &&& (7 : Int32)) (((1 : Int32) + (p1 &&& (3 : Int32))) - (0 : Int32)))))), .val (.int (own_emp (((0 : Int32) + (own_min ((p2.toUInt32 >>> ((2 : Int32) &&& 31).toUInt32).toInt32 &&& (7 : Int32)) (((1 : Int32) + (p1 &&& (3 : Int32))) - (0 : Int32)))) + (own_min ((p3.toUInt32 >>> ((2 : Int32) &&& 31).toUInt32).toInt32 &&& (7 : Int32)) (((1 : Int32) + (p1 &&& (3 : Int32))) - ((0 : Int32) + (own_min ((p2.toUInt32 >>> ((2 : Int32) &&& 31).toUInt32).toInt32 &&& (7 : Int32)) (((1 : Int32) + (p1 &&& (3 : Int32))) - (0 : Int32))))))))), .val (.int (own_x1 ((p2.toUInt32 >>> ((2 : Int32) &&& 31).toUInt32).toInt32 &&& (7 : Int32)))), .val (.int (own_x3 ((p2.toUInt32 >>> ((2 : Int32) &&& 31).toUInt32).toInt32 &&& (7 : Int32)) ((p3.toUInt32 >>> ((2 : Int32) &&& 31).toUInt32).toInt32 &&& (7 : Int32))))] [(.int (own_x3 ((p2.toUInt32 >>> ((2 : Int32) &&& 31).toUInt32).toInt32 &&& (7 : Int32)) ((p3.toUInt32 >>> ((2 : Int32) &&& 31).toUInt32).toInt32 &&& (7 : Int32)))), (.int (own_emp (((0 : Int32) + (own_min ((p2.toUInt32 >>> ((2 : Int32) &&& 31).toUInt32).toInt32 &&& (7 : Int32)) (((1 : Int32) + (p1 &&& (3 : Int32))) - (0 : Int32)))) + (own_min ((p3.toUInt32 >>> ((2 : Int32) &&& 31).toUInt32).toInt32 &&& (7 : Int32)) (((1 : Int32) + (p1 &&& (3 : Int32))) - ((0 : Int32) + (own_min ((p2.toUInt32 >>> ((2 : Int32) &&& 31).toUInt32).toInt32 &&& (7 : Int32)) (((1 : Int32) + (p1 &&& (3 : Int32))) - (0 : Int32)))))))))])) _
    refine XS.icmpNo X14.here hx rfl (hb hby at_206) rfl (teq (own_f3 on11.2.2.2.2.2.2.2.2 on13.2.2.2.2.2.2.2.2 : (own_emp (((0 : Int32) + (own_min ((p2.toUInt32 >>> ((2 : Int32) &&& 31).toUInt32).toInt32 &&& (7 : Int32)) (((1 : Int32) + (p1 &&& (3 : Int32))) - (0 : Int32)))) + (own_min ((p3.toUInt32 >>> ((2 : Int32) &&& 31).toUInt32).toInt32 &&& (7 : Int32)) (((1 : Int32) + (p1 &&& (3 : Int32))) - ((0 : Int32) + (own_min ((p2.toUInt32 >>> ((2 : Int32) &&& 31).toUInt32).toInt32 &&& (7 : Int32)) (((1 : Int32) + (p1 &&& (3 : Int32))) - (0 : Int32)))))))) = (own_x3 ((p2.toUInt32 >>> ((2 : Int32) &&& 31).toUInt32).toInt32 &&& (7 : Int32)) ((p3.toUInt32 >>> ((2 : Int32) &&& 31).toUInt32).toInt32 &&& (7 : Int32))))).2 ?_
    show Steps p.tables e below (T14.setTop (mkF m 209 #[.val (.int p1), .val (.int p2), .val (.int p3), .val (.int p4), .val (.int ((1 : Int32) + (p1 &&& (3 : Int32)))), .val (.int (p2 &&& (3 : Int32))), .val (.int (((p2.toUInt32 >>> ((2 : Int32) &&& 31).toUInt32).toInt32) &&& (7 : Int32))), .val (.int (p3 &&& (3 : Int32))), .val (.int (((p3.toUInt32 >>> ((2 : Int32) &&& 31).toUInt32).toInt32) &&& (7 : Int32))), .val (.int (0 : Int32)), .val (.ref b5), .val (.ref b8), .val (.int (own_emp (0 : Int32))), .val (.int (own_emp ((0 : Int32) + (own_min ((p2.toUInt32 >>> ((2 : Int32) &&& 31).toUInt32).toInt32 &&& (7 : Int32)) (((1 : Int32) + (p1 &&& (3 : Int32))) - (0 : Int32)))))), .val (.int (own_emp (((0 : Int32) + (own_min ((p2.toUInt32 >>> ((2 : Int32) &&& 31).toUInt32).toInt32 &&& (7 : Int32)) (((1 : Int32) + (p1 &&& (3 : Int32))) - (0 : Int32)))) + (own_min ((p3.toUInt32 >>> ((2 : Int32) &&& 31).toUInt32).toInt32 &&& (7 : Int32)) (((1 : Int32) + (p1 &&& (3 : Int32))) - ((0 : Int32) + (own_min ((p2.toUInt32 >>> ((2 : Int32) &&& 31).toUInt32).toInt32 &&& (7 : Int32)) (((1 : Int32) + (p1 &&& (3 : Int32))) - (0 : Int32))))))))), .val (.int (own_x1 ((p2.toUInt32 >>> ((2 : Int32) &&& 31).toUInt32).toInt32 &&& (7 : Int32)))), .val (.int (own_x3 ((p2.toUInt32 >>> ((2 : Int32) &&& 31).toUInt32).toInt32 &&& (7 : Int32)) ((p3.toUInt32 >>> ((2 : Int32) &&& 31).toUInt32).toInt32 &&& (7 : Int32))))] [])) _
    refine XS.iconst X14.here hx rfl (hb hby at_209) ?_
    show Steps p.tables e below (T14.setTop (mkF m 210 #[.val (.int p1), .val (.int p2), .val (.int p3), .val (.int p4), .val (.int ((1 : Int32) + (p1 &&& (3 : Int32)))), .val (.int (p2 &&& (3 : Int32))), .val (.int (((p2.toUInt32 >>> ((2 : Int32) &&& 31).toUInt32).toInt32) &&& (7 : Int32))), .val (.int (p3 &&& (3 : Int32))), .val (.int (((p3.toUInt32 >>> ((2 : Int32) &&& 31).toUInt32).toInt32) &&& (7 : Int32))), .val (.int (0 : Int32)), .val (.ref b5), .val (.ref b8), .val (.int (own_emp (0 : Int32))), .val (.int (own_emp ((0 : Int32) + (own_min ((p2.toUInt32 >>> ((2 : Int32) &&& 31).toUInt32).toInt32 &&& (7 : Int32)) (((1 : Int32) + (p1 &&& (3 : Int32))) - (0 : Int32)))))), .val (.int (own_emp (((0 : Int32) + (own_min ((p2.toUInt32 >>> ((2 : Int32) &&& 31).toUInt32).toInt32 &&& (7 : Int32)) (((1 : Int32) + (p1 &&& (3 : Int32))) - (0 : Int32)))) + (own_min ((p3.toUInt32 >>> ((2 : Int32) &&& 31).toUInt32).toInt32 &&& (7 : Int32)) (((1 : Int32) + (p1 &&& (3 : Int32))) - ((0 : Int32) + (own_min ((p2.toUInt32 >>> ((2 : Int32) &&& 31).toUInt32).toInt32 &&& (7 : Int32)) (((1 : Int32) + (p1 &&& (3 : Int32))) - (0 : Int32))))))))), .val (.int (own_x1 ((p2.toUInt32 >>> ((2 : Int32) &&& 31).toUInt32).toInt32 &&& (7 : Int32)))), .val (.int (own_x3 ((p2.toUInt32 >>> ((2 : Int32) &&& 31).toUInt32).toInt32 &&& (7 : Int32)) ((p3.toUInt32 >>> ((2 : Int32) &&& 31).toUInt32).toInt32 &&& (7 : Int32))))] [(.int (1 : Int32))])) _
    refine XS.goto X14.here hx rfl (pc0 := 210) (pc' := 214) rfl (hb hby at_210) (by decide) (by decide) ?_
    show Steps p.tables e below (T14.setTop (mkF m 214 #[.val (.int p1), .val (.int p2), .val (.int p3), .val (.int p4), .val (.int ((1 : Int32) + (p1 &&& (3 : Int32)))), .val (.int (p2 &&& (3 : Int32))), .val (.int (((p2.toUInt32 >>> ((2 : Int32) &&& 31).toUInt32).toInt32) &&& (7 : Int32))), .val (.int (p3 &&& (3 : Int32))), .val (.int (((p3.toUInt32 >>> ((2 : Int32) &&& 31).toUInt32).toInt32) &&& (7 : Int32))), .val (.int (0 : Int32)), .val (.ref b5), .val (.ref b8), .val (.int (own_emp (0 : Int32))), .val (.int (own_emp ((0 : Int32) + (own_min ((p2.toUInt32 >>> ((2 : Int32) &&& 31).toUInt32).toInt32 &&& (7 : Int32)) (((1 : Int32) + (p1 &&& (3 : Int32))) - (0 : Int32)))))), .val (.int (own_emp (((0 : Int32) + (own_min ((p2.toUInt32 >>> ((2 : Int32) &&& 31).toUInt32).toInt32 &&& (7 : Int32)) (((1 : Int32) + (p1 &&& (3 : Int32))) - (0 : Int32)))) + (own_min ((p3.toUInt32 >>> ((2 : Int32) &&& 31).toUInt32).toInt32 &&& (7 : Int32)) (((1 : Int32) + (p1 &&& (3 : Int32))) - ((0 : Int32) + (own_min ((p2.toUInt32 >>> ((2 : Int32) &&& 31).toUInt32).toInt32 &&& (7 : Int32)) (((1 : Int32) + (p1 &&& (3 : Int32))) - (0 : Int32))))))))), .val (.int (own_x1 ((p2.toUInt32 >>> ((2 : Int32) &&& 31).toUInt32).toInt32 &&& (7 : Int32)))), .val (.int (own_x3 ((p2.toUInt32 >>> ((2 : Int32) &&& 31).toUInt32).toInt32 &&& (7 : Int32)) ((p3.toUInt32 >>> ((2 : Int32) &&& 31).toUInt32).toInt32 &&& (7 : Int32))))] [(.int (1 : Int32))])) _
    exact retN X14 hx (t := .boolean) Bd.returns (by simp) (hb hby at_214) hr
  · show Q0 Z p1 p2 p3 p4 h0 n0 _ T14.heap _
    exact ⟨rfl, N14⟩
theorem rm0 (l : Launch) (Z : State) (a0 : Array Value) (hw : ∀ d ∈ tables_1, d.before a0 Z = true) (ws : List Jvm.Cond) (p1 : Int32) (p2 : Int32) (p3 : Int32) (p4 : Int32) (h0 : Heap) (n0 : Nat) (Z0 : n0 ≤ h0.size) :
    MetFree l x (head1 (Jvm.Cond.code x code maxLocals ret :: ws) room_1) (fun a U => a = #[(.int p1), (.int p2), (.int p3), (.int p4)] ∧ Z.Warmed39 U.vm ∧ U.heap = h0) (fun _ _ _ _ _ => True) (fun _ U o U' => ∃ v L, o = .returned v ∧ Q0 Z p1 p2 p3 p4 h0 n0 v U'.heap L ∧ FrameEnd U o U' L room_1.cells room_1.slots) := by
  by_cases hc : (p4 &&& (1 : Int32)) = (0 : Int32)
  · exact rm0_n l Z a0 hw ws p1 p2 p3 p4 h0 n0 Z0 hc
  · exact rm0_c l Z a0 hw ws p1 p2 p3 p4 h0 n0 Z0 hc
set_option maxRecDepth 65536 in
set_option maxHeartbeats 40000000 in
theorem comes_1 {Post : Tables → Env → Array Value → State → Outcome → State → Prop} (hpost : ∀ tb e args s v u, (limb_1_1.after args s (.returned v) u = true ∧ limb_1_2.after args s (.returned v) u = true ∧ True) → FrameEnd s (.returned v) u (Jvm.fieldLocs frame_1_writes args s ++ Jvm.arrayLocs frame_1_arrays args s ++ Jvm.staticLocs frame_1_statics s) 16 128 → Post tb e args s (.returned v) u) :
    ArmFor flags0 classFile x code maxLocals ret World_1 tables_1 room_1 Calls_1 rest_1 Pre_1 Post := by
  intro l hfl _ _ p e ha hc hk s m args below hf hA hF happ hP
  obtain ⟨hcalls, hrest, hpre⟩ := hP
  obtain ⟨-, -, -, hnamed, -, -, -, hat⟩ := (Spec.applies_iff hf).mp happ
  obtain ⟨hg, hn⟩ := and_e (Cond.before_iff.mp (show (Jvm.Cond.and given_1 narrow_1).before args s = true from hpre))
  obtain ⟨g16, g17⟩ := and_e hg
  obtain ⟨g18, g19⟩ := and_e g17
  obtain ⟨g20, g21⟩ := and_e g19
  obtain ⟨g22, g23⟩ := and_e g21
  obtain ⟨w0, w1, w2, w3, rfl⟩ : ∃ w0 w1 w2 w3 : Value, args = #[w0, w1, w2, w3] := by
    have hs : args.size = 4 := by simpa [Cond.value, given_1] using g16
    obtain ⟨L⟩ := args
    match L, hs with
    | [w0, w1, w2, w3], _ => exact ⟨w0, w1, w2, w3, rfl⟩
  have hw := fun d (hd : d ∈ tables_1) => atoms_spec (ws := Jvm.Cond.code x code maxLocals ret :: tables_1) hat d (List.mem_cons_of_mem _ hd)
  have hfit : Fit s := fun {y c} hc i hi => by
    obtain ⟨ha, rfl⟩ := Array.getElem?_eq_some_iff.mp hc
    have q := List.all_eq_true.mp ((Array.all_eq_true_iff_forall_mem.mp hF) _ (Array.getElem_mem ha)) i (List.mem_range.mpr hi)
    simpa [Array.getElem?_eq_getElem hi] using q
  obtain ⟨i0, ei0⟩ := is_v g18
  obtain rfl : w0 = (.int i0) := Option.some.inj ei0
  obtain ⟨i1, ei1⟩ := is_v g20
  obtain rfl : w1 = (.int i1) := Option.some.inj ei1
  obtain ⟨i2, ei2⟩ := is_v g22
  obtain rfl : w2 = (.int i2) := Option.some.inj ei2
  obtain ⟨i3, ei3⟩ := is_v g23
  obtain rfl : w3 = (.int i3) := Option.some.inj ei3
  obtain ⟨n, o, h1, h2, h3, _, L, rfl, ⟨rfl, N⟩, hq⟩ := rm0 l s _ hw tables_1 i0 i1 i2 i3 s.heap s.heap.size (Nat.le_refl _) p e ha hc hk s m _ below hf ((Spec.applies_iff_loose hf).mp happ).1 ⟨rfl, State.Warmed39.refl s, rfl⟩ trivial
  refine ⟨n, _, h1, h2, h3, hpost _ _ _ _ _ _ ⟨Cond.after_iff.mpr rfl, Cond.after_iff.mpr (eq_i res_at (Term.int_eval (1)) rfl), trivial⟩ ⟨hq.1, hq.2.1, (hq.2.2.sift fun y hy => Or.inr (N y hy)).mono (by decide) (by decide)⟩⟩
theorem main_1_1 : Claimed_1_1 := comes_1 fun _ _ _ _ _ _ h hF => ⟨h.1, hF⟩
theorem main_1_2 : Claimed_1_2 := comes_1 fun _ _ _ _ _ _ h hF => ⟨h.2.1, hF⟩
end Jvm.Pilot.@@N@@
namespace Jvm.Pilot.@@N@@
open Jvm Jvm.ClassFile Sem Op Lib Jvm.Free Jvm.Stand Jvm.Pilot.@@N@@.Jvm.D
/-! MADE BY PROGRAM (witnessworld.py) out of the Statement's table words and the real class files: 18 classes; the members and pool entries that the words name. The judged class is class 1, her method 1. -/
namespace start1
open Jvm.ClassFile
def u (s : String) : CpInfo := .utf8 (stringToUtf16 s)
/-- a pool by its gaps: so many unusable entries, then the entry; so many at the end -/
def gap : Nat → List CpInfo → List CpInfo
  | 0, r => r
  | n + 1, r => .unusable :: gap n r
def poolList (es : List (Nat × CpInfo)) (last : Nat) : List CpInfo := es.foldr (fun e r => gap e.1 (e.2 :: r)) (gap last [])
def pool (es : List (Nat × CpInfo)) (last : Nat) : Array CpInfo := ⟨poolList es last⟩
def fileOf (pool : Array CpInfo) (this : Nat) (attrs : Array Attribute := #[]) (ms : Array MethodInfo := #[]) (fl : Nat := 33) (sup : Nat := 0) (ifs : Array Nat := #[]) (fds : Array FieldInfo := #[]) : ClassFile where
  minorVersion := 0
  majorVersion := 65
  constantPool := pool
  accessFlags := fl
  thisClass := this
  superClass := sup
  interfaces := ifs
  fields := fds
  methods := ms
  attributes := attrs
def plain (name : String) (sup : Option ClassId) : Class where
  name := name
  kind := .ordinary
  loader := none
  accessFlags := 33
  super := sup
  interfaces := #[]
  cf := none
  fields := #[]
  methods := #[]
  instanceTypes := #[]
  staticTypes := #[]
  resolved := #[]
  callSites := []
  init := .initialized
  statics := none
  mirror := none

def pool0 : Array CpInfo := pool [(5, u "<init>"), (0, u "()V"), (1, .class_ 10), (1, u "java/lang/Object")] 113

def k0c0 : Code := { maxStack := 0, maxLocals := 1, code := object_method_1_code, exceptionTable := #[], attributes := #[] }
def k0m0 : Method := { name := "<init>", desc := "()V", sig := { parameters := [], returnType := none }, accessFlags := 1, code := some k0c0 }
/-- java/lang/Object -/
def k0 : Class := { plain "java/lang/Object" none with
  accessFlags := 33
  interfaces := #[]
  cf := some (fileOf pool0 8 #[] #[{ accessFlags := 1, nameIndex := 5, descriptorIndex := 6, attributes := #[] }] 33 0 #[] #[])
  fields := #[]
  methods := #[k0m0]
  instanceTypes := #[]
  staticTypes := #[]
  resolved := Array.replicate 124 none
  statics := none }

def pool1 : Array CpInfo := pool [(2, .class_ 4), (1, u "java/lang/Object"), (0, u "<init>"), (0, u "()V"), (0, .class_ 8), (0, u "descry/read/TextPrefix"), (0, .methodref 7 10), (0, .nameAndType 5 11), (0, u "(I)V"), (0, .methodref 7 13), (0, .nameAndType 14 15), (0, u "isEmpty"), (0, u "()Z"), (0, .methodref 7 17), (0, .nameAndType 18 19), (0, u "write"), (0, u "([CII)V"), (0, .methodref 7 21), (0, .nameAndType 22 6), (0, u "clear"), (0, .class_ 24), (0, u "descry/read/TextPrefixIsEmptyPinLaw"), (2, u "law"), (0, u "(IIII)Z")] 5

def k1m0 : Method := { name := "<init>", desc := "()V", sig := { parameters := [], returnType := none }, accessFlags := 1, code := none }
def k1c1 : Code := { maxStack := 4, maxLocals := 17, code := code, exceptionTable := #[], attributes := #[] }
def k1m1 : Method := { name := "law", desc := "(IIII)Z", sig := { parameters := [.int, .int, .int, .int], returnType := some .boolean }, accessFlags := 9, code := some k1c1 }
/-- descry/read/TextPrefixIsEmptyPinLaw -/
def k1 : Class := { plain "descry/read/TextPrefixIsEmptyPinLaw" (some 0) with
  accessFlags := 49
  interfaces := #[]
  cf := some (fileOf pool1 23 #[] #[{ accessFlags := 1, nameIndex := 5, descriptorIndex := 6, attributes := #[] }, { accessFlags := 9, nameIndex := 27, descriptorIndex := 28, attributes := #[] }] 49 2 #[] #[])
  fields := #[]
  methods := #[k1m0, k1m1]
  instanceTypes := #[]
  staticTypes := #[]
  resolved := Array.replicate 34 none
  statics := none }

def pool2 : Array CpInfo := pool [(1, .class_ 2), (0, u "java/lang/Appendable"), (0, .class_ 4), (0, u "java/lang/Object")] 9

/-- java/lang/Appendable -/
def k2 : Class := { plain "java/lang/Appendable" (some 0) with
  accessFlags := 1537
  interfaces := #[]
  cf := some (fileOf pool2 1 #[] #[] 1537 3 #[] #[])
  fields := #[]
  methods := #[]
  instanceTypes := #[]
  staticTypes := #[]
  resolved := Array.replicate 14 none
  statics := none }

def pool3 : Array CpInfo := pool [(1, .class_ 2), (0, u "java/lang/AutoCloseable"), (0, .class_ 4), (0, u "java/lang/Object")] 7

/-- java/lang/AutoCloseable -/
def k3 : Class := { plain "java/lang/AutoCloseable" (some 0) with
  accessFlags := 1537
  interfaces := #[]
  cf := some (fileOf pool3 1 #[] #[] 1537 3 #[] #[])
  fields := #[]
  methods := #[]
  instanceTypes := #[]
  staticTypes := #[]
  resolved := Array.replicate 12 none
  statics := none }

def pool4 : Array CpInfo := pool [(1, .class_ 2), (0, u "java/io/Closeable"), (0, .class_ 4), (0, u "java/lang/Object"), (0, .class_ 6), (0, u "java/lang/AutoCloseable")] 7

/-- java/io/Closeable -/
def k4 : Class := { plain "java/io/Closeable" (some 0) with
  accessFlags := 1537
  interfaces := #[3]
  cf := some (fileOf pool4 1 #[] #[] 1537 3 #[5] #[])
  fields := #[]
  methods := #[]
  instanceTypes := #[]
  staticTypes := #[]
  resolved := Array.replicate 14 none
  statics := none }

def pool5 : Array CpInfo := pool [(1, .class_ 2), (0, u "java/io/Flushable"), (0, .class_ 4), (0, u "java/lang/Object")] 7

/-- java/io/Flushable -/
def k5 : Class := { plain "java/io/Flushable" (some 0) with
  accessFlags := 1537
  interfaces := #[]
  cf := some (fileOf pool5 1 #[] #[] 1537 3 #[] #[])
  fields := #[]
  methods := #[]
  instanceTypes := #[]
  staticTypes := #[]
  resolved := Array.replicate 12 none
  statics := none }

def pool6 : Array CpInfo := pool [(1, .class_ 2), (0, u "java/io/Writer$1"), (1, .nameAndType 5 6), (0, u "<init>"), (0, u "()V"), (0, .methodref 8 4), (0, .class_ 9), (0, u "java/lang/Object"), (0, .fieldref 11 12), (0, .class_ 13), (0, .nameAndType 14 15), (0, u "java/io/Writer"), (0, u "lock"), (0, u "Ljava/lang/Object;"), (30, u "writeBuffer"), (0, u "[C"), (46, .class_ 95), (0, u "java/lang/Appendable"), (0, .class_ 97), (0, u "java/io/Closeable"), (0, .class_ 99), (0, u "java/io/Flushable"), (0, u "WRITE_BUFFER_SIZE"), (0, u "I")] 49

def k6c0 : Code := { maxStack := 2, maxLocals := 1, code := jdk_2052_method_2_code, exceptionTable := #[], attributes := #[] }
def k6m0 : Method := { name := "<init>", desc := "()V", sig := { parameters := [], returnType := none }, accessFlags := 4, code := some k6c0 }
/-- java/io/Writer -/
def k6 : Class := { plain "java/io/Writer" (some 0) with
  accessFlags := 1057
  interfaces := #[2, 4, 5]
  cf := some (fileOf pool6 11 #[.nestMembers #[1]] #[{ accessFlags := 4, nameIndex := 5, descriptorIndex := 6, attributes := #[] }] 1057 8 #[94, 96, 98] #[{ accessFlags := 2, nameIndex := 46, descriptorIndex := 47, attributes := #[] }, { accessFlags := 26, nameIndex := 100, descriptorIndex := 101, attributes := #[] }, { accessFlags := 4, nameIndex := 14, descriptorIndex := 15, attributes := #[] }])
  fields := #[{ name := "writeBuffer", type := (.array .char), accessFlags := 2, slot := 0, constantValue := 0 }, { name := "WRITE_BUFFER_SIZE", type := .int, accessFlags := 26, slot := 0, constantValue := 0 }, { name := "lock", type := (.object "java/lang/Object"), accessFlags := 4, slot := 1, constantValue := 0 }]
  methods := #[k6m0]
  instanceTypes := #[(.array .char), (.object "java/lang/Object")]
  staticTypes := #[.int]
  resolved := Array.replicate 151 none
  statics := none }

def pool7 : Array CpInfo := pool [(1, .methodref 2 3), (0, .class_ 4), (0, .nameAndType 5 6), (0, u "java/io/Writer"), (0, u "<init>"), (0, u "()V"), (0, .fieldref 8 9), (0, .class_ 10), (0, .nameAndType 11 12), (0, u "descry/read/TextPrefix"), (0, u "held"), (0, u "[C"), (0, .fieldref 8 14), (0, .nameAndType 15 16), (0, u "length"), (0, u "I"), (0, .fieldref 8 18), (0, .nameAndType 19 20), (0, u "cut"), (0, u "Z"), (0, .methodref 22 23), (0, .class_ 24), (0, .nameAndType 25 26), (0, u "java/lang/Math"), (0, u "min"), (0, u "(II)I"), (0, .methodref 28 29), (0, .class_ 30), (0, .nameAndType 31 32), (0, u "java/lang/System"), (0, u "arraycopy"), (0, u "(Ljava/lang/Object;ILjava/lang/Object;II)V"), (4, u "([CII)V"), (0, u "(I)V"), (2, u "clear"), (0, u "write"), (5, u "()Z"), (0, u "isEmpty")] 4

def k7c0 : Code := { maxStack := 2, maxLocals := 2, code := prog_46_method_1_code, exceptionTable := #[], attributes := #[] }
def k7m0 : Method := { name := "<init>", desc := "(I)V", sig := { parameters := [.int], returnType := none }, accessFlags := 1, code := some k7c0 }
def k7c1 : Code := { maxStack := 2, maxLocals := 1, code := prog_46_method_2_code, exceptionTable := #[], attributes := #[] }
def k7m1 : Method := { name := "clear", desc := "()V", sig := { parameters := [], returnType := none }, accessFlags := 1, code := some k7c1 }
def k7c2 : Code := { maxStack := 5, maxLocals := 5, code := prog_46_method_3_code, exceptionTable := #[], attributes := #[] }
def k7m2 : Method := { name := "write", desc := "([CII)V", sig := { parameters := [(.array .char), .int, .int], returnType := none }, accessFlags := 1, code := some k7c2 }
def k7c3 : Code := { maxStack := 1, maxLocals := 1, code := prog_46_method_7_code, exceptionTable := #[], attributes := #[] }
def k7m3 : Method := { name := "isEmpty", desc := "()Z", sig := { parameters := [], returnType := some .boolean }, accessFlags := 1, code := some k7c3 }
/-- descry/read/TextPrefix -/
def k7 : Class := { plain "descry/read/TextPrefix" (some 6) with
  accessFlags := 33
  interfaces := #[]
  cf := some (fileOf pool7 8 #[] #[{ accessFlags := 1, nameIndex := 5, descriptorIndex := 38, attributes := #[] }, { accessFlags := 1, nameIndex := 41, descriptorIndex := 6, attributes := #[] }, { accessFlags := 1, nameIndex := 42, descriptorIndex := 37, attributes := #[] }, { accessFlags := 1, nameIndex := 49, descriptorIndex := 48, attributes := #[] }] 33 2 #[] #[{ accessFlags := 18, nameIndex := 11, descriptorIndex := 12, attributes := #[] }, { accessFlags := 2, nameIndex := 15, descriptorIndex := 16, attributes := #[] }, { accessFlags := 2, nameIndex := 19, descriptorIndex := 20, attributes := #[] }])
  fields := #[{ name := "held", type := (.array .char), accessFlags := 18, slot := 2, constantValue := 0 }, { name := "length", type := .int, accessFlags := 2, slot := 3, constantValue := 0 }, { name := "cut", type := .boolean, accessFlags := 2, slot := 4, constantValue := 0 }]
  methods := #[k7m0, k7m1, k7m2, k7m3]
  instanceTypes := #[(.array .char), (.object "java/lang/Object"), (.array .char), .int, .boolean]
  staticTypes := #[]
  resolved := Array.replicate 54 none
  statics := none }

def pool8 : Array CpInfo := pool [(1, .class_ 2), (0, u "java/lang/Math"), (1, .class_ 6), (1, u "java/lang/Object"), (0, u "<init>"), (0, u "()V"), (89, .class_ 100), (1, u "java/lang/Math$RandomNumberGeneratorHolder"), (71, u "negativeZeroFloatBits"), (0, u "J"), (2, u "negativeZeroDoubleBits"), (24, u "min"), (43, u "$assertionsDisabled"), (0, u "Z"), (88, u "(II)I"), (2, u "twoToTheDoubleScaleDown"), (0, u "D"), (4, u "twoToTheDoubleScaleUp"), (9, u "E"), (3, u "PI"), (2, u "TAU"), (2, u "DEGREES_TO_RADIANS"), (0, u "RADIANS_TO_DEGREES")] 94

def k8m0 : Method := { name := "<init>", desc := "()V", sig := { parameters := [], returnType := none }, accessFlags := 2, code := none }
def k8c1 : Code := { maxStack := 2, maxLocals := 2, code := jdk_29_method_69_code, exceptionTable := #[], attributes := #[] }
def k8m1 : Method := { name := "min", desc := "(II)I", sig := { parameters := [.int, .int], returnType := some .int }, accessFlags := 9, code := some k8c1 }
/-- java/lang/Math -/
def k8 : Class := { plain "java/lang/Math" (some 0) with
  accessFlags := 49
  interfaces := #[]
  cf := some (fileOf pool8 1 #[.nestMembers #[98]] #[{ accessFlags := 2, nameIndex := 7, descriptorIndex := 8, attributes := #[] }, { accessFlags := 9, nameIndex := 201, descriptorIndex := 335, attributes := #[] }] 49 4 #[] #[{ accessFlags := 25, nameIndex := 354, descriptorIndex := 339, attributes := #[] }, { accessFlags := 25, nameIndex := 358, descriptorIndex := 339, attributes := #[] }, { accessFlags := 25, nameIndex := 361, descriptorIndex := 339, attributes := #[] }, { accessFlags := 26, nameIndex := 364, descriptorIndex := 339, attributes := #[] }, { accessFlags := 26, nameIndex := 365, descriptorIndex := 339, attributes := #[] }, { accessFlags := 26, nameIndex := 172, descriptorIndex := 173, attributes := #[] }, { accessFlags := 26, nameIndex := 176, descriptorIndex := 173, attributes := #[] }, { accessFlags := 8, nameIndex := 344, descriptorIndex := 339, attributes := #[] }, { accessFlags := 8, nameIndex := 338, descriptorIndex := 339, attributes := #[] }, { accessFlags := 4120, nameIndex := 245, descriptorIndex := 246, attributes := #[] }])
  fields := #[{ name := "E", type := .double, accessFlags := 25, slot := 0, constantValue := 0 }, { name := "PI", type := .double, accessFlags := 25, slot := 1, constantValue := 0 }, { name := "TAU", type := .double, accessFlags := 25, slot := 2, constantValue := 0 }, { name := "DEGREES_TO_RADIANS", type := .double, accessFlags := 26, slot := 3, constantValue := 0 }, { name := "RADIANS_TO_DEGREES", type := .double, accessFlags := 26, slot := 4, constantValue := 0 }, { name := "negativeZeroFloatBits", type := .long, accessFlags := 26, slot := 5, constantValue := 0 }, { name := "negativeZeroDoubleBits", type := .long, accessFlags := 26, slot := 6, constantValue := 0 }, { name := "twoToTheDoubleScaleUp", type := .double, accessFlags := 8, slot := 7, constantValue := 0 }, { name := "twoToTheDoubleScaleDown", type := .double, accessFlags := 8, slot := 8, constantValue := 0 }, { name := "$assertionsDisabled", type := .boolean, accessFlags := 4120, slot := 9, constantValue := 0 }]
  methods := #[k8m0, k8m1]
  instanceTypes := #[]
  staticTypes := #[.double, .double, .double, .double, .double, .long, .long, .double, .double, .boolean]
  resolved := Array.replicate 460 none
  statics := none }

def pool9 : Array CpInfo := pool [(2, .class_ 4), (1, u "java/lang/Object"), (0, u "<init>"), (0, u "()V"), (1, .class_ 10), (1, u "java/lang/System"), (0, u "allowSecurityManager"), (0, u "I"), (16, u "cons"), (0, u "Ljava/io/Console;"), (77, .class_ 110), (1, u "java/lang/System$CallersHolder"), (43, u "initialErrStream"), (0, u "Ljava/io/PrintStream;"), (19, u "security"), (0, u "Ljava/lang/SecurityManager;"), (31, .class_ 209), (0, u "java/lang/System$1"), (7, u "props"), (0, u "Ljava/util/Properties;"), (2, u "lineSeparator"), (0, u "Ljava/lang/String;"), (96, .class_ 321), (1, u "java/lang/System$LoggerFinder"), (5, .class_ 328), (0, u "java/lang/System$Logger"), (67, u "err"), (2, u "out"), (91, u "notSupportedJnuEncoding"), (15, u "in"), (17, u "initialIn"), (0, u "Ljava/io/InputStream;"), (35, u "bootLayer"), (0, u "Ljava/lang/ModuleLayer;"), (99, .class_ 664), (0, u "java/lang/System$2"), (9, u "NEVER"), (2, u "MAYBE"), (49, u "arraycopy"), (0, u "(Ljava/lang/Object;ILjava/lang/Object;II)V"), (72, .class_ 802), (0, u "java/lang/System$Logger$Level")] 31

def k9m0 : Method := { name := "<init>", desc := "()V", sig := { parameters := [], returnType := none }, accessFlags := 2, code := none }
def k9m1 : Method := { name := "arraycopy", desc := "(Ljava/lang/Object;ILjava/lang/Object;II)V", sig := { parameters := [(.object "java/lang/Object"), .int, (.object "java/lang/Object"), .int, .int], returnType := none }, accessFlags := 265, code := none }
/-- java/lang/System -/
def k9 : Class := { plain "java/lang/System" (some 0) with
  accessFlags := 49
  interfaces := #[]
  cf := some (fileOf pool9 8 #[.nestMembers #[319, 327, 801, 108, 663, 208]] #[{ accessFlags := 2, nameIndex := 5, descriptorIndex := 6, attributes := #[] }, { accessFlags := 265, nameIndex := 727, descriptorIndex := 728, attributes := #[] }] 49 2 #[] #[{ accessFlags := 25, nameIndex := 507, descriptorIndex := 526, attributes := #[] }, { accessFlags := 25, nameIndex := 399, descriptorIndex := 155, attributes := #[] }, { accessFlags := 25, nameIndex := 396, descriptorIndex := 155, attributes := #[] }, { accessFlags := 10, nameIndex := 525, descriptorIndex := 526, attributes := #[] }, { accessFlags := 26, nameIndex := 674, descriptorIndex := 12, attributes := #[] }, { accessFlags := 26, nameIndex := 677, descriptorIndex := 12, attributes := #[] }, { accessFlags := 10, nameIndex := 11, descriptorIndex := 12, attributes := #[] }, { accessFlags := 74, nameIndex := 175, descriptorIndex := 176, attributes := #[] }, { accessFlags := 10, nameIndex := 491, descriptorIndex := 222, attributes := #[] }, { accessFlags := 74, nameIndex := 29, descriptorIndex := 30, attributes := #[] }, { accessFlags := 74, nameIndex := 154, descriptorIndex := 155, attributes := #[] }, { accessFlags := 10, nameIndex := 217, descriptorIndex := 218, attributes := #[] }, { accessFlags := 10, nameIndex := 221, descriptorIndex := 222, attributes := #[] }, { accessFlags := 8, nameIndex := 562, descriptorIndex := 563, attributes := #[] }])
  fields := #[{ name := "in", type := (.object "java/io/InputStream"), accessFlags := 25, slot := 0, constantValue := 0 }, { name := "out", type := (.object "java/io/PrintStream"), accessFlags := 25, slot := 1, constantValue := 0 }, { name := "err", type := (.object "java/io/PrintStream"), accessFlags := 25, slot := 2, constantValue := 0 }, { name := "initialIn", type := (.object "java/io/InputStream"), accessFlags := 10, slot := 3, constantValue := 0 }, { name := "NEVER", type := .int, accessFlags := 26, slot := 4, constantValue := 0 }, { name := "MAYBE", type := .int, accessFlags := 26, slot := 5, constantValue := 0 }, { name := "allowSecurityManager", type := .int, accessFlags := 10, slot := 6, constantValue := 0 }, { name := "security", type := (.object "java/lang/SecurityManager"), accessFlags := 74, slot := 7, constantValue := 0 }, { name := "notSupportedJnuEncoding", type := (.object "java/lang/String"), accessFlags := 10, slot := 8, constantValue := 0 }, { name := "cons", type := (.object "java/io/Console"), accessFlags := 74, slot := 9, constantValue := 0 }, { name := "initialErrStream", type := (.object "java/io/PrintStream"), accessFlags := 74, slot := 10, constantValue := 0 }, { name := "props", type := (.object "java/util/Properties"), accessFlags := 10, slot := 11, constantValue := 0 }, { name := "lineSeparator", type := (.object "java/lang/String"), accessFlags := 10, slot := 12, constantValue := 0 }, { name := "bootLayer", type := (.object "java/lang/ModuleLayer"), accessFlags := 8, slot := 13, constantValue := 0 }]
  methods := #[k9m0, k9m1]
  instanceTypes := #[]
  staticTypes := #[(.object "java/io/InputStream"), (.object "java/io/PrintStream"), (.object "java/io/PrintStream"), (.object "java/io/InputStream"), .int, .int, .int, (.object "java/lang/SecurityManager"), (.object "java/lang/String"), (.object "java/io/Console"), (.object "java/io/PrintStream"), (.object "java/util/Properties"), (.object "java/lang/String"), (.object "java/lang/ModuleLayer")]
  resolved := Array.replicate 834 none
  statics := none }

def pool10 : Array CpInfo := pool [(1, u "java/lang/Cloneable"), (0, .class_ 1), (0, u "java/lang/Object"), (0, .class_ 3)] 3

/-- java/lang/Cloneable -/
def k10 : Class := { plain "java/lang/Cloneable" (some 0) with
  accessFlags := 1537
  interfaces := #[]
  cf := some (fileOf pool10 2 #[] #[] 1537 4 #[] #[])
  fields := #[]
  methods := #[]
  instanceTypes := #[]
  staticTypes := #[]
  resolved := Array.replicate 8 none
  statics := none }

def pool11 : Array CpInfo := pool [(1, u "java/io/Serializable"), (0, .class_ 1), (0, u "java/lang/Object"), (0, .class_ 3)] 3

/-- java/io/Serializable -/
def k11 : Class := { plain "java/io/Serializable" (some 0) with
  accessFlags := 1537
  interfaces := #[]
  cf := some (fileOf pool11 2 #[] #[] 1537 4 #[] #[])
  fields := #[]
  methods := #[]
  instanceTypes := #[]
  staticTypes := #[]
  resolved := Array.replicate 8 none
  statics := none }

/-- the primitive byte -/
def k12 : Class := { plain "byte" none with kind := .primitive 'B', accessFlags := 0x411 }
/-- [B -/
def k13 : Class := { plain "[B" (some 0) with kind := .array 12 .byte, interfaces := #[10, 11], accessFlags := 1041 }

/-- the primitive char -/
def k14 : Class := { plain "char" none with kind := .primitive 'C', accessFlags := 0x411 }
/-- [C -/
def k15 : Class := { plain "[C" (some 0) with kind := .array 14 .char, interfaces := #[10, 11], accessFlags := 1041 }

/-- the primitive int -/
def k16 : Class := { plain "int" none with kind := .primitive 'I', accessFlags := 0x411 }
/-- [I -/
def k17 : Class := { plain "[I" (some 0) with kind := .array 16 .int, interfaces := #[10, 11], accessFlags := 1041 }

def heap : Heap := #[]
def classes : Array Class := #[k0, k1, k2, k3, k4, k5, k6, k7, k8, k9, k10, k11, k12, k13, k14, k15, k16, k17]
def interned : List (Array UInt16 × Addr) := []
def slotsUsed : Nat := 0
def theMethod : MethodId := ⟨1, 1⟩
def args0 : Array Value := #[.int 5, .int 7, .int 7, .int 7]
def aboutOver (below : List Frame) : State where
  vm := { classes := classes, interned := interned.toArray }
  heap := heap
  slotsUsed := slotsUsed
  threads := #[{ frames := .invoking theMethod args0 :: below }]
def below0 : List Frame := [.native { method := ⟨0, 0⟩, args := #[] }]
def about1 : State := aboutOver below0
def p0 : Program := .bare "" "" ""
def e0 : Env := launch0.env 0 0 0
theorem w_frames : about1.frames = Frame.invoking theMethod args0 :: below0 := rfl
set_option maxRecDepth 65536 in
theorem w_args : argsFit about1.vm theMethod args0 = true := by decide +kernel
set_option maxRecDepth 65536 in
theorem w_heap : heapFits about1 = true := by decide +kernel
set_option maxRecDepth 65536 in
theorem w_runnable : about1.curStatus? = some .runnable := by decide +kernel
set_option maxRecDepth 65536 in
theorem w_alone : about1.alone = true := by decide +kernel
set_option maxRecDepth 65536 in
theorem w_named : about1.methodNamed? x = some theMethod := by decide +kernel
set_option maxRecDepth 65536 in
theorem w_hears : about1.hears theMethod below0 = true := by decide +kernel
set_option maxRecDepth 65536 in
theorem w_ripe : about1.ripe theMethod args0 below0 = true := by decide +kernel
theorem w_running : about1.status = .running := rfl
set_option maxRecDepth 65536 in
theorem w_room : about1.hasRoom e0.platform room_1 = true :=
  launch0.hasRoom_least _ room_1 (by decide +kernel) (by decide +kernel) (by decide +kernel) (by decide +kernel) (by decide +kernel) (by decide +kernel)
theorem allAtoms_all (ts : List Jvm.Cond) (a : Array Jvm.Value) (st : Jvm.State) : (allAtoms ts).before a st = ts.all (fun c => c.before a st) := by
  induction ts with
  | nil => rfl
  | cons c t ih =>
    show (Jvm.Cond.and c (allAtoms t)).before a st = _
    rw [Jvm.Cond.before_and, ih, List.all_cons]
def words1 : List Jvm.Cond := Jvm.Cond.code x code maxLocals ret :: tables_1
/-- a 'code' word, met by the world's own term for the bytes: nothing is compared byte by byte -/
theorem code_word {y : MethodName} {bytes : ByteArray} {mx : Nat} {rt : Option FieldType} {a : Array Value} {s : State} {m : MethodId} {meth : Method} {c : Code} (h1 : s.methodNamed? y = some m) (h2 : s.vm.method? m = some meth) (h3 : meth.code = some c) (h4 : c.code = bytes)
    (h5 : (c.maxLocals == mx && c.exceptionTable.isEmpty && decide (c.maxStack ≤ mostOperands) && decide (meth.sig.returnType = rt) && !meth.locks && decide (parseMethodDescriptor y.desc = some meth.sig)) = true) : (Jvm.Cond.code y bytes mx rt).before a s = true := by
  simp only [Bool.and_eq_true, beq_iff_eq, Bool.not_eq_true', decide_eq_true_eq] at h5
  obtain ⟨⟨⟨⟨⟨g1, g2⟩, g3⟩, g4⟩, g5⟩, g6⟩ := h5
  simp [Cond.before, Cond.holds, Cond.value, h1, h2, h3, h4, g1, g2, g3, g4, g5, g6]
def isCode : Jvm.Cond → Bool
  | .code _ _ _ _ => true
  | _ => false
theorem all_split {L : List Jvm.Cond} {P : Jvm.Cond → Bool} (h1 : L.all (fun c => isCode c || P c) = true) (h2 : ∀ c ∈ L.filter isCode, P c = true) : L.all P = true := by
  refine List.all_eq_true.mpr fun c hc => ?_
  have h := List.all_eq_true.mp h1 c hc
  rcases Bool.eq_false_or_eq_true (isCode c) with hi | hi
  · exact h2 c (List.mem_filter.mpr ⟨hc, hi⟩)
  · simpa [hi] using h
set_option maxRecDepth 65536 in
theorem w_c0 : (Jvm.Cond.code x code maxLocals ret).before args0 about1 = true := code_word (m := ⟨1, 1⟩) (meth := k1m1) (c := k1c1) (by decide +kernel) rfl rfl rfl (by decide +kernel)
set_option maxRecDepth 65536 in
theorem w_c1 : (Jvm.Cond.code ({ cls := "descry/read/TextPrefix", name := "<init>", desc := "(I)V" } : Jvm.MethodName) prog_46_method_1_code (2 : Nat) (Option.none : Option Jvm.ClassFile.FieldType)).before args0 about1 = true := code_word (m := ⟨7, 0⟩) (meth := k7m0) (c := k7c0) (by decide +kernel) rfl rfl rfl (by decide +kernel)
set_option maxRecDepth 65536 in
theorem w_c2 : (Jvm.Cond.code ({ cls := "java/io/Writer", name := "<init>", desc := "()V" } : Jvm.MethodName) jdk_2052_method_2_code (1 : Nat) (Option.none : Option Jvm.ClassFile.FieldType)).before args0 about1 = true := code_word (m := ⟨6, 0⟩) (meth := k6m0) (c := k6c0) (by decide +kernel) rfl rfl rfl (by decide +kernel)
set_option maxRecDepth 65536 in
theorem w_c3 : (Jvm.Cond.code ({ cls := "java/lang/Object", name := "<init>", desc := "()V" } : Jvm.MethodName) object_method_1_code (1 : Nat) (Option.none : Option Jvm.ClassFile.FieldType)).before args0 about1 = true := code_word (m := ⟨0, 0⟩) (meth := k0m0) (c := k0c0) (by decide +kernel) rfl rfl rfl (by decide +kernel)
set_option maxRecDepth 65536 in
theorem w_c4 : (Jvm.Cond.code ({ cls := "descry/read/TextPrefix", name := "isEmpty", desc := "()Z" } : Jvm.MethodName) prog_46_method_7_code (1 : Nat) (Option.some Jvm.ClassFile.FieldType.boolean)).before args0 about1 = true := code_word (m := ⟨7, 3⟩) (meth := k7m3) (c := k7c3) (by decide +kernel) rfl rfl rfl (by decide +kernel)
set_option maxRecDepth 65536 in
theorem w_c5 : (Jvm.Cond.code ({ cls := "descry/read/TextPrefix", name := "write", desc := "([CII)V" } : Jvm.MethodName) prog_46_method_3_code (5 : Nat) (Option.none : Option Jvm.ClassFile.FieldType)).before args0 about1 = true := code_word (m := ⟨7, 2⟩) (meth := k7m2) (c := k7c2) (by decide +kernel) rfl rfl rfl (by decide +kernel)
set_option maxRecDepth 65536 in
theorem w_c6 : (Jvm.Cond.code ({ cls := "java/lang/Math", name := "min", desc := "(II)I" } : Jvm.MethodName) jdk_29_method_69_code (2 : Nat) (Option.some Jvm.ClassFile.FieldType.int)).before args0 about1 = true := code_word (m := ⟨8, 1⟩) (meth := k8m1) (c := k8c1) (by decide +kernel) rfl rfl rfl (by decide +kernel)
set_option maxRecDepth 65536 in
theorem w_c7 : (Jvm.Cond.code ({ cls := "descry/read/TextPrefix", name := "clear", desc := "()V" } : Jvm.MethodName) prog_46_method_2_code (1 : Nat) (Option.none : Option Jvm.ClassFile.FieldType)).before args0 about1 = true := code_word (m := ⟨7, 1⟩) (meth := k7m1) (c := k7c1) (by decide +kernel) rfl rfl rfl (by decide +kernel)
def codes1 : List Jvm.Cond := [Jvm.Cond.code x code maxLocals ret, Jvm.Cond.code ({ cls := "descry/read/TextPrefix", name := "<init>", desc := "(I)V" } : Jvm.MethodName) prog_46_method_1_code (2 : Nat) (Option.none : Option Jvm.ClassFile.FieldType), Jvm.Cond.code ({ cls := "java/io/Writer", name := "<init>", desc := "()V" } : Jvm.MethodName) jdk_2052_method_2_code (1 : Nat) (Option.none : Option Jvm.ClassFile.FieldType), Jvm.Cond.code ({ cls := "java/lang/Object", name := "<init>", desc := "()V" } : Jvm.MethodName) object_method_1_code (1 : Nat) (Option.none : Option Jvm.ClassFile.FieldType), Jvm.Cond.code ({ cls := "descry/read/TextPrefix", name := "isEmpty", desc := "()Z" } : Jvm.MethodName) prog_46_method_7_code (1 : Nat) (Option.some Jvm.ClassFile.FieldType.boolean), Jvm.Cond.code ({ cls := "descry/read/TextPrefix", name := "write", desc := "([CII)V" } : Jvm.MethodName) prog_46_method_3_code (5 : Nat) (Option.none : Option Jvm.ClassFile.FieldType), Jvm.Cond.code ({ cls := "java/lang/Math", name := "min", desc := "(II)I" } : Jvm.MethodName) jdk_29_method_69_code (2 : Nat) (Option.some Jvm.ClassFile.FieldType.int), Jvm.Cond.code ({ cls := "descry/read/TextPrefix", name := "clear", desc := "()V" } : Jvm.MethodName) prog_46_method_2_code (1 : Nat) (Option.none : Option Jvm.ClassFile.FieldType)]
set_option maxRecDepth 65536 in
theorem codes_eq : words1.filter isCode = codes1 := rfl
theorem w_codes : ∀ c ∈ words1.filter isCode, c.before args0 about1 = true := by
  rw [codes_eq]
  intro c hc
  simp only [codes1, List.mem_cons, List.not_mem_nil, or_false] at hc
  rcases hc with rfl | rfl | rfl | rfl | rfl | rfl | rfl | rfl
  · exact w_c0
  · exact w_c1
  · exact w_c2
  · exact w_c3
  · exact w_c4
  · exact w_c5
  · exact w_c6
  · exact w_c7
set_option maxRecDepth 65536 in
theorem w_t1 : (words1.take 24).all (fun c => isCode c || c.before args0 about1) = true := by decide +kernel
set_option maxRecDepth 65536 in
theorem w_t2 : (words1.drop 24).all (fun c => isCode c || c.before args0 about1) = true := by decide +kernel
theorem w_tables : (allAtoms (Jvm.Cond.code x code maxLocals ret :: tables_1)).before args0 about1 = true := by
  rw [allAtoms_all]
  show words1.all (fun c => c.before args0 about1) = true
  refine all_split ?_ w_codes
  rw [← List.take_append_drop 24 words1, List.all_append, w_t1, w_t2]
  rfl
set_option maxRecDepth 65536 in
theorem w_case : (Jvm.Cond.and given_1 narrow_1).before args0 about1 = true := by decide +kernel
theorem w_applies : (headSpec (Jvm.Cond.code x code maxLocals ret :: tables_1) room_1).applies x e0.platform about1 = true :=
  (Spec.applies_iff w_frames).mpr ⟨w_running, w_runnable, w_alone, w_named, w_hears, w_ripe, w_room, w_tables⟩
theorem atStart : AtStart classFile x code maxLocals ret World_1 tables_1 room_1 Calls_1 rest_1 Pre_1 launch0 p0 e0 about1 theMethod args0 below0 :=
  ⟨lists_1, trivial, launch0.admits_env _ _ _, launch0.least_env, fairChoices_fair.cas, fairChoices_fair.clock, w_frames, w_args, w_heap, w_applies, trivial, trivial, w_case⟩
end start1
theorem witness_1 : WitnessClaimed_1 := ⟨start1.p0, start1.e0, start1.about1, start1.theMethod, start1.args0, start1.below0, start1.atStart⟩
end Jvm.Pilot.@@N@@
