import JvmDerived
import JvmDerived.Pilot.@@N@@Statement
import JvmDerived.Pilot.@@N@@Code
set_option linter.unusedVariables false
set_option linter.unusedSimpArgs false
namespace Jvm.RoadKit
open Sem ClassFile Op Lib Jvm.Stand Jvm.Free Jvm.LawKit
section New
variable {p : Program} {l : Launch} {e : Env} {R : Room} {s : State} {m : MethodId} {args : Array Value} {below : List Frame} {meth : Method} {c : Code} {T : State} {locs : List Loc} {cells slots : Nat}
theorem retI (X : Stand p l e R s m args below meth c T locs cells slots) (hx : p.tables.exec = Jvm.exec) {pc : Nat} {Ls : Array Slot} {z : Int32} {rest : List Value} (hret : meth.sig.returnType = some .int) (hd : decode c.code pc = .ok (.ireturn, 1)) {fs : List Frame}
    (hl : ∀ (f : JFrame) (acts : List Action), f.method = m → f.locked = none → f.entered = [] → (doReturn e (T.setTop f) acts (some (.int z))).1 = T.setFrames fs) : Steps p.tables e below (T.setTop (mkF m pc Ls (.int z :: rest))) (T.setFrames fs) := by
  have hm' : T.vm.method? m = some meth := X.method'
  have hn : narrow .int (.int z) = .int z := rfl
  show Steps p.tables e below (T.setTop { method := m, pc := pc, locals := Ls, stack := _ :: rest, locked := none }) _
  jvm_step X.here [X.here.top, hx, hd, hm', hret, hn]
  first | (intro acts; rw [hl _ acts rfl rfl rfl]) | rw [hl _ _ rfl rfl rfl]
  exact Steps.refl _
end New
end Jvm.RoadKit
namespace Jvm.Pilot.@@N@@
open Jvm Jvm.ClassFile Sem Op Lib Jvm.Free Jvm.Stand Jvm.LawKit Jvm.RoadKit Bundle Jvm.Pilot.@@N@@.Jvm.D
theorem d2_0 : decode prog_74_method_1_code 0 = .ok (.aload_n 0, 1) := by decide +kernel
theorem d2_1 : decode prog_74_method_1_code 1 = .ok (.invokespecial 1, 3) := by decide +kernel
theorem d2_4 : decode prog_74_method_1_code 4 = .ok (.return_, 1) := by decide +kernel
theorem pn_2 : plainName "runnel/PacedSource" = true := by first | (simp [plainName, overriddenIn]; done) | decide +kernel
theorem ef_2 (m : MethodId) (x0 : Addr) : entryFrame m #[(.ref x0)] 1 = mkF m 0 #[.val (.ref x0)] [] := by first | (simp [entryFrame, mkF, argsToLocals, Value.category]; done) | rfl
def Q2 (Z : State) (a1 : Addr) (h0 : Heap) (n0 : Nat) (v : Option Value) (h : Heap) (L : List Loc) : Prop := v = none ∧ Fr n0 L ∧ h = h0
set_option maxRecDepth 65536 in
set_option maxHeartbeats 40000000 in
theorem rm2 (l : Launch) (Z : State) (a0 : Array Value) (hw : ∀ d ∈ tables_1, d.before a0 Z = true) (ws : List Jvm.Cond) (a1 : Addr) (h0 : Heap) (n0 : Nat) (Z0 : n0 ≤ h0.size) :
    MetFree l (⟨"runnel/PacedSource", "<init>", "()V"⟩ : MethodName) (head1 (Jvm.Cond.code (⟨"runnel/PacedSource", "<init>", "()V"⟩ : MethodName) prog_74_method_1_code 1 none :: ws) ({ frames := 1, cells := 0, slots := 0, locals := 12 } : Room)) (fun a U => a = #[(.ref a1)] ∧ Z.Warmed39 U.vm ∧ U.heap = h0) (fun _ _ _ _ _ => True) (fun _ U o U' => ∃ v L, o = .returned v ∧ Q2 Z a1 h0 n0 v U'.heap L ∧ FrameEnd U o U' L ({ frames := 1, cells := 0, slots := 0, locals := 12 } : Room).cells ({ frames := 1, cells := 0, slots := 0, locals := 12 } : Room).slots) := by
  refine MetFree.of_bodySF (plainFor_of_name pn_2) hisR ?_
  intro p e s m args below meth c s₁ Bd hml0 hP hK
  obtain ⟨rfl, hZ, hh⟩ := hP
  have hx := Bd.exec
  have hby := Bd.bytes
  have hml : c.maxLocals = 1 := hml0
  have hown : s.vm.findClass "runnel/PacedSource" = some m.cls := findClass_of_methodNamed Bd.named
  have hnm := (name_of_methodNamed Bd.named Bd.method).1
  have X0 : Stand p l e ({ frames := 1, cells := 0, slots := 0, locals := 12 } : Room) s m #[(.ref a1)] below meth c s₁ [] 0 0 := Stand.of_body Bd
  have e0 : s₁.heap = h0 := by rw [← hh, Bd.state]; rfl
  have N0 := Fr.nil n0
  have pre0 : ∀ t, Steps p.tables e below (s₁.setTop (mkF m 0 #[.val (.ref a1)] [])) t → Steps p.tables e below (s₁.setTop (entryFrame m #[(.ref a1)] 1)) t := fun t k => castTop (ef_2 m a1) k
  obtain ⟨T2, X2, e2, st2⟩ := initO X0 hx hZ hown (hw _ (List.mem_of_getElem? (i := 11) rfl)) (hw _ (List.mem_of_getElem? (i := 12) rfl)) (hw _ (List.mem_of_getElem? (i := 13) rfl)) e0 (g := (mkF m 1 #[.val (.ref a1)] [(.ref a1)])) rfl (by rw [hml]; rfl) rfl (hb hby d2_1) (by decide) (W := 0) (by show 2 * 0 + _ ≤ _; exact Nat.le_of_eq rfl) (by decide)
  obtain ⟨fs, hr, hrun, hended, hW, hsame⟩ := X2.leave (v := none) (fun _ => rfl)
  refine ⟨_, _, pre0 _ ?_, hrun, hended, _, _, rfl, ?_, ⟨_, rfl⟩, hW, hsame.mono (by decide) (by decide)⟩
  · show Steps p.tables e below (s₁.setTop (mkF m 0 #[.val (.ref a1)] [])) _
    refine XS.aloadN X0.here hx rfl (hb hby d2_0) rfl rfl ?_
    show Steps p.tables e below (s₁.setTop (mkF m 1 #[.val (.ref a1)] [(.ref a1)])) _
    refine st2 _ ?_
    show Steps p.tables e below (T2.setTop (mkF m 4 #[.val (.ref a1)] [])) _
    exact X2.returnOut hx Bd.returns (hb hby d2_4) hr
  · show Q2 Z a1 h0 n0 _ T2.heap _
    rw [e2]
    exact ⟨rfl, N0, rfl⟩
theorem d1_0 : decode prog_85_method_1_code 0 = .ok (.aload_n 0, 1) := by decide +kernel
theorem d1_1 : decode prog_85_method_1_code 1 = .ok (.invokespecial 1, 3) := by decide +kernel
theorem d1_4 : decode prog_85_method_1_code 4 = .ok (.aload_n 0, 1) := by decide +kernel
theorem d1_5 : decode prog_85_method_1_code 5 = .ok (.lload_n 1, 1) := by decide +kernel
theorem d1_6 : decode prog_85_method_1_code 6 = .ok (.putfield 7, 3) := by decide +kernel
theorem d1_9 : decode prog_85_method_1_code 9 = .ok (.aload_n 0, 1) := by decide +kernel
theorem d1_10 : decode prog_85_method_1_code 10 = .ok (.lload_n 3, 1) := by decide +kernel
theorem d1_11 : decode prog_85_method_1_code 11 = .ok (.putfield 13, 3) := by decide +kernel
theorem d1_14 : decode prog_85_method_1_code 14 = .ok (.return_, 1) := by decide +kernel
theorem pn_1 : plainName "runnel/RangeSource" = true := by first | (simp [plainName, overriddenIn]; done) | decide +kernel
theorem pd_1_1 : parseMethodDescriptor "()V" = some ⟨[], none⟩ := by decide +kernel
theorem ef_1 (m : MethodId) (x0 : Addr) (x1 : Int64) (x2 : Int64) : entryFrame m #[(.ref x0), (.long x1), (.long x2)] 5 = mkF m 0 #[.val (.ref x0), .val (.long x1), .second, .val (.long x2), .second] [] := by first | (simp [entryFrame, mkF, argsToLocals, Value.category]; done) | rfl
def Q1 (Z : State) (a1 : Addr) (q2 : Int64) (q3 : Int64) (u_next_a1 : Value) (u_end_a1 : Value) (h0 : Heap) (n0 : Nat) (v : Option Value) (h : Heap) (L : List Loc) : Prop := v = none ∧ Fr n0 L ∧ Keep h0 h [a1] ∧ Exa Z h a1 "runnel/RangeSource" ∧ Fld Z h a1 "runnel/RangeSource" "next" "J" (.long q2) ∧ Fld Z h a1 "runnel/RangeSource" "end" "J" (.long q3)
set_option maxRecDepth 65536 in
set_option maxHeartbeats 40000000 in
theorem rm1 (l : Launch) (Z : State) (a0 : Array Value) (hw : ∀ d ∈ tables_1, d.before a0 Z = true) (ws : List Jvm.Cond) (a1 : Addr) (q2 : Int64) (q3 : Int64) (u_next_a1 : Value) (u_end_a1 : Value) (h0 : Heap) (n0 : Nat) (Z0 : n0 ≤ h0.size) (E_a1 : Exa Z h0 a1 "runnel/RangeSource") (F_next_a1 : Fld Z h0 a1 "runnel/RangeSource" "next" "J" u_next_a1) (g_a1 : n0 ≤ a1) (F_end_a1 : Fld Z h0 a1 "runnel/RangeSource" "end" "J" u_end_a1) :
    MetFree l (⟨"runnel/RangeSource", "<init>", "(JJ)V"⟩ : MethodName) (head1 (Jvm.Cond.code (⟨"runnel/RangeSource", "<init>", "(JJ)V"⟩ : MethodName) prog_85_method_1_code 5 none :: ws) ({ frames := 2, cells := 0, slots := 0, locals := 24 } : Room)) (fun a U => a = #[(.ref a1), (.long q2), (.long q3)] ∧ Z.Warmed39 U.vm ∧ U.heap = h0) (fun _ _ _ _ _ => True) (fun _ U o U' => ∃ v L, o = .returned v ∧ Q1 Z a1 q2 q3 u_next_a1 u_end_a1 h0 n0 v U'.heap L ∧ FrameEnd U o U' L ({ frames := 2, cells := 0, slots := 0, locals := 24 } : Room).cells ({ frames := 2, cells := 0, slots := 0, locals := 24 } : Room).slots) := by
  refine MetFree.of_bodySF (plainFor_of_name pn_1) hisR ?_
  intro p e s m args below meth c s₁ Bd hml0 hP hK
  obtain ⟨rfl, hZ, hh⟩ := hP
  have hx := Bd.exec
  have hby := Bd.bytes
  have hml : c.maxLocals = 5 := hml0
  have hown : s.vm.findClass "runnel/RangeSource" = some m.cls := findClass_of_methodNamed Bd.named
  have hnm := (name_of_methodNamed Bd.named Bd.method).1
  have X0 : Stand p l e ({ frames := 2, cells := 0, slots := 0, locals := 24 } : Room) s m #[(.ref a1), (.long q2), (.long q3)] below meth c s₁ [] 0 0 := Stand.of_body Bd
  have e0 : s₁.heap = h0 := by rw [← hh, Bd.state]; rfl
  have N0 := Fr.nil n0
  have pre0 : ∀ t, Steps p.tables e below (s₁.setTop (mkF m 0 #[.val (.ref a1), .val (.long q2), .second, .val (.long q3), .second] [])) t → Steps p.tables e below (s₁.setTop (entryFrame m #[(.ref a1), (.long q2), (.long q3)] 5)) t := fun t k => castTop (ef_1 m a1 q2 q3) k
  obtain ⟨_, _, ⟨T4, L4, k4, n4⟩, -, X4, ⟨Lc4, hQ4, l4, y4, z4⟩, st4⟩ := X0.specialBack hx (y := (⟨"runnel/PacedSource", "<init>", "()V"⟩ : MethodName)) rfl hown (mvT hZ (hw _ (List.mem_of_getElem? (i := 6) rfl))) (mvT hZ (hw _ (List.mem_of_getElem? (i := 7) rfl))) (mvT hZ (hw _ (List.mem_of_getElem? (i := 10) rfl))) (by decide) (backOf (W := 0) (rm2 l Z a0 hw [] a1 h0 n0 Z0) hZ (hw _ (List.mem_of_getElem? (i := 10) rfl)) (hw _ (List.mem_of_getElem? (i := 9) rfl)) (by decide) (by decide)) (g := (mkF m 1 #[.val (.ref a1), .val (.long q2), .second, .val (.long q3), .second] [(.ref a1)])) rfl (by rw [hml]; rfl) (Steps.refl _) (a := a1) (argsL := []) (rest := []) (lenOf pd_1_1 rfl) rfl (by show 2 * 0 + _ ≤ _; exact Nat.le_of_eq rfl) (hb hby d1_1) (fun _ _ => ⟨rfl, e0, (by decide : 0 + 0 ≤ _), (by decide : 0 + 0 ≤ _)⟩)
  dsimp only [Pt.U, Pt.locs, Pt.cells, Pt.slots] at X4 l4 y4 z4 st4 hQ4
  subst l4 y4 z4
  obtain ⟨rfl, N4q, e4⟩ := hQ4
  have N4 := Fr.app N0 N4q
  have K4 : Keep h0 T4.heap [] := by rw [e4]; exact Keep.refl _ _
  have K4a : Keep h0 T4.heap [a1] := by rw [e4]; exact Keep.refl _ _
  obtain ⟨T5, h5, X5, e5, W5, st5⟩ := putF X4 hx hZ hown (host := "") (Or.inl (hw _ (List.mem_of_getElem? (i := 14) rfl))) Via.refl rfl (F_next_a1.keep K4 nin0) (E_a1.keep K4) (Or.inl (hw _ (List.mem_of_getElem? (i := 15) rfl))) (hw _ (List.mem_of_getElem? (i := 1) rfl)) (ty := .long) (by decide) rfl rfl (g := (mkF m 6 #[.val (.ref a1), .val (.long q2), .second, .val (.long q3), .second] [(.long q2), (.ref a1)])) rfl rfl (hb hby d1_6)
  have Fw5 := (F_next_a1.keep K4 nin0).same W5
  have K5 : Keep h0 h5 [a1] := K4a.wr W5 (Or.inl (List.mem_of_getElem? (i := 0) rfl))
  have N5 := Fr.snoc X5 N4 g_a1
  obtain ⟨T6, h6, X6, e6, W6, st6⟩ := putF X5 hx hZ hown (host := "") (Or.inl (hw _ (List.mem_of_getElem? (i := 16) rfl))) Via.refl e5 ((F_end_a1.keep K4 nin0).other W5 (Or.inr (slot_ne (Or.inr (hw _ (List.mem_of_getElem? (i := 17) rfl))) (Or.inl (hw _ (List.mem_of_getElem? (i := 15) rfl))) (by decide) (t := .long) (t' := .long) (by decide) (by decide)))) ((E_a1.keep K4).wr W5) (Or.inr ⟨(hw _ (List.mem_of_getElem? (i := 17) rfl)), rfl, hnm⟩) (hw _ (List.mem_of_getElem? (i := 1) rfl)) (ty := .long) (by decide) rfl rfl (g := (mkF m 11 #[.val (.ref a1), .val (.long q2), .second, .val (.long q3), .second] [(.long q3), (.ref a1)])) rfl rfl (hb hby d1_11)
  have Fw6 := ((F_end_a1.keep K4 nin0).other W5 (Or.inr (slot_ne (Or.inr (hw _ (List.mem_of_getElem? (i := 17) rfl))) (Or.inl (hw _ (List.mem_of_getElem? (i := 15) rfl))) (by decide) (t := .long) (t' := .long) (by decide) (by decide)))).same W6
  have K6 : Keep h0 h6 [a1] := K5.wr W6 (Or.inl (List.mem_of_getElem? (i := 0) rfl))
  have N6 := Fr.snoc X6 N5 g_a1
  obtain ⟨fs, hr, hrun, hended, hW, hsame⟩ := X6.leave (v := none) (fun _ => rfl)
  refine ⟨_, _, pre0 _ ?_, hrun, hended, _, _, rfl, ?_, ⟨_, rfl⟩, hW, hsame.mono (by decide) (by decide)⟩
  · show Steps p.tables e below (s₁.setTop (mkF m 0 #[.val (.ref a1), .val (.long q2), .second, .val (.long q3), .second] [])) _
    refine XS.aloadN X0.here hx rfl (hb hby d1_0) rfl rfl ?_
    show Steps p.tables e below (s₁.setTop (mkF m 1 #[.val (.ref a1), .val (.long q2), .second, .val (.long q3), .second] [(.ref a1)])) _
    refine st4.trans ?_
    show Steps p.tables e below (T4.setTop (mkF m 4 #[.val (.ref a1), .val (.long q2), .second, .val (.long q3), .second] [])) _
    refine XS.aloadN X4.here hx rfl (hb hby d1_4) rfl rfl ?_
    show Steps p.tables e below (T4.setTop (mkF m 5 #[.val (.ref a1), .val (.long q2), .second, .val (.long q3), .second] [(.ref a1)])) _
    refine XS.lloadN X4.here hx rfl (hb hby d1_5) rfl ?_
    show Steps p.tables e below (T4.setTop (mkF m 6 #[.val (.ref a1), .val (.long q2), .second, .val (.long q3), .second] [(.long q2), (.ref a1)])) _
    refine st5 _ ?_
    show Steps p.tables e below (T5.setTop (mkF m 9 #[.val (.ref a1), .val (.long q2), .second, .val (.long q3), .second] [])) _
    refine XS.aloadN X5.here hx rfl (hb hby d1_9) rfl rfl ?_
    show Steps p.tables e below (T5.setTop (mkF m 10 #[.val (.ref a1), .val (.long q2), .second, .val (.long q3), .second] [(.ref a1)])) _
    refine XS.lloadN X5.here hx rfl (hb hby d1_10) rfl ?_
    show Steps p.tables e below (T5.setTop (mkF m 11 #[.val (.ref a1), .val (.long q2), .second, .val (.long q3), .second] [(.long q3), (.ref a1)])) _
    refine st6 _ ?_
    show Steps p.tables e below (T6.setTop (mkF m 14 #[.val (.ref a1), .val (.long q2), .second, .val (.long q3), .second] [])) _
    exact X6.returnOut hx Bd.returns (hb hby d1_14) hr
  · show Q1 Z a1 q2 q3 u_next_a1 u_end_a1 h0 n0 _ T6.heap _
    rw [e6]
    exact ⟨rfl, N6, K6, ((E_a1.keep K4).wr W5).wr W6, Fw5.other W6 (Or.inr (slot_ne (Or.inl (hw _ (List.mem_of_getElem? (i := 15) rfl))) (Or.inr (hw _ (List.mem_of_getElem? (i := 17) rfl))) (by decide) (t := .long) (t' := .long) (by decide) (by decide))), Fw6⟩
def own_est (f t : Int64) : Int64 := if t - f < 0 then 9223372036854775807 else t - f
theorem d4_0 : decode prog_85_method_5_code 0 = .ok (.aload_n 0, 1) := by decide +kernel
theorem d4_1 : decode prog_85_method_5_code 1 = .ok (.getfield 13, 3) := by decide +kernel
theorem d4_4 : decode prog_85_method_5_code 4 = .ok (.aload_n 0, 1) := by decide +kernel
theorem d4_5 : decode prog_85_method_5_code 5 = .ok (.getfield 7, 3) := by decide +kernel
theorem d4_8 : decode prog_85_method_5_code 8 = .ok (.lsub, 1) := by decide +kernel
theorem d4_9 : decode prog_85_method_5_code 9 = .ok (.lstore_n 1, 1) := by decide +kernel
theorem d4_10 : decode prog_85_method_5_code 10 = .ok (.lload_n 1, 1) := by decide +kernel
theorem d4_11 : decode prog_85_method_5_code 11 = .ok (.lconst 0, 1) := by decide +kernel
theorem d4_12 : decode prog_85_method_5_code 12 = .ok (.lcmp, 1) := by decide +kernel
theorem d4_13 : decode prog_85_method_5_code 13 = .ok (.ifCond .ge 9, 3) := by decide +kernel
theorem d4_22 : decode prog_85_method_5_code 22 = .ok (.lload_n 1, 1) := by decide +kernel
theorem d4_23 : decode prog_85_method_5_code 23 = .ok (.lreturn, 1) := by decide +kernel
theorem pn_4 : plainName "runnel/RangeSource" = true := by first | (simp [plainName, overriddenIn]; done) | decide +kernel
theorem ef_4 (m : MethodId) (x0 : Addr) : entryFrame m #[(.ref x0)] 3 = mkF m 0 #[.val (.ref x0), .unset, .unset] [] := by first | (simp [entryFrame, mkF, argsToLocals, Value.category]; done) | rfl
def Q4 (Z : State) (a1 : Addr) (w2 : Int64) (w4 : Int64) (h0 : Heap) (n0 : Nat) (v : Option Value) (h : Heap) (L : List Loc) : Prop := v = some (.long (own_est w4 w2)) ∧ Fr n0 L ∧ h = h0
set_option maxRecDepth 65536 in
set_option maxHeartbeats 40000000 in
theorem rm4_t (l : Launch) (Z : State) (a0 : Array Value) (hw : ∀ d ∈ tables_1, d.before a0 Z = true) (ws : List Jvm.Cond) (a1 : Addr) (w2 : Int64) (w4 : Int64) (h0 : Heap) (n0 : Nat) (Z0 : n0 ≤ h0.size) (F_end_a1 : Fld Z h0 a1 "runnel/RangeSource" "end" "J" (.long w2)) (F_next_a1 : Fld Z h0 a1 "runnel/RangeSource" "next" "J" (.long w4)) (hc13 : ¬ ((lcmpW (w2 - w4) (0 : Int64)) < (0 : Int32))) :
    MetFree l (⟨"runnel/RangeSource", "estimatedSize", "()J"⟩ : MethodName) (head1 (Jvm.Cond.code (⟨"runnel/RangeSource", "estimatedSize", "()J"⟩ : MethodName) prog_85_method_5_code 3 (some .long) :: ws) ({ frames := 0, cells := 0, slots := 0, locals := 0 } : Room)) (fun a U => a = #[(.ref a1)] ∧ Z.Warmed39 U.vm ∧ U.heap = h0) (fun _ _ _ _ _ => True) (fun _ U o U' => ∃ v L, o = .returned v ∧ Q4 Z a1 w2 w4 h0 n0 v U'.heap L ∧ FrameEnd U o U' L ({ frames := 0, cells := 0, slots := 0, locals := 0 } : Room).cells ({ frames := 0, cells := 0, slots := 0, locals := 0 } : Room).slots) := by
  refine MetFree.of_bodySF (plainFor_of_name pn_4) hisR ?_
  intro p e s m args below meth c s₁ Bd hml0 hP hK
  obtain ⟨rfl, hZ, hh⟩ := hP
  have hx := Bd.exec
  have hby := Bd.bytes
  have hml : c.maxLocals = 3 := hml0
  have hown : s.vm.findClass "runnel/RangeSource" = some m.cls := findClass_of_methodNamed Bd.named
  have hnm := (name_of_methodNamed Bd.named Bd.method).1
  have X0 : Stand p l e ({ frames := 0, cells := 0, slots := 0, locals := 0 } : Room) s m #[(.ref a1)] below meth c s₁ [] 0 0 := Stand.of_body Bd
  have e0 : s₁.heap = h0 := by rw [← hh, Bd.state]; rfl
  have N0 := Fr.nil n0
  have pre0 : ∀ t, Steps p.tables e below (s₁.setTop (mkF m 0 #[.val (.ref a1), .unset, .unset] [])) t → Steps p.tables e below (s₁.setTop (entryFrame m #[(.ref a1)] 3)) t := fun t k => castTop (ef_4 m a1) k
  obtain ⟨T3, X3, e3, st3⟩ := getF X0 hx hZ hown (host := "") (Or.inl (hw _ (List.mem_of_getElem? (i := 16) rfl))) Via.refl e0 F_end_a1 (g := (mkF m 1 #[.val (.ref a1), .unset, .unset] [(.ref a1)])) rfl rfl (hb hby d4_1)
  obtain ⟨T5, X5, e5, st5⟩ := getF X3 hx hZ hown (host := "") (Or.inl (hw _ (List.mem_of_getElem? (i := 14) rfl))) Via.refl e3 F_next_a1 (g := (mkF m 5 #[.val (.ref a1), .unset, .unset] [(.ref a1), (.long w2)])) rfl rfl (hb hby d4_5)
  obtain ⟨fs, hr, hrun, hended, hW, hsame⟩ := X5.leave (v := some (.long (w2 - w4))) (fun h => by rw [Bd.returns] at h; cases h)
  refine ⟨_, _, pre0 _ ?_, hrun, hended, _, _, rfl, ?_, ⟨_, rfl⟩, hW, hsame.mono (by decide) (by decide)⟩
  · show Steps p.tables e below (s₁.setTop (mkF m 0 #[.val (.ref a1), .unset, .unset] [])) _
    refine XS.aloadN X0.here hx rfl (hb hby d4_0) rfl rfl ?_
    show Steps p.tables e below (s₁.setTop (mkF m 1 #[.val (.ref a1), .unset, .unset] [(.ref a1)])) _
    refine st3 _ ?_
    show Steps p.tables e below (T3.setTop (mkF m 4 #[.val (.ref a1), .unset, .unset] [(.long w2)])) _
    refine XS.aloadN X3.here hx rfl (hb hby d4_4) rfl rfl ?_
    show Steps p.tables e below (T3.setTop (mkF m 5 #[.val (.ref a1), .unset, .unset] [(.ref a1), (.long w2)])) _
    refine st5 _ ?_
    show Steps p.tables e below (T5.setTop (mkF m 8 #[.val (.ref a1), .unset, .unset] [(.long w4), (.long w2)])) _
    refine XS.lsub X5.here hx rfl (hb hby d4_8) rfl ?_
    show Steps p.tables e below (T5.setTop (mkF m 9 #[.val (.ref a1), .unset, .unset] [(.long (w2 - w4))])) _
    refine XS.lstoreN X5.here hx rfl (hb hby d4_9) rfl (l' := #[.val (.ref a1), .val (.long (w2 - w4)), .second]) rfl ?_
    show Steps p.tables e below (T5.setTop (mkF m 10 #[.val (.ref a1), .val (.long (w2 - w4)), .second] [])) _
    refine XS.lloadN X5.here hx rfl (hb hby d4_10) rfl ?_
    show Steps p.tables e below (T5.setTop (mkF m 11 #[.val (.ref a1), .val (.long (w2 - w4)), .second] [(.long (w2 - w4))])) _
    refine XS.lconst X5.here hx rfl (hb hby d4_11) ?_
    show Steps p.tables e below (T5.setTop (mkF m 12 #[.val (.ref a1), .val (.long (w2 - w4)), .second] [(.long (0 : Int64)), (.long (w2 - w4))])) _
    refine XS.lcmp X5.here hx rfl (hb hby d4_12) rfl ?_
    show Steps p.tables e below (T5.setTop (mkF m 13 #[.val (.ref a1), .val (.long (w2 - w4)), .second] [(.int (lcmpW (w2 - w4) (0 : Int64)))])) _
    refine XS.ifYes X5.here hx rfl (pc0 := 13) (pc' := 22) rfl (hb hby d4_13) rfl ((if0 _ _).trans (flt hc13).2.1) (by decide) (by decide) ?_
    show Steps p.tables e below (T5.setTop (mkF m 22 #[.val (.ref a1), .val (.long (w2 - w4)), .second] [])) _
    refine XS.lloadN X5.here hx rfl (hb hby d4_22) rfl ?_
    show Steps p.tables e below (T5.setTop (mkF m 23 #[.val (.ref a1), .val (.long (w2 - w4)), .second] [(.long (w2 - w4))])) _
    jvm_step X5.here [X5.here.top, hx, (hb hby d4_23), X5.method', Bd.returns, narrow]
    first | (intro acts; rw [hr _ acts rfl rfl rfl]) | rw [hr _ _ rfl rfl rfl]
    exact Steps.refl _
  · show Q4 Z a1 w2 w4 h0 n0 _ T5.heap _
    rw [e5]
    exact ⟨by rw [own_est, if_neg (fun h => hc13 ((lw_lt _ _).mpr h))], N0, rfl⟩
theorem d4_16 : decode prog_85_method_5_code 16 = .ok (.ldc2_w 37, 3) := by decide +kernel
theorem d4_19 : decode prog_85_method_5_code 19 = .ok (.goto 4, 3) := by decide +kernel
set_option maxRecDepth 65536 in
set_option maxHeartbeats 40000000 in
theorem rm4_f (l : Launch) (Z : State) (a0 : Array Value) (hw : ∀ d ∈ tables_1, d.before a0 Z = true) (ws : List Jvm.Cond) (a1 : Addr) (w2 : Int64) (w4 : Int64) (h0 : Heap) (n0 : Nat) (Z0 : n0 ≤ h0.size) (F_end_a1 : Fld Z h0 a1 "runnel/RangeSource" "end" "J" (.long w2)) (F_next_a1 : Fld Z h0 a1 "runnel/RangeSource" "next" "J" (.long w4)) (hc13 : (lcmpW (w2 - w4) (0 : Int64)) < (0 : Int32)) :
    MetFree l (⟨"runnel/RangeSource", "estimatedSize", "()J"⟩ : MethodName) (head1 (Jvm.Cond.code (⟨"runnel/RangeSource", "estimatedSize", "()J"⟩ : MethodName) prog_85_method_5_code 3 (some .long) :: ws) ({ frames := 0, cells := 0, slots := 0, locals := 0 } : Room)) (fun a U => a = #[(.ref a1)] ∧ Z.Warmed39 U.vm ∧ U.heap = h0) (fun _ _ _ _ _ => True) (fun _ U o U' => ∃ v L, o = .returned v ∧ Q4 Z a1 w2 w4 h0 n0 v U'.heap L ∧ FrameEnd U o U' L ({ frames := 0, cells := 0, slots := 0, locals := 0 } : Room).cells ({ frames := 0, cells := 0, slots := 0, locals := 0 } : Room).slots) := by
  refine MetFree.of_bodySF (plainFor_of_name pn_4) hisR ?_
  intro p e s m args below meth c s₁ Bd hml0 hP hK
  obtain ⟨rfl, hZ, hh⟩ := hP
  have hx := Bd.exec
  have hby := Bd.bytes
  have hml : c.maxLocals = 3 := hml0
  have hown : s.vm.findClass "runnel/RangeSource" = some m.cls := findClass_of_methodNamed Bd.named
  have hnm := (name_of_methodNamed Bd.named Bd.method).1
  have X0 : Stand p l e ({ frames := 0, cells := 0, slots := 0, locals := 0 } : Room) s m #[(.ref a1)] below meth c s₁ [] 0 0 := Stand.of_body Bd
  have e0 : s₁.heap = h0 := by rw [← hh, Bd.state]; rfl
  have N0 := Fr.nil n0
  have pre0 : ∀ t, Steps p.tables e below (s₁.setTop (mkF m 0 #[.val (.ref a1), .unset, .unset] [])) t → Steps p.tables e below (s₁.setTop (entryFrame m #[(.ref a1)] 3)) t := fun t k => castTop (ef_4 m a1) k
  obtain ⟨T3, X3, e3, st3⟩ := getF X0 hx hZ hown (host := "") (Or.inl (hw _ (List.mem_of_getElem? (i := 16) rfl))) Via.refl e0 F_end_a1 (g := (mkF m 1 #[.val (.ref a1), .unset, .unset] [(.ref a1)])) rfl rfl (hb hby d4_1)
  obtain ⟨T5, X5, e5, st5⟩ := getF X3 hx hZ hown (host := "") (Or.inl (hw _ (List.mem_of_getElem? (i := 14) rfl))) Via.refl e3 F_next_a1 (g := (mkF m 5 #[.val (.ref a1), .unset, .unset] [(.ref a1), (.long w2)])) rfl rfl (hb hby d4_5)
  obtain ⟨fs, hr, hrun, hended, hW, hsame⟩ := X5.leave (v := some (.long (9223372036854775807 : Int64))) (fun h => by rw [Bd.returns] at h; cases h)
  refine ⟨_, _, pre0 _ ?_, hrun, hended, _, _, rfl, ?_, ⟨_, rfl⟩, hW, hsame.mono (by decide) (by decide)⟩
  · show Steps p.tables e below (s₁.setTop (mkF m 0 #[.val (.ref a1), .unset, .unset] [])) _
    refine XS.aloadN X0.here hx rfl (hb hby d4_0) rfl rfl ?_
    show Steps p.tables e below (s₁.setTop (mkF m 1 #[.val (.ref a1), .unset, .unset] [(.ref a1)])) _
    refine st3 _ ?_
    show Steps p.tables e below (T3.setTop (mkF m 4 #[.val (.ref a1), .unset, .unset] [(.long w2)])) _
    refine XS.aloadN X3.here hx rfl (hb hby d4_4) rfl rfl ?_
    show Steps p.tables e below (T3.setTop (mkF m 5 #[.val (.ref a1), .unset, .unset] [(.ref a1), (.long w2)])) _
    refine st5 _ ?_
    show Steps p.tables e below (T5.setTop (mkF m 8 #[.val (.ref a1), .unset, .unset] [(.long w4), (.long w2)])) _
    refine XS.lsub X5.here hx rfl (hb hby d4_8) rfl ?_
    show Steps p.tables e below (T5.setTop (mkF m 9 #[.val (.ref a1), .unset, .unset] [(.long (w2 - w4))])) _
    refine XS.lstoreN X5.here hx rfl (hb hby d4_9) rfl (l' := #[.val (.ref a1), .val (.long (w2 - w4)), .second]) rfl ?_
    show Steps p.tables e below (T5.setTop (mkF m 10 #[.val (.ref a1), .val (.long (w2 - w4)), .second] [])) _
    refine XS.lloadN X5.here hx rfl (hb hby d4_10) rfl ?_
    show Steps p.tables e below (T5.setTop (mkF m 11 #[.val (.ref a1), .val (.long (w2 - w4)), .second] [(.long (w2 - w4))])) _
    refine XS.lconst X5.here hx rfl (hb hby d4_11) ?_
    show Steps p.tables e below (T5.setTop (mkF m 12 #[.val (.ref a1), .val (.long (w2 - w4)), .second] [(.long (0 : Int64)), (.long (w2 - w4))])) _
    refine XS.lcmp X5.here hx rfl (hb hby d4_12) rfl ?_
    show Steps p.tables e below (T5.setTop (mkF m 13 #[.val (.ref a1), .val (.long (w2 - w4)), .second] [(.int (lcmpW (w2 - w4) (0 : Int64)))])) _
    refine XS.ifNo X5.here hx rfl (hb hby d4_13) rfl ((if0 _ _).trans (tlt hc13).2.1) ?_
    show Steps p.tables e below (T5.setTop (mkF m 16 #[.val (.ref a1), .val (.long (w2 - w4)), .second] [])) _
    refine X5.ldc2Long hx hown (mvT hZ (hw _ (List.mem_of_getElem? (i := 23) rfl))) (g := (mkF m 16 #[.val (.ref a1), .val (.long (w2 - w4)), .second] [])) rfl (hb hby d4_16) _ ?_
    show Steps p.tables e below (T5.setTop (mkF m 19 #[.val (.ref a1), .val (.long (w2 - w4)), .second] [(.long (9223372036854775807 : Int64))])) _
    refine XS.goto X5.here hx rfl (pc0 := 19) (pc' := 23) rfl (hb hby d4_19) (by decide) (by decide) ?_
    show Steps p.tables e below (T5.setTop (mkF m 23 #[.val (.ref a1), .val (.long (w2 - w4)), .second] [(.long (9223372036854775807 : Int64))])) _
    jvm_step X5.here [X5.here.top, hx, (hb hby d4_23), X5.method', Bd.returns, narrow]
    first | (intro acts; rw [hr _ acts rfl rfl rfl]) | rw [hr _ _ rfl rfl rfl]
    exact Steps.refl _
  · show Q4 Z a1 w2 w4 h0 n0 _ T5.heap _
    rw [e5]
    exact ⟨by rw [own_est, if_pos ((lw_lt _ _).mp hc13)], N0, rfl⟩
theorem rm4 (l : Launch) (Z : State) (a0 : Array Value) (hw : ∀ d ∈ tables_1, d.before a0 Z = true) (ws : List Jvm.Cond) (a1 : Addr) (w2 : Int64) (w4 : Int64) (h0 : Heap) (n0 : Nat) (Z0 : n0 ≤ h0.size) (F_end_a1 : Fld Z h0 a1 "runnel/RangeSource" "end" "J" (.long w2)) (F_next_a1 : Fld Z h0 a1 "runnel/RangeSource" "next" "J" (.long w4)) :
    MetFree l (⟨"runnel/RangeSource", "estimatedSize", "()J"⟩ : MethodName) (head1 (Jvm.Cond.code (⟨"runnel/RangeSource", "estimatedSize", "()J"⟩ : MethodName) prog_85_method_5_code 3 (some .long) :: ws) ({ frames := 0, cells := 0, slots := 0, locals := 0 } : Room)) (fun a U => a = #[(.ref a1)] ∧ Z.Warmed39 U.vm ∧ U.heap = h0) (fun _ _ _ _ _ => True) (fun _ U o U' => ∃ v L, o = .returned v ∧ Q4 Z a1 w2 w4 h0 n0 v U'.heap L ∧ FrameEnd U o U' L ({ frames := 0, cells := 0, slots := 0, locals := 0 } : Room).cells ({ frames := 0, cells := 0, slots := 0, locals := 0 } : Room).slots) := by
  by_cases hc : (lcmpW (w2 - w4) (0 : Int64)) < (0 : Int32)
  · exact rm4_f l Z a0 hw ws a1 w2 w4 h0 n0 Z0 F_end_a1 F_next_a1 hc
  · exact rm4_t l Z a0 hw ws a1 w2 w4 h0 n0 Z0 F_end_a1 F_next_a1 hc
theorem d5_18 : decode method_2_code 18 = .ok (.lload 4, 2) := by decide +kernel
theorem d5_20 : decode method_2_code 20 = .ok (.lconst 0, 1) := by decide +kernel
theorem d5_21 : decode method_2_code 21 = .ok (.lcmp, 1) := by decide +kernel
theorem d5_22 : decode method_2_code 22 = .ok (.ifCond .gt 17, 3) := by decide +kernel
theorem d5_39 : decode method_2_code 39 = .ok (.iconst 1, 1) := by decide +kernel
theorem d5_40 : decode method_2_code 40 = .ok (.goto 4, 3) := by decide +kernel
set_option maxRecDepth 65536 in
set_option maxHeartbeats 40000000 in
theorem own_s1_t {p : Program} {l : Launch} {e : Env} {R : Room} {s : State} {m : MethodId} {args : Array Value} {below : List Frame} {meth : Method} {c : Code} {T0 : State} {locs : List Loc} {cells slots : Nat} {Z : State} {a0 : Array Value} {s0 : Slot} {s1 : Slot} {s2 : Slot} {s3 : Slot} {j4 : Int64} {s6 : Slot} {s7 : Slot} {s8 : Slot} {s9 : Slot} {s10 : Slot}
    (X0 : Stand p l e R s m args below meth c T0 locs cells slots) (hx : p.tables.exec = Jvm.exec) (hZ : Z.Warmed39 s.vm) (hw : ∀ d ∈ tables_1, d.before a0 Z = true) (hby : c.code = method_2_code) (hml : c.maxLocals = 11) (hown : s.vm.findClass "runnel/RangeSourceEstimatedSizePinLaw" = some m.cls) (hc22 : (0 : Int32) < (lcmpW j4 (0 : Int64))) :
      ∀ target, Steps p.tables e below (T0.setTop (mkF m 44 #[s0, s1, s2, s3, .val (.long j4), .second, s6, s7, s8, s9, s10] [(.int (1 : Int32))])) target → Steps p.tables e below (T0.setTop (mkF m 18 #[s0, s1, s2, s3, .val (.long j4), .second, s6, s7, s8, s9, s10] [])) target := by

  intro target kt
  show Steps p.tables e below (T0.setTop (mkF m 18 #[s0, s1, s2, s3, .val (.long j4), .second, s6, s7, s8, s9, s10] [])) _
  refine XS.lload X0.here hx rfl (hb hby d5_18) rfl ?_
  show Steps p.tables e below (T0.setTop (mkF m 20 #[s0, s1, s2, s3, .val (.long j4), .second, s6, s7, s8, s9, s10] [(.long j4)])) _
  refine XS.lconst X0.here hx rfl (hb hby d5_20) ?_
  show Steps p.tables e below (T0.setTop (mkF m 21 #[s0, s1, s2, s3, .val (.long j4), .second, s6, s7, s8, s9, s10] [(.long (0 : Int64)), (.long j4)])) _
  refine XS.lcmp X0.here hx rfl (hb hby d5_21) rfl ?_
  show Steps p.tables e below (T0.setTop (mkF m 22 #[s0, s1, s2, s3, .val (.long j4), .second, s6, s7, s8, s9, s10] [(.int (lcmpW j4 (0 : Int64)))])) _
  refine XS.ifYes X0.here hx rfl (pc0 := 22) (pc' := 39) rfl (hb hby d5_22) rfl ((if0 _ _).trans (tlt hc22).2.2.1) (by decide) (by decide) ?_
  show Steps p.tables e below (T0.setTop (mkF m 39 #[s0, s1, s2, s3, .val (.long j4), .second, s6, s7, s8, s9, s10] [])) _
  refine XS.iconst X0.here hx rfl (hb hby d5_39) ?_
  show Steps p.tables e below (T0.setTop (mkF m 40 #[s0, s1, s2, s3, .val (.long j4), .second, s6, s7, s8, s9, s10] [(.int (1 : Int32))])) _
  refine XS.goto X0.here hx rfl (pc0 := 40) (pc' := 44) rfl (hb hby d5_40) (by decide) (by decide) ?_
  exact kt
theorem d5_25 : decode method_2_code 25 = .ok (.lload 4, 2) := by decide +kernel
theorem d5_27 : decode method_2_code 27 = .ok (.lconst 0, 1) := by decide +kernel
theorem d5_28 : decode method_2_code 28 = .ok (.lcmp, 1) := by decide +kernel
theorem d5_29 : decode method_2_code 29 = .ok (.ifCond .ne 14, 3) := by decide +kernel
theorem d5_43 : decode method_2_code 43 = .ok (.iconst 0, 1) := by decide +kernel
set_option maxRecDepth 65536 in
set_option maxHeartbeats 40000000 in
theorem own_s1_ft {p : Program} {l : Launch} {e : Env} {R : Room} {s : State} {m : MethodId} {args : Array Value} {below : List Frame} {meth : Method} {c : Code} {T0 : State} {locs : List Loc} {cells slots : Nat} {Z : State} {a0 : Array Value} {s0 : Slot} {s1 : Slot} {s2 : Slot} {s3 : Slot} {j4 : Int64} {s6 : Slot} {s7 : Slot} {s8 : Slot} {s9 : Slot} {s10 : Slot}
    (X0 : Stand p l e R s m args below meth c T0 locs cells slots) (hx : p.tables.exec = Jvm.exec) (hZ : Z.Warmed39 s.vm) (hw : ∀ d ∈ tables_1, d.before a0 Z = true) (hby : c.code = method_2_code) (hml : c.maxLocals = 11) (hown : s.vm.findClass "runnel/RangeSourceEstimatedSizePinLaw" = some m.cls) (hc22 : ¬ ((0 : Int32) < (lcmpW j4 (0 : Int64)))) (hc29 : ¬ ((lcmpW j4 (0 : Int64)) = (0 : Int32))) :
      ∀ target, Steps p.tables e below (T0.setTop (mkF m 44 #[s0, s1, s2, s3, .val (.long j4), .second, s6, s7, s8, s9, s10] [(.int (0 : Int32))])) target → Steps p.tables e below (T0.setTop (mkF m 18 #[s0, s1, s2, s3, .val (.long j4), .second, s6, s7, s8, s9, s10] [])) target := by

  intro target kt
  show Steps p.tables e below (T0.setTop (mkF m 18 #[s0, s1, s2, s3, .val (.long j4), .second, s6, s7, s8, s9, s10] [])) _
  refine XS.lload X0.here hx rfl (hb hby d5_18) rfl ?_
  show Steps p.tables e below (T0.setTop (mkF m 20 #[s0, s1, s2, s3, .val (.long j4), .second, s6, s7, s8, s9, s10] [(.long j4)])) _
  refine XS.lconst X0.here hx rfl (hb hby d5_20) ?_
  show Steps p.tables e below (T0.setTop (mkF m 21 #[s0, s1, s2, s3, .val (.long j4), .second, s6, s7, s8, s9, s10] [(.long (0 : Int64)), (.long j4)])) _
  refine XS.lcmp X0.here hx rfl (hb hby d5_21) rfl ?_
  show Steps p.tables e below (T0.setTop (mkF m 22 #[s0, s1, s2, s3, .val (.long j4), .second, s6, s7, s8, s9, s10] [(.int (lcmpW j4 (0 : Int64)))])) _
  refine XS.ifNo X0.here hx rfl (hb hby d5_22) rfl ((if0 _ _).trans (flt hc22).2.2.1) ?_
  show Steps p.tables e below (T0.setTop (mkF m 25 #[s0, s1, s2, s3, .val (.long j4), .second, s6, s7, s8, s9, s10] [])) _
  refine XS.lload X0.here hx rfl (hb hby d5_25) rfl ?_
  show Steps p.tables e below (T0.setTop (mkF m 27 #[s0, s1, s2, s3, .val (.long j4), .second, s6, s7, s8, s9, s10] [(.long j4)])) _
  refine XS.lconst X0.here hx rfl (hb hby d5_27) ?_
  show Steps p.tables e below (T0.setTop (mkF m 28 #[s0, s1, s2, s3, .val (.long j4), .second, s6, s7, s8, s9, s10] [(.long (0 : Int64)), (.long j4)])) _
  refine XS.lcmp X0.here hx rfl (hb hby d5_28) rfl ?_
  show Steps p.tables e below (T0.setTop (mkF m 29 #[s0, s1, s2, s3, .val (.long j4), .second, s6, s7, s8, s9, s10] [(.int (lcmpW j4 (0 : Int64)))])) _
  refine XS.ifYes X0.here hx rfl (pc0 := 29) (pc' := 43) rfl (hb hby d5_29) rfl ((if0 _ _).trans (feq hc29).2) (by decide) (by decide) ?_
  show Steps p.tables e below (T0.setTop (mkF m 43 #[s0, s1, s2, s3, .val (.long j4), .second, s6, s7, s8, s9, s10] [])) _
  refine XS.iconst X0.here hx rfl (hb hby d5_43) ?_
  exact kt
theorem d5_32 : decode method_2_code 32 = .ok (.lload 6, 2) := by decide +kernel
theorem d5_34 : decode method_2_code 34 = .ok (.lconst 0, 1) := by decide +kernel
theorem d5_35 : decode method_2_code 35 = .ok (.lcmp, 1) := by decide +kernel
theorem d5_36 : decode method_2_code 36 = .ok (.ifCond .lt 7, 3) := by decide +kernel
set_option maxRecDepth 65536 in
set_option maxHeartbeats 40000000 in
theorem own_s1_fft {p : Program} {l : Launch} {e : Env} {R : Room} {s : State} {m : MethodId} {args : Array Value} {below : List Frame} {meth : Method} {c : Code} {T0 : State} {locs : List Loc} {cells slots : Nat} {Z : State} {a0 : Array Value} {s0 : Slot} {s1 : Slot} {s2 : Slot} {s3 : Slot} {j4 : Int64} {j6 : Int64} {s8 : Slot} {s9 : Slot} {s10 : Slot}
    (X0 : Stand p l e R s m args below meth c T0 locs cells slots) (hx : p.tables.exec = Jvm.exec) (hZ : Z.Warmed39 s.vm) (hw : ∀ d ∈ tables_1, d.before a0 Z = true) (hby : c.code = method_2_code) (hml : c.maxLocals = 11) (hown : s.vm.findClass "runnel/RangeSourceEstimatedSizePinLaw" = some m.cls) (hc22 : ¬ ((0 : Int32) < (lcmpW j4 (0 : Int64)))) (hc29 : (lcmpW j4 (0 : Int64)) = (0 : Int32)) (hc36 : (lcmpW j6 (0 : Int64)) < (0 : Int32)) :
      ∀ target, Steps p.tables e below (T0.setTop (mkF m 44 #[s0, s1, s2, s3, .val (.long j4), .second, .val (.long j6), .second, s8, s9, s10] [(.int (0 : Int32))])) target → Steps p.tables e below (T0.setTop (mkF m 18 #[s0, s1, s2, s3, .val (.long j4), .second, .val (.long j6), .second, s8, s9, s10] [])) target := by

  intro target kt
  show Steps p.tables e below (T0.setTop (mkF m 18 #[s0, s1, s2, s3, .val (.long j4), .second, .val (.long j6), .second, s8, s9, s10] [])) _
  refine XS.lload X0.here hx rfl (hb hby d5_18) rfl ?_
  show Steps p.tables e below (T0.setTop (mkF m 20 #[s0, s1, s2, s3, .val (.long j4), .second, .val (.long j6), .second, s8, s9, s10] [(.long j4)])) _
  refine XS.lconst X0.here hx rfl (hb hby d5_20) ?_
  show Steps p.tables e below (T0.setTop (mkF m 21 #[s0, s1, s2, s3, .val (.long j4), .second, .val (.long j6), .second, s8, s9, s10] [(.long (0 : Int64)), (.long j4)])) _
  refine XS.lcmp X0.here hx rfl (hb hby d5_21) rfl ?_
  show Steps p.tables e below (T0.setTop (mkF m 22 #[s0, s1, s2, s3, .val (.long j4), .second, .val (.long j6), .second, s8, s9, s10] [(.int (lcmpW j4 (0 : Int64)))])) _
  refine XS.ifNo X0.here hx rfl (hb hby d5_22) rfl ((if0 _ _).trans (flt hc22).2.2.1) ?_
  show Steps p.tables e below (T0.setTop (mkF m 25 #[s0, s1, s2, s3, .val (.long j4), .second, .val (.long j6), .second, s8, s9, s10] [])) _
  refine XS.lload X0.here hx rfl (hb hby d5_25) rfl ?_
  show Steps p.tables e below (T0.setTop (mkF m 27 #[s0, s1, s2, s3, .val (.long j4), .second, .val (.long j6), .second, s8, s9, s10] [(.long j4)])) _
  refine XS.lconst X0.here hx rfl (hb hby d5_27) ?_
  show Steps p.tables e below (T0.setTop (mkF m 28 #[s0, s1, s2, s3, .val (.long j4), .second, .val (.long j6), .second, s8, s9, s10] [(.long (0 : Int64)), (.long j4)])) _
  refine XS.lcmp X0.here hx rfl (hb hby d5_28) rfl ?_
  show Steps p.tables e below (T0.setTop (mkF m 29 #[s0, s1, s2, s3, .val (.long j4), .second, .val (.long j6), .second, s8, s9, s10] [(.int (lcmpW j4 (0 : Int64)))])) _
  refine XS.ifNo X0.here hx rfl (hb hby d5_29) rfl ((if0 _ _).trans (teq hc29).2) ?_
  show Steps p.tables e below (T0.setTop (mkF m 32 #[s0, s1, s2, s3, .val (.long j4), .second, .val (.long j6), .second, s8, s9, s10] [])) _
  refine XS.lload X0.here hx rfl (hb hby d5_32) rfl ?_
  show Steps p.tables e below (T0.setTop (mkF m 34 #[s0, s1, s2, s3, .val (.long j4), .second, .val (.long j6), .second, s8, s9, s10] [(.long j6)])) _
  refine XS.lconst X0.here hx rfl (hb hby d5_34) ?_
  show Steps p.tables e below (T0.setTop (mkF m 35 #[s0, s1, s2, s3, .val (.long j4), .second, .val (.long j6), .second, s8, s9, s10] [(.long (0 : Int64)), (.long j6)])) _
  refine XS.lcmp X0.here hx rfl (hb hby d5_35) rfl ?_
  show Steps p.tables e below (T0.setTop (mkF m 36 #[s0, s1, s2, s3, .val (.long j4), .second, .val (.long j6), .second, s8, s9, s10] [(.int (lcmpW j6 (0 : Int64)))])) _
  refine XS.ifYes X0.here hx rfl (pc0 := 36) (pc' := 43) rfl (hb hby d5_36) rfl ((if0 _ _).trans (tlt hc36).1) (by decide) (by decide) ?_
  show Steps p.tables e below (T0.setTop (mkF m 43 #[s0, s1, s2, s3, .val (.long j4), .second, .val (.long j6), .second, s8, s9, s10] [])) _
  refine XS.iconst X0.here hx rfl (hb hby d5_43) ?_
  exact kt
set_option maxRecDepth 65536 in
set_option maxHeartbeats 40000000 in
theorem own_s1_fff {p : Program} {l : Launch} {e : Env} {R : Room} {s : State} {m : MethodId} {args : Array Value} {below : List Frame} {meth : Method} {c : Code} {T0 : State} {locs : List Loc} {cells slots : Nat} {Z : State} {a0 : Array Value} {s0 : Slot} {s1 : Slot} {s2 : Slot} {s3 : Slot} {j4 : Int64} {j6 : Int64} {s8 : Slot} {s9 : Slot} {s10 : Slot}
    (X0 : Stand p l e R s m args below meth c T0 locs cells slots) (hx : p.tables.exec = Jvm.exec) (hZ : Z.Warmed39 s.vm) (hw : ∀ d ∈ tables_1, d.before a0 Z = true) (hby : c.code = method_2_code) (hml : c.maxLocals = 11) (hown : s.vm.findClass "runnel/RangeSourceEstimatedSizePinLaw" = some m.cls) (hc22 : ¬ ((0 : Int32) < (lcmpW j4 (0 : Int64)))) (hc29 : (lcmpW j4 (0 : Int64)) = (0 : Int32)) (hc36 : ¬ ((lcmpW j6 (0 : Int64)) < (0 : Int32))) :
      ∀ target, Steps p.tables e below (T0.setTop (mkF m 44 #[s0, s1, s2, s3, .val (.long j4), .second, .val (.long j6), .second, s8, s9, s10] [(.int (1 : Int32))])) target → Steps p.tables e below (T0.setTop (mkF m 18 #[s0, s1, s2, s3, .val (.long j4), .second, .val (.long j6), .second, s8, s9, s10] [])) target := by

  intro target kt
  show Steps p.tables e below (T0.setTop (mkF m 18 #[s0, s1, s2, s3, .val (.long j4), .second, .val (.long j6), .second, s8, s9, s10] [])) _
  refine XS.lload X0.here hx rfl (hb hby d5_18) rfl ?_
  show Steps p.tables e below (T0.setTop (mkF m 20 #[s0, s1, s2, s3, .val (.long j4), .second, .val (.long j6), .second, s8, s9, s10] [(.long j4)])) _
  refine XS.lconst X0.here hx rfl (hb hby d5_20) ?_
  show Steps p.tables e below (T0.setTop (mkF m 21 #[s0, s1, s2, s3, .val (.long j4), .second, .val (.long j6), .second, s8, s9, s10] [(.long (0 : Int64)), (.long j4)])) _
  refine XS.lcmp X0.here hx rfl (hb hby d5_21) rfl ?_
  show Steps p.tables e below (T0.setTop (mkF m 22 #[s0, s1, s2, s3, .val (.long j4), .second, .val (.long j6), .second, s8, s9, s10] [(.int (lcmpW j4 (0 : Int64)))])) _
  refine XS.ifNo X0.here hx rfl (hb hby d5_22) rfl ((if0 _ _).trans (flt hc22).2.2.1) ?_
  show Steps p.tables e below (T0.setTop (mkF m 25 #[s0, s1, s2, s3, .val (.long j4), .second, .val (.long j6), .second, s8, s9, s10] [])) _
  refine XS.lload X0.here hx rfl (hb hby d5_25) rfl ?_
  show Steps p.tables e below (T0.setTop (mkF m 27 #[s0, s1, s2, s3, .val (.long j4), .second, .val (.long j6), .second, s8, s9, s10] [(.long j4)])) _
  refine XS.lconst X0.here hx rfl (hb hby d5_27) ?_
  show Steps p.tables e below (T0.setTop (mkF m 28 #[s0, s1, s2, s3, .val (.long j4), .second, .val (.long j6), .second, s8, s9, s10] [(.long (0 : Int64)), (.long j4)])) _
  refine XS.lcmp X0.here hx rfl (hb hby d5_28) rfl ?_
  show Steps p.tables e below (T0.setTop (mkF m 29 #[s0, s1, s2, s3, .val (.long j4), .second, .val (.long j6), .second, s8, s9, s10] [(.int (lcmpW j4 (0 : Int64)))])) _
  refine XS.ifNo X0.here hx rfl (hb hby d5_29) rfl ((if0 _ _).trans (teq hc29).2) ?_
  show Steps p.tables e below (T0.setTop (mkF m 32 #[s0, s1, s2, s3, .val (.long j4), .second, .val (.long j6), .second, s8, s9, s10] [])) _
  refine XS.lload X0.here hx rfl (hb hby d5_32) rfl ?_
  show Steps p.tables e below (T0.setTop (mkF m 34 #[s0, s1, s2, s3, .val (.long j4), .second, .val (.long j6), .second, s8, s9, s10] [(.long j6)])) _
  refine XS.lconst X0.here hx rfl (hb hby d5_34) ?_
  show Steps p.tables e below (T0.setTop (mkF m 35 #[s0, s1, s2, s3, .val (.long j4), .second, .val (.long j6), .second, s8, s9, s10] [(.long (0 : Int64)), (.long j6)])) _
  refine XS.lcmp X0.here hx rfl (hb hby d5_35) rfl ?_
  show Steps p.tables e below (T0.setTop (mkF m 36 #[s0, s1, s2, s3, .val (.long j4), .second, .val (.long j6), .second, s8, s9, s10] [(.int (lcmpW j6 (0 : Int64)))])) _
  refine XS.ifNo X0.here hx rfl (hb hby d5_36) rfl ((if0 _ _).trans (flt hc36).1) ?_
  show Steps p.tables e below (T0.setTop (mkF m 39 #[s0, s1, s2, s3, .val (.long j4), .second, .val (.long j6), .second, s8, s9, s10] [])) _
  refine XS.iconst X0.here hx rfl (hb hby d5_39) ?_
  show Steps p.tables e below (T0.setTop (mkF m 40 #[s0, s1, s2, s3, .val (.long j4), .second, .val (.long j6), .second, s8, s9, s10] [(.int (1 : Int32))])) _
  refine XS.goto X0.here hx rfl (pc0 := 40) (pc' := 44) rfl (hb hby d5_40) (by decide) (by decide) ?_
  exact kt
def own_nn (j4 : Int64) (j6 : Int64) : Int32 := (if (0 : Int32) < (lcmpW j4 (0 : Int64)) then (1 : Int32) else (if (lcmpW j4 (0 : Int64)) = (0 : Int32) then (if (lcmpW j6 (0 : Int64)) < (0 : Int32) then (0 : Int32) else (1 : Int32)) else (0 : Int32)))
set_option maxRecDepth 65536 in
set_option maxHeartbeats 40000000 in
theorem own_s1 {p : Program} {l : Launch} {e : Env} {R : Room} {s : State} {m : MethodId} {args : Array Value} {below : List Frame} {meth : Method} {c : Code} {T0 : State} {locs : List Loc} {cells slots : Nat} {Z : State} {a0 : Array Value} {s0 : Slot} {s1 : Slot} {s2 : Slot} {s3 : Slot} {s8 : Slot} {s9 : Slot} {s10 : Slot} {j4 : Int64} {j6 : Int64}
    (X0 : Stand p l e R s m args below meth c T0 locs cells slots) (hx : p.tables.exec = Jvm.exec) (hZ : Z.Warmed39 s.vm) (hw : ∀ d ∈ tables_1, d.before a0 Z = true) (hby : c.code = method_2_code) (hml : c.maxLocals = 11) (hown : s.vm.findClass "runnel/RangeSourceEstimatedSizePinLaw" = some m.cls) :
      ∀ target, Steps p.tables e below (T0.setTop (mkF m 44 #[s0, s1, s2, s3, .val (.long j4), .second, .val (.long j6), .second, s8, s9, s10] [(.int (own_nn j4 j6))])) target → Steps p.tables e below (T0.setTop (mkF m 18 #[s0, s1, s2, s3, .val (.long j4), .second, .val (.long j6), .second, s8, s9, s10] [])) target := by
  intro target kt
  rw [own_nn] at kt
  by_cases hc22 : (0 : Int32) < (lcmpW j4 (0 : Int64))
  · rw [if_pos hc22] at kt
    exact own_s1_t X0 hx hZ hw hby hml hown hc22 target kt
  · rw [if_neg hc22] at kt
    by_cases hc29 : (lcmpW j4 (0 : Int64)) = (0 : Int32)
    · rw [if_pos hc29] at kt
      by_cases hc36 : (lcmpW j6 (0 : Int64)) < (0 : Int32)
      · rw [if_pos hc36] at kt
        exact own_s1_fft X0 hx hZ hw hby hml hown hc22 hc29 hc36 target kt
      · rw [if_neg hc36] at kt
        exact own_s1_fff X0 hx hZ hw hby hml hown hc22 hc29 hc36 target kt
    · rw [if_neg hc29] at kt
      exact own_s1_ft X0 hx hZ hw hby hml hown hc22 hc29 target kt
theorem d5_46 : decode method_2_code 46 = .ok (.lload 4, 2) := by decide +kernel
theorem d5_48 : decode method_2_code 48 = .ok (.ldc2_w 7, 3) := by decide +kernel
theorem d5_51 : decode method_2_code 51 = .ok (.lcmp, 1) := by decide +kernel
theorem d5_52 : decode method_2_code 52 = .ok (.ifCond .lt 19, 3) := by decide +kernel
theorem d5_71 : decode method_2_code 71 = .ok (.iconst 1, 1) := by decide +kernel
theorem d5_72 : decode method_2_code 72 = .ok (.goto 4, 3) := by decide +kernel
set_option maxRecDepth 65536 in
set_option maxHeartbeats 40000000 in
theorem own_s2_t {p : Program} {l : Launch} {e : Env} {R : Room} {s : State} {m : MethodId} {args : Array Value} {below : List Frame} {meth : Method} {c : Code} {T0 : State} {locs : List Loc} {cells slots : Nat} {Z : State} {a0 : Array Value} {s0 : Slot} {s1 : Slot} {s2 : Slot} {s3 : Slot} {j4 : Int64} {s6 : Slot} {s7 : Slot} {s8 : Slot} {s9 : Slot} {s10 : Slot}
    (X0 : Stand p l e R s m args below meth c T0 locs cells slots) (hx : p.tables.exec = Jvm.exec) (hZ : Z.Warmed39 s.vm) (hw : ∀ d ∈ tables_1, d.before a0 Z = true) (hby : c.code = method_2_code) (hml : c.maxLocals = 11) (hown : s.vm.findClass "runnel/RangeSourceEstimatedSizePinLaw" = some m.cls) (hc52 : (lcmpW j4 (4611686018427387904 : Int64)) < (0 : Int32)) :
      ∀ target, Steps p.tables e below (T0.setTop (mkF m 76 #[s0, s1, s2, s3, .val (.long j4), .second, s6, s7, s8, s9, s10] [(.int (1 : Int32))])) target → Steps p.tables e below (T0.setTop (mkF m 46 #[s0, s1, s2, s3, .val (.long j4), .second, s6, s7, s8, s9, s10] [])) target := by

  intro target kt
  show Steps p.tables e below (T0.setTop (mkF m 46 #[s0, s1, s2, s3, .val (.long j4), .second, s6, s7, s8, s9, s10] [])) _
  refine XS.lload X0.here hx rfl (hb hby d5_46) rfl ?_
  show Steps p.tables e below (T0.setTop (mkF m 48 #[s0, s1, s2, s3, .val (.long j4), .second, s6, s7, s8, s9, s10] [(.long j4)])) _
  refine X0.ldc2Long hx hown (mvT hZ (hw _ (List.mem_of_getElem? (i := 28) rfl))) (g := (mkF m 48 #[s0, s1, s2, s3, .val (.long j4), .second, s6, s7, s8, s9, s10] [(.long j4)])) rfl (hb hby d5_48) _ ?_
  show Steps p.tables e below (T0.setTop (mkF m 51 #[s0, s1, s2, s3, .val (.long j4), .second, s6, s7, s8, s9, s10] [(.long (4611686018427387904 : Int64)), (.long j4)])) _
  refine XS.lcmp X0.here hx rfl (hb hby d5_51) rfl ?_
  show Steps p.tables e below (T0.setTop (mkF m 52 #[s0, s1, s2, s3, .val (.long j4), .second, s6, s7, s8, s9, s10] [(.int (lcmpW j4 (4611686018427387904 : Int64)))])) _
  refine XS.ifYes X0.here hx rfl (pc0 := 52) (pc' := 71) rfl (hb hby d5_52) rfl ((if0 _ _).trans (tlt hc52).1) (by decide) (by decide) ?_
  show Steps p.tables e below (T0.setTop (mkF m 71 #[s0, s1, s2, s3, .val (.long j4), .second, s6, s7, s8, s9, s10] [])) _
  refine XS.iconst X0.here hx rfl (hb hby d5_71) ?_
  show Steps p.tables e below (T0.setTop (mkF m 72 #[s0, s1, s2, s3, .val (.long j4), .second, s6, s7, s8, s9, s10] [(.int (1 : Int32))])) _
  refine XS.goto X0.here hx rfl (pc0 := 72) (pc' := 76) rfl (hb hby d5_72) (by decide) (by decide) ?_
  exact kt
theorem d5_55 : decode method_2_code 55 = .ok (.lload 4, 2) := by decide +kernel
theorem d5_57 : decode method_2_code 57 = .ok (.ldc2_w 7, 3) := by decide +kernel
theorem d5_60 : decode method_2_code 60 = .ok (.lcmp, 1) := by decide +kernel
theorem d5_61 : decode method_2_code 61 = .ok (.ifCond .ne 14, 3) := by decide +kernel
theorem d5_75 : decode method_2_code 75 = .ok (.iconst 0, 1) := by decide +kernel
set_option maxRecDepth 65536 in
set_option maxHeartbeats 40000000 in
theorem own_s2_ft {p : Program} {l : Launch} {e : Env} {R : Room} {s : State} {m : MethodId} {args : Array Value} {below : List Frame} {meth : Method} {c : Code} {T0 : State} {locs : List Loc} {cells slots : Nat} {Z : State} {a0 : Array Value} {s0 : Slot} {s1 : Slot} {s2 : Slot} {s3 : Slot} {j4 : Int64} {s6 : Slot} {s7 : Slot} {s8 : Slot} {s9 : Slot} {s10 : Slot}
    (X0 : Stand p l e R s m args below meth c T0 locs cells slots) (hx : p.tables.exec = Jvm.exec) (hZ : Z.Warmed39 s.vm) (hw : ∀ d ∈ tables_1, d.before a0 Z = true) (hby : c.code = method_2_code) (hml : c.maxLocals = 11) (hown : s.vm.findClass "runnel/RangeSourceEstimatedSizePinLaw" = some m.cls) (hc52 : ¬ ((lcmpW j4 (4611686018427387904 : Int64)) < (0 : Int32))) (hc61 : ¬ ((lcmpW j4 (4611686018427387904 : Int64)) = (0 : Int32))) :
      ∀ target, Steps p.tables e below (T0.setTop (mkF m 76 #[s0, s1, s2, s3, .val (.long j4), .second, s6, s7, s8, s9, s10] [(.int (0 : Int32))])) target → Steps p.tables e below (T0.setTop (mkF m 46 #[s0, s1, s2, s3, .val (.long j4), .second, s6, s7, s8, s9, s10] [])) target := by

  intro target kt
  show Steps p.tables e below (T0.setTop (mkF m 46 #[s0, s1, s2, s3, .val (.long j4), .second, s6, s7, s8, s9, s10] [])) _
  refine XS.lload X0.here hx rfl (hb hby d5_46) rfl ?_
  show Steps p.tables e below (T0.setTop (mkF m 48 #[s0, s1, s2, s3, .val (.long j4), .second, s6, s7, s8, s9, s10] [(.long j4)])) _
  refine X0.ldc2Long hx hown (mvT hZ (hw _ (List.mem_of_getElem? (i := 28) rfl))) (g := (mkF m 48 #[s0, s1, s2, s3, .val (.long j4), .second, s6, s7, s8, s9, s10] [(.long j4)])) rfl (hb hby d5_48) _ ?_
  show Steps p.tables e below (T0.setTop (mkF m 51 #[s0, s1, s2, s3, .val (.long j4), .second, s6, s7, s8, s9, s10] [(.long (4611686018427387904 : Int64)), (.long j4)])) _
  refine XS.lcmp X0.here hx rfl (hb hby d5_51) rfl ?_
  show Steps p.tables e below (T0.setTop (mkF m 52 #[s0, s1, s2, s3, .val (.long j4), .second, s6, s7, s8, s9, s10] [(.int (lcmpW j4 (4611686018427387904 : Int64)))])) _
  refine XS.ifNo X0.here hx rfl (hb hby d5_52) rfl ((if0 _ _).trans (flt hc52).1) ?_
  show Steps p.tables e below (T0.setTop (mkF m 55 #[s0, s1, s2, s3, .val (.long j4), .second, s6, s7, s8, s9, s10] [])) _
  refine XS.lload X0.here hx rfl (hb hby d5_55) rfl ?_
  show Steps p.tables e below (T0.setTop (mkF m 57 #[s0, s1, s2, s3, .val (.long j4), .second, s6, s7, s8, s9, s10] [(.long j4)])) _
  refine X0.ldc2Long hx hown (mvT hZ (hw _ (List.mem_of_getElem? (i := 28) rfl))) (g := (mkF m 57 #[s0, s1, s2, s3, .val (.long j4), .second, s6, s7, s8, s9, s10] [(.long j4)])) rfl (hb hby d5_57) _ ?_
  show Steps p.tables e below (T0.setTop (mkF m 60 #[s0, s1, s2, s3, .val (.long j4), .second, s6, s7, s8, s9, s10] [(.long (4611686018427387904 : Int64)), (.long j4)])) _
  refine XS.lcmp X0.here hx rfl (hb hby d5_60) rfl ?_
  show Steps p.tables e below (T0.setTop (mkF m 61 #[s0, s1, s2, s3, .val (.long j4), .second, s6, s7, s8, s9, s10] [(.int (lcmpW j4 (4611686018427387904 : Int64)))])) _
  refine XS.ifYes X0.here hx rfl (pc0 := 61) (pc' := 75) rfl (hb hby d5_61) rfl ((if0 _ _).trans (feq hc61).2) (by decide) (by decide) ?_
  show Steps p.tables e below (T0.setTop (mkF m 75 #[s0, s1, s2, s3, .val (.long j4), .second, s6, s7, s8, s9, s10] [])) _
  refine XS.iconst X0.here hx rfl (hb hby d5_75) ?_
  exact kt
theorem d5_64 : decode method_2_code 64 = .ok (.lload 6, 2) := by decide +kernel
theorem d5_66 : decode method_2_code 66 = .ok (.lconst 0, 1) := by decide +kernel
theorem d5_67 : decode method_2_code 67 = .ok (.lcmp, 1) := by decide +kernel
theorem d5_68 : decode method_2_code 68 = .ok (.ifCond .ge 7, 3) := by decide +kernel
set_option maxRecDepth 65536 in
set_option maxHeartbeats 40000000 in
theorem own_s2_fft {p : Program} {l : Launch} {e : Env} {R : Room} {s : State} {m : MethodId} {args : Array Value} {below : List Frame} {meth : Method} {c : Code} {T0 : State} {locs : List Loc} {cells slots : Nat} {Z : State} {a0 : Array Value} {s0 : Slot} {s1 : Slot} {s2 : Slot} {s3 : Slot} {j4 : Int64} {j6 : Int64} {s8 : Slot} {s9 : Slot} {s10 : Slot}
    (X0 : Stand p l e R s m args below meth c T0 locs cells slots) (hx : p.tables.exec = Jvm.exec) (hZ : Z.Warmed39 s.vm) (hw : ∀ d ∈ tables_1, d.before a0 Z = true) (hby : c.code = method_2_code) (hml : c.maxLocals = 11) (hown : s.vm.findClass "runnel/RangeSourceEstimatedSizePinLaw" = some m.cls) (hc52 : ¬ ((lcmpW j4 (4611686018427387904 : Int64)) < (0 : Int32))) (hc61 : (lcmpW j4 (4611686018427387904 : Int64)) = (0 : Int32)) (hc68 : ¬ ((lcmpW j6 (0 : Int64)) < (0 : Int32))) :
      ∀ target, Steps p.tables e below (T0.setTop (mkF m 76 #[s0, s1, s2, s3, .val (.long j4), .second, .val (.long j6), .second, s8, s9, s10] [(.int (0 : Int32))])) target → Steps p.tables e below (T0.setTop (mkF m 46 #[s0, s1, s2, s3, .val (.long j4), .second, .val (.long j6), .second, s8, s9, s10] [])) target := by

  intro target kt
  show Steps p.tables e below (T0.setTop (mkF m 46 #[s0, s1, s2, s3, .val (.long j4), .second, .val (.long j6), .second, s8, s9, s10] [])) _
  refine XS.lload X0.here hx rfl (hb hby d5_46) rfl ?_
  show Steps p.tables e below (T0.setTop (mkF m 48 #[s0, s1, s2, s3, .val (.long j4), .second, .val (.long j6), .second, s8, s9, s10] [(.long j4)])) _
  refine X0.ldc2Long hx hown (mvT hZ (hw _ (List.mem_of_getElem? (i := 28) rfl))) (g := (mkF m 48 #[s0, s1, s2, s3, .val (.long j4), .second, .val (.long j6), .second, s8, s9, s10] [(.long j4)])) rfl (hb hby d5_48) _ ?_
  show Steps p.tables e below (T0.setTop (mkF m 51 #[s0, s1, s2, s3, .val (.long j4), .second, .val (.long j6), .second, s8, s9, s10] [(.long (4611686018427387904 : Int64)), (.long j4)])) _
  refine XS.lcmp X0.here hx rfl (hb hby d5_51) rfl ?_
  show Steps p.tables e below (T0.setTop (mkF m 52 #[s0, s1, s2, s3, .val (.long j4), .second, .val (.long j6), .second, s8, s9, s10] [(.int (lcmpW j4 (4611686018427387904 : Int64)))])) _
  refine XS.ifNo X0.here hx rfl (hb hby d5_52) rfl ((if0 _ _).trans (flt hc52).1) ?_
  show Steps p.tables e below (T0.setTop (mkF m 55 #[s0, s1, s2, s3, .val (.long j4), .second, .val (.long j6), .second, s8, s9, s10] [])) _
  refine XS.lload X0.here hx rfl (hb hby d5_55) rfl ?_
  show Steps p.tables e below (T0.setTop (mkF m 57 #[s0, s1, s2, s3, .val (.long j4), .second, .val (.long j6), .second, s8, s9, s10] [(.long j4)])) _
  refine X0.ldc2Long hx hown (mvT hZ (hw _ (List.mem_of_getElem? (i := 28) rfl))) (g := (mkF m 57 #[s0, s1, s2, s3, .val (.long j4), .second, .val (.long j6), .second, s8, s9, s10] [(.long j4)])) rfl (hb hby d5_57) _ ?_
  show Steps p.tables e below (T0.setTop (mkF m 60 #[s0, s1, s2, s3, .val (.long j4), .second, .val (.long j6), .second, s8, s9, s10] [(.long (4611686018427387904 : Int64)), (.long j4)])) _
  refine XS.lcmp X0.here hx rfl (hb hby d5_60) rfl ?_
  show Steps p.tables e below (T0.setTop (mkF m 61 #[s0, s1, s2, s3, .val (.long j4), .second, .val (.long j6), .second, s8, s9, s10] [(.int (lcmpW j4 (4611686018427387904 : Int64)))])) _
  refine XS.ifNo X0.here hx rfl (hb hby d5_61) rfl ((if0 _ _).trans (teq hc61).2) ?_
  show Steps p.tables e below (T0.setTop (mkF m 64 #[s0, s1, s2, s3, .val (.long j4), .second, .val (.long j6), .second, s8, s9, s10] [])) _
  refine XS.lload X0.here hx rfl (hb hby d5_64) rfl ?_
  show Steps p.tables e below (T0.setTop (mkF m 66 #[s0, s1, s2, s3, .val (.long j4), .second, .val (.long j6), .second, s8, s9, s10] [(.long j6)])) _
  refine XS.lconst X0.here hx rfl (hb hby d5_66) ?_
  show Steps p.tables e below (T0.setTop (mkF m 67 #[s0, s1, s2, s3, .val (.long j4), .second, .val (.long j6), .second, s8, s9, s10] [(.long (0 : Int64)), (.long j6)])) _
  refine XS.lcmp X0.here hx rfl (hb hby d5_67) rfl ?_
  show Steps p.tables e below (T0.setTop (mkF m 68 #[s0, s1, s2, s3, .val (.long j4), .second, .val (.long j6), .second, s8, s9, s10] [(.int (lcmpW j6 (0 : Int64)))])) _
  refine XS.ifYes X0.here hx rfl (pc0 := 68) (pc' := 75) rfl (hb hby d5_68) rfl ((if0 _ _).trans (flt hc68).2.1) (by decide) (by decide) ?_
  show Steps p.tables e below (T0.setTop (mkF m 75 #[s0, s1, s2, s3, .val (.long j4), .second, .val (.long j6), .second, s8, s9, s10] [])) _
  refine XS.iconst X0.here hx rfl (hb hby d5_75) ?_
  exact kt
set_option maxRecDepth 65536 in
set_option maxHeartbeats 40000000 in
theorem own_s2_fff {p : Program} {l : Launch} {e : Env} {R : Room} {s : State} {m : MethodId} {args : Array Value} {below : List Frame} {meth : Method} {c : Code} {T0 : State} {locs : List Loc} {cells slots : Nat} {Z : State} {a0 : Array Value} {s0 : Slot} {s1 : Slot} {s2 : Slot} {s3 : Slot} {j4 : Int64} {j6 : Int64} {s8 : Slot} {s9 : Slot} {s10 : Slot}
    (X0 : Stand p l e R s m args below meth c T0 locs cells slots) (hx : p.tables.exec = Jvm.exec) (hZ : Z.Warmed39 s.vm) (hw : ∀ d ∈ tables_1, d.before a0 Z = true) (hby : c.code = method_2_code) (hml : c.maxLocals = 11) (hown : s.vm.findClass "runnel/RangeSourceEstimatedSizePinLaw" = some m.cls) (hc52 : ¬ ((lcmpW j4 (4611686018427387904 : Int64)) < (0 : Int32))) (hc61 : (lcmpW j4 (4611686018427387904 : Int64)) = (0 : Int32)) (hc68 : (lcmpW j6 (0 : Int64)) < (0 : Int32)) :
      ∀ target, Steps p.tables e below (T0.setTop (mkF m 76 #[s0, s1, s2, s3, .val (.long j4), .second, .val (.long j6), .second, s8, s9, s10] [(.int (1 : Int32))])) target → Steps p.tables e below (T0.setTop (mkF m 46 #[s0, s1, s2, s3, .val (.long j4), .second, .val (.long j6), .second, s8, s9, s10] [])) target := by

  intro target kt
  show Steps p.tables e below (T0.setTop (mkF m 46 #[s0, s1, s2, s3, .val (.long j4), .second, .val (.long j6), .second, s8, s9, s10] [])) _
  refine XS.lload X0.here hx rfl (hb hby d5_46) rfl ?_
  show Steps p.tables e below (T0.setTop (mkF m 48 #[s0, s1, s2, s3, .val (.long j4), .second, .val (.long j6), .second, s8, s9, s10] [(.long j4)])) _
  refine X0.ldc2Long hx hown (mvT hZ (hw _ (List.mem_of_getElem? (i := 28) rfl))) (g := (mkF m 48 #[s0, s1, s2, s3, .val (.long j4), .second, .val (.long j6), .second, s8, s9, s10] [(.long j4)])) rfl (hb hby d5_48) _ ?_
  show Steps p.tables e below (T0.setTop (mkF m 51 #[s0, s1, s2, s3, .val (.long j4), .second, .val (.long j6), .second, s8, s9, s10] [(.long (4611686018427387904 : Int64)), (.long j4)])) _
  refine XS.lcmp X0.here hx rfl (hb hby d5_51) rfl ?_
  show Steps p.tables e below (T0.setTop (mkF m 52 #[s0, s1, s2, s3, .val (.long j4), .second, .val (.long j6), .second, s8, s9, s10] [(.int (lcmpW j4 (4611686018427387904 : Int64)))])) _
  refine XS.ifNo X0.here hx rfl (hb hby d5_52) rfl ((if0 _ _).trans (flt hc52).1) ?_
  show Steps p.tables e below (T0.setTop (mkF m 55 #[s0, s1, s2, s3, .val (.long j4), .second, .val (.long j6), .second, s8, s9, s10] [])) _
  refine XS.lload X0.here hx rfl (hb hby d5_55) rfl ?_
  show Steps p.tables e below (T0.setTop (mkF m 57 #[s0, s1, s2, s3, .val (.long j4), .second, .val (.long j6), .second, s8, s9, s10] [(.long j4)])) _
  refine X0.ldc2Long hx hown (mvT hZ (hw _ (List.mem_of_getElem? (i := 28) rfl))) (g := (mkF m 57 #[s0, s1, s2, s3, .val (.long j4), .second, .val (.long j6), .second, s8, s9, s10] [(.long j4)])) rfl (hb hby d5_57) _ ?_
  show Steps p.tables e below (T0.setTop (mkF m 60 #[s0, s1, s2, s3, .val (.long j4), .second, .val (.long j6), .second, s8, s9, s10] [(.long (4611686018427387904 : Int64)), (.long j4)])) _
  refine XS.lcmp X0.here hx rfl (hb hby d5_60) rfl ?_
  show Steps p.tables e below (T0.setTop (mkF m 61 #[s0, s1, s2, s3, .val (.long j4), .second, .val (.long j6), .second, s8, s9, s10] [(.int (lcmpW j4 (4611686018427387904 : Int64)))])) _
  refine XS.ifNo X0.here hx rfl (hb hby d5_61) rfl ((if0 _ _).trans (teq hc61).2) ?_
  show Steps p.tables e below (T0.setTop (mkF m 64 #[s0, s1, s2, s3, .val (.long j4), .second, .val (.long j6), .second, s8, s9, s10] [])) _
  refine XS.lload X0.here hx rfl (hb hby d5_64) rfl ?_
  show Steps p.tables e below (T0.setTop (mkF m 66 #[s0, s1, s2, s3, .val (.long j4), .second, .val (.long j6), .second, s8, s9, s10] [(.long j6)])) _
  refine XS.lconst X0.here hx rfl (hb hby d5_66) ?_
  show Steps p.tables e below (T0.setTop (mkF m 67 #[s0, s1, s2, s3, .val (.long j4), .second, .val (.long j6), .second, s8, s9, s10] [(.long (0 : Int64)), (.long j6)])) _
  refine XS.lcmp X0.here hx rfl (hb hby d5_67) rfl ?_
  show Steps p.tables e below (T0.setTop (mkF m 68 #[s0, s1, s2, s3, .val (.long j4), .second, .val (.long j6), .second, s8, s9, s10] [(.int (lcmpW j6 (0 : Int64)))])) _
  refine XS.ifNo X0.here hx rfl (hb hby d5_68) rfl ((if0 _ _).trans (tlt hc68).2.1) ?_
  show Steps p.tables e below (T0.setTop (mkF m 71 #[s0, s1, s2, s3, .val (.long j4), .second, .val (.long j6), .second, s8, s9, s10] [])) _
  refine XS.iconst X0.here hx rfl (hb hby d5_71) ?_
  show Steps p.tables e below (T0.setTop (mkF m 72 #[s0, s1, s2, s3, .val (.long j4), .second, .val (.long j6), .second, s8, s9, s10] [(.int (1 : Int32))])) _
  refine XS.goto X0.here hx rfl (pc0 := 72) (pc' := 76) rfl (hb hby d5_72) (by decide) (by decide) ?_
  exact kt
def own_am (j4 : Int64) (j6 : Int64) : Int32 := (if (lcmpW j4 (4611686018427387904 : Int64)) < (0 : Int32) then (1 : Int32) else (if (lcmpW j4 (4611686018427387904 : Int64)) = (0 : Int32) then (if (lcmpW j6 (0 : Int64)) < (0 : Int32) then (1 : Int32) else (0 : Int32)) else (0 : Int32)))
set_option maxRecDepth 65536 in
set_option maxHeartbeats 40000000 in
theorem own_s2 {p : Program} {l : Launch} {e : Env} {R : Room} {s : State} {m : MethodId} {args : Array Value} {below : List Frame} {meth : Method} {c : Code} {T0 : State} {locs : List Loc} {cells slots : Nat} {Z : State} {a0 : Array Value} {s0 : Slot} {s1 : Slot} {s2 : Slot} {s3 : Slot} {s8 : Slot} {s9 : Slot} {s10 : Slot} {j4 : Int64} {j6 : Int64}
    (X0 : Stand p l e R s m args below meth c T0 locs cells slots) (hx : p.tables.exec = Jvm.exec) (hZ : Z.Warmed39 s.vm) (hw : ∀ d ∈ tables_1, d.before a0 Z = true) (hby : c.code = method_2_code) (hml : c.maxLocals = 11) (hown : s.vm.findClass "runnel/RangeSourceEstimatedSizePinLaw" = some m.cls) :
      ∀ target, Steps p.tables e below (T0.setTop (mkF m 76 #[s0, s1, s2, s3, .val (.long j4), .second, .val (.long j6), .second, s8, s9, s10] [(.int (own_am j4 j6))])) target → Steps p.tables e below (T0.setTop (mkF m 46 #[s0, s1, s2, s3, .val (.long j4), .second, .val (.long j6), .second, s8, s9, s10] [])) target := by
  intro target kt
  rw [own_am] at kt
  by_cases hc52 : (lcmpW j4 (4611686018427387904 : Int64)) < (0 : Int32)
  · rw [if_pos hc52] at kt
    exact own_s2_t X0 hx hZ hw hby hml hown hc52 target kt
  · rw [if_neg hc52] at kt
    by_cases hc61 : (lcmpW j4 (4611686018427387904 : Int64)) = (0 : Int32)
    · rw [if_pos hc61] at kt
      by_cases hc68 : (lcmpW j6 (0 : Int64)) < (0 : Int32)
      · rw [if_pos hc68] at kt
        exact own_s2_fff X0 hx hZ hw hby hml hown hc52 hc61 hc68 target kt
      · rw [if_neg hc68] at kt
        exact own_s2_fft X0 hx hZ hw hby hml hown hc52 hc61 hc68 target kt
    · rw [if_neg hc61] at kt
      exact own_s2_ft X0 hx hZ hw hby hml hown hc52 hc61 target kt
theorem d5_78 : decode method_2_code 78 = .ok (.lload 4, 2) := by decide +kernel
theorem d5_80 : decode method_2_code 80 = .ok (.ldc2_w 9, 3) := by decide +kernel
theorem d5_83 : decode method_2_code 83 = .ok (.lcmp, 1) := by decide +kernel
theorem d5_84 : decode method_2_code 84 = .ok (.ifCond .lt 19, 3) := by decide +kernel
theorem d5_103 : decode method_2_code 103 = .ok (.iconst 1, 1) := by decide +kernel
theorem d5_104 : decode method_2_code 104 = .ok (.goto 4, 3) := by decide +kernel
set_option maxRecDepth 65536 in
set_option maxHeartbeats 40000000 in
theorem own_s3_t {p : Program} {l : Launch} {e : Env} {R : Room} {s : State} {m : MethodId} {args : Array Value} {below : List Frame} {meth : Method} {c : Code} {T0 : State} {locs : List Loc} {cells slots : Nat} {Z : State} {a0 : Array Value} {s0 : Slot} {s1 : Slot} {s2 : Slot} {s3 : Slot} {j4 : Int64} {s6 : Slot} {s7 : Slot} {s8 : Slot} {s9 : Slot} {s10 : Slot}
    (X0 : Stand p l e R s m args below meth c T0 locs cells slots) (hx : p.tables.exec = Jvm.exec) (hZ : Z.Warmed39 s.vm) (hw : ∀ d ∈ tables_1, d.before a0 Z = true) (hby : c.code = method_2_code) (hml : c.maxLocals = 11) (hown : s.vm.findClass "runnel/RangeSourceEstimatedSizePinLaw" = some m.cls) (hc84 : (lcmpW j4 (-4611686018427387904 : Int64)) < (0 : Int32)) :
      ∀ target, Steps p.tables e below (T0.setTop (mkF m 108 #[s0, s1, s2, s3, .val (.long j4), .second, s6, s7, s8, s9, s10] [(.int (1 : Int32))])) target → Steps p.tables e below (T0.setTop (mkF m 78 #[s0, s1, s2, s3, .val (.long j4), .second, s6, s7, s8, s9, s10] [])) target := by

  intro target kt
  show Steps p.tables e below (T0.setTop (mkF m 78 #[s0, s1, s2, s3, .val (.long j4), .second, s6, s7, s8, s9, s10] [])) _
  refine XS.lload X0.here hx rfl (hb hby d5_78) rfl ?_
  show Steps p.tables e below (T0.setTop (mkF m 80 #[s0, s1, s2, s3, .val (.long j4), .second, s6, s7, s8, s9, s10] [(.long j4)])) _
  refine X0.ldc2Long hx hown (mvT hZ (hw _ (List.mem_of_getElem? (i := 29) rfl))) (g := (mkF m 80 #[s0, s1, s2, s3, .val (.long j4), .second, s6, s7, s8, s9, s10] [(.long j4)])) rfl (hb hby d5_80) _ ?_
  show Steps p.tables e below (T0.setTop (mkF m 83 #[s0, s1, s2, s3, .val (.long j4), .second, s6, s7, s8, s9, s10] [(.long (-4611686018427387904 : Int64)), (.long j4)])) _
  refine XS.lcmp X0.here hx rfl (hb hby d5_83) rfl ?_
  show Steps p.tables e below (T0.setTop (mkF m 84 #[s0, s1, s2, s3, .val (.long j4), .second, s6, s7, s8, s9, s10] [(.int (lcmpW j4 (-4611686018427387904 : Int64)))])) _
  refine XS.ifYes X0.here hx rfl (pc0 := 84) (pc' := 103) rfl (hb hby d5_84) rfl ((if0 _ _).trans (tlt hc84).1) (by decide) (by decide) ?_
  show Steps p.tables e below (T0.setTop (mkF m 103 #[s0, s1, s2, s3, .val (.long j4), .second, s6, s7, s8, s9, s10] [])) _
  refine XS.iconst X0.here hx rfl (hb hby d5_103) ?_
  show Steps p.tables e below (T0.setTop (mkF m 104 #[s0, s1, s2, s3, .val (.long j4), .second, s6, s7, s8, s9, s10] [(.int (1 : Int32))])) _
  refine XS.goto X0.here hx rfl (pc0 := 104) (pc' := 108) rfl (hb hby d5_104) (by decide) (by decide) ?_
  exact kt
theorem d5_87 : decode method_2_code 87 = .ok (.lload 4, 2) := by decide +kernel
theorem d5_89 : decode method_2_code 89 = .ok (.ldc2_w 9, 3) := by decide +kernel
theorem d5_92 : decode method_2_code 92 = .ok (.lcmp, 1) := by decide +kernel
theorem d5_93 : decode method_2_code 93 = .ok (.ifCond .ne 14, 3) := by decide +kernel
theorem d5_107 : decode method_2_code 107 = .ok (.iconst 0, 1) := by decide +kernel
set_option maxRecDepth 65536 in
set_option maxHeartbeats 40000000 in
theorem own_s3_ft {p : Program} {l : Launch} {e : Env} {R : Room} {s : State} {m : MethodId} {args : Array Value} {below : List Frame} {meth : Method} {c : Code} {T0 : State} {locs : List Loc} {cells slots : Nat} {Z : State} {a0 : Array Value} {s0 : Slot} {s1 : Slot} {s2 : Slot} {s3 : Slot} {j4 : Int64} {s6 : Slot} {s7 : Slot} {s8 : Slot} {s9 : Slot} {s10 : Slot}
    (X0 : Stand p l e R s m args below meth c T0 locs cells slots) (hx : p.tables.exec = Jvm.exec) (hZ : Z.Warmed39 s.vm) (hw : ∀ d ∈ tables_1, d.before a0 Z = true) (hby : c.code = method_2_code) (hml : c.maxLocals = 11) (hown : s.vm.findClass "runnel/RangeSourceEstimatedSizePinLaw" = some m.cls) (hc84 : ¬ ((lcmpW j4 (-4611686018427387904 : Int64)) < (0 : Int32))) (hc93 : ¬ ((lcmpW j4 (-4611686018427387904 : Int64)) = (0 : Int32))) :
      ∀ target, Steps p.tables e below (T0.setTop (mkF m 108 #[s0, s1, s2, s3, .val (.long j4), .second, s6, s7, s8, s9, s10] [(.int (0 : Int32))])) target → Steps p.tables e below (T0.setTop (mkF m 78 #[s0, s1, s2, s3, .val (.long j4), .second, s6, s7, s8, s9, s10] [])) target := by

  intro target kt
  show Steps p.tables e below (T0.setTop (mkF m 78 #[s0, s1, s2, s3, .val (.long j4), .second, s6, s7, s8, s9, s10] [])) _
  refine XS.lload X0.here hx rfl (hb hby d5_78) rfl ?_
  show Steps p.tables e below (T0.setTop (mkF m 80 #[s0, s1, s2, s3, .val (.long j4), .second, s6, s7, s8, s9, s10] [(.long j4)])) _
  refine X0.ldc2Long hx hown (mvT hZ (hw _ (List.mem_of_getElem? (i := 29) rfl))) (g := (mkF m 80 #[s0, s1, s2, s3, .val (.long j4), .second, s6, s7, s8, s9, s10] [(.long j4)])) rfl (hb hby d5_80) _ ?_
  show Steps p.tables e below (T0.setTop (mkF m 83 #[s0, s1, s2, s3, .val (.long j4), .second, s6, s7, s8, s9, s10] [(.long (-4611686018427387904 : Int64)), (.long j4)])) _
  refine XS.lcmp X0.here hx rfl (hb hby d5_83) rfl ?_
  show Steps p.tables e below (T0.setTop (mkF m 84 #[s0, s1, s2, s3, .val (.long j4), .second, s6, s7, s8, s9, s10] [(.int (lcmpW j4 (-4611686018427387904 : Int64)))])) _
  refine XS.ifNo X0.here hx rfl (hb hby d5_84) rfl ((if0 _ _).trans (flt hc84).1) ?_
  show Steps p.tables e below (T0.setTop (mkF m 87 #[s0, s1, s2, s3, .val (.long j4), .second, s6, s7, s8, s9, s10] [])) _
  refine XS.lload X0.here hx rfl (hb hby d5_87) rfl ?_
  show Steps p.tables e below (T0.setTop (mkF m 89 #[s0, s1, s2, s3, .val (.long j4), .second, s6, s7, s8, s9, s10] [(.long j4)])) _
  refine X0.ldc2Long hx hown (mvT hZ (hw _ (List.mem_of_getElem? (i := 29) rfl))) (g := (mkF m 89 #[s0, s1, s2, s3, .val (.long j4), .second, s6, s7, s8, s9, s10] [(.long j4)])) rfl (hb hby d5_89) _ ?_
  show Steps p.tables e below (T0.setTop (mkF m 92 #[s0, s1, s2, s3, .val (.long j4), .second, s6, s7, s8, s9, s10] [(.long (-4611686018427387904 : Int64)), (.long j4)])) _
  refine XS.lcmp X0.here hx rfl (hb hby d5_92) rfl ?_
  show Steps p.tables e below (T0.setTop (mkF m 93 #[s0, s1, s2, s3, .val (.long j4), .second, s6, s7, s8, s9, s10] [(.int (lcmpW j4 (-4611686018427387904 : Int64)))])) _
  refine XS.ifYes X0.here hx rfl (pc0 := 93) (pc' := 107) rfl (hb hby d5_93) rfl ((if0 _ _).trans (feq hc93).2) (by decide) (by decide) ?_
  show Steps p.tables e below (T0.setTop (mkF m 107 #[s0, s1, s2, s3, .val (.long j4), .second, s6, s7, s8, s9, s10] [])) _
  refine XS.iconst X0.here hx rfl (hb hby d5_107) ?_
  exact kt
theorem d5_96 : decode method_2_code 96 = .ok (.lload 6, 2) := by decide +kernel
theorem d5_98 : decode method_2_code 98 = .ok (.lconst 0, 1) := by decide +kernel
theorem d5_99 : decode method_2_code 99 = .ok (.lcmp, 1) := by decide +kernel
theorem d5_100 : decode method_2_code 100 = .ok (.ifCond .ge 7, 3) := by decide +kernel
set_option maxRecDepth 65536 in
set_option maxHeartbeats 40000000 in
theorem own_s3_fft {p : Program} {l : Launch} {e : Env} {R : Room} {s : State} {m : MethodId} {args : Array Value} {below : List Frame} {meth : Method} {c : Code} {T0 : State} {locs : List Loc} {cells slots : Nat} {Z : State} {a0 : Array Value} {s0 : Slot} {s1 : Slot} {s2 : Slot} {s3 : Slot} {j4 : Int64} {j6 : Int64} {s8 : Slot} {s9 : Slot} {s10 : Slot}
    (X0 : Stand p l e R s m args below meth c T0 locs cells slots) (hx : p.tables.exec = Jvm.exec) (hZ : Z.Warmed39 s.vm) (hw : ∀ d ∈ tables_1, d.before a0 Z = true) (hby : c.code = method_2_code) (hml : c.maxLocals = 11) (hown : s.vm.findClass "runnel/RangeSourceEstimatedSizePinLaw" = some m.cls) (hc84 : ¬ ((lcmpW j4 (-4611686018427387904 : Int64)) < (0 : Int32))) (hc93 : (lcmpW j4 (-4611686018427387904 : Int64)) = (0 : Int32)) (hc100 : ¬ ((lcmpW j6 (0 : Int64)) < (0 : Int32))) :
      ∀ target, Steps p.tables e below (T0.setTop (mkF m 108 #[s0, s1, s2, s3, .val (.long j4), .second, .val (.long j6), .second, s8, s9, s10] [(.int (0 : Int32))])) target → Steps p.tables e below (T0.setTop (mkF m 78 #[s0, s1, s2, s3, .val (.long j4), .second, .val (.long j6), .second, s8, s9, s10] [])) target := by

  intro target kt
  show Steps p.tables e below (T0.setTop (mkF m 78 #[s0, s1, s2, s3, .val (.long j4), .second, .val (.long j6), .second, s8, s9, s10] [])) _
  refine XS.lload X0.here hx rfl (hb hby d5_78) rfl ?_
  show Steps p.tables e below (T0.setTop (mkF m 80 #[s0, s1, s2, s3, .val (.long j4), .second, .val (.long j6), .second, s8, s9, s10] [(.long j4)])) _
  refine X0.ldc2Long hx hown (mvT hZ (hw _ (List.mem_of_getElem? (i := 29) rfl))) (g := (mkF m 80 #[s0, s1, s2, s3, .val (.long j4), .second, .val (.long j6), .second, s8, s9, s10] [(.long j4)])) rfl (hb hby d5_80) _ ?_
  show Steps p.tables e below (T0.setTop (mkF m 83 #[s0, s1, s2, s3, .val (.long j4), .second, .val (.long j6), .second, s8, s9, s10] [(.long (-4611686018427387904 : Int64)), (.long j4)])) _
  refine XS.lcmp X0.here hx rfl (hb hby d5_83) rfl ?_
  show Steps p.tables e below (T0.setTop (mkF m 84 #[s0, s1, s2, s3, .val (.long j4), .second, .val (.long j6), .second, s8, s9, s10] [(.int (lcmpW j4 (-4611686018427387904 : Int64)))])) _
  refine XS.ifNo X0.here hx rfl (hb hby d5_84) rfl ((if0 _ _).trans (flt hc84).1) ?_
  show Steps p.tables e below (T0.setTop (mkF m 87 #[s0, s1, s2, s3, .val (.long j4), .second, .val (.long j6), .second, s8, s9, s10] [])) _
  refine XS.lload X0.here hx rfl (hb hby d5_87) rfl ?_
  show Steps p.tables e below (T0.setTop (mkF m 89 #[s0, s1, s2, s3, .val (.long j4), .second, .val (.long j6), .second, s8, s9, s10] [(.long j4)])) _
  refine X0.ldc2Long hx hown (mvT hZ (hw _ (List.mem_of_getElem? (i := 29) rfl))) (g := (mkF m 89 #[s0, s1, s2, s3, .val (.long j4), .second, .val (.long j6), .second, s8, s9, s10] [(.long j4)])) rfl (hb hby d5_89) _ ?_
  show Steps p.tables e below (T0.setTop (mkF m 92 #[s0, s1, s2, s3, .val (.long j4), .second, .val (.long j6), .second, s8, s9, s10] [(.long (-4611686018427387904 : Int64)), (.long j4)])) _
  refine XS.lcmp X0.here hx rfl (hb hby d5_92) rfl ?_
  show Steps p.tables e below (T0.setTop (mkF m 93 #[s0, s1, s2, s3, .val (.long j4), .second, .val (.long j6), .second, s8, s9, s10] [(.int (lcmpW j4 (-4611686018427387904 : Int64)))])) _
  refine XS.ifNo X0.here hx rfl (hb hby d5_93) rfl ((if0 _ _).trans (teq hc93).2) ?_
  show Steps p.tables e below (T0.setTop (mkF m 96 #[s0, s1, s2, s3, .val (.long j4), .second, .val (.long j6), .second, s8, s9, s10] [])) _
  refine XS.lload X0.here hx rfl (hb hby d5_96) rfl ?_
  show Steps p.tables e below (T0.setTop (mkF m 98 #[s0, s1, s2, s3, .val (.long j4), .second, .val (.long j6), .second, s8, s9, s10] [(.long j6)])) _
  refine XS.lconst X0.here hx rfl (hb hby d5_98) ?_
  show Steps p.tables e below (T0.setTop (mkF m 99 #[s0, s1, s2, s3, .val (.long j4), .second, .val (.long j6), .second, s8, s9, s10] [(.long (0 : Int64)), (.long j6)])) _
  refine XS.lcmp X0.here hx rfl (hb hby d5_99) rfl ?_
  show Steps p.tables e below (T0.setTop (mkF m 100 #[s0, s1, s2, s3, .val (.long j4), .second, .val (.long j6), .second, s8, s9, s10] [(.int (lcmpW j6 (0 : Int64)))])) _
  refine XS.ifYes X0.here hx rfl (pc0 := 100) (pc' := 107) rfl (hb hby d5_100) rfl ((if0 _ _).trans (flt hc100).2.1) (by decide) (by decide) ?_
  show Steps p.tables e below (T0.setTop (mkF m 107 #[s0, s1, s2, s3, .val (.long j4), .second, .val (.long j6), .second, s8, s9, s10] [])) _
  refine XS.iconst X0.here hx rfl (hb hby d5_107) ?_
  exact kt
set_option maxRecDepth 65536 in
set_option maxHeartbeats 40000000 in
theorem own_s3_fff {p : Program} {l : Launch} {e : Env} {R : Room} {s : State} {m : MethodId} {args : Array Value} {below : List Frame} {meth : Method} {c : Code} {T0 : State} {locs : List Loc} {cells slots : Nat} {Z : State} {a0 : Array Value} {s0 : Slot} {s1 : Slot} {s2 : Slot} {s3 : Slot} {j4 : Int64} {j6 : Int64} {s8 : Slot} {s9 : Slot} {s10 : Slot}
    (X0 : Stand p l e R s m args below meth c T0 locs cells slots) (hx : p.tables.exec = Jvm.exec) (hZ : Z.Warmed39 s.vm) (hw : ∀ d ∈ tables_1, d.before a0 Z = true) (hby : c.code = method_2_code) (hml : c.maxLocals = 11) (hown : s.vm.findClass "runnel/RangeSourceEstimatedSizePinLaw" = some m.cls) (hc84 : ¬ ((lcmpW j4 (-4611686018427387904 : Int64)) < (0 : Int32))) (hc93 : (lcmpW j4 (-4611686018427387904 : Int64)) = (0 : Int32)) (hc100 : (lcmpW j6 (0 : Int64)) < (0 : Int32)) :
      ∀ target, Steps p.tables e below (T0.setTop (mkF m 108 #[s0, s1, s2, s3, .val (.long j4), .second, .val (.long j6), .second, s8, s9, s10] [(.int (1 : Int32))])) target → Steps p.tables e below (T0.setTop (mkF m 78 #[s0, s1, s2, s3, .val (.long j4), .second, .val (.long j6), .second, s8, s9, s10] [])) target := by

  intro target kt
  show Steps p.tables e below (T0.setTop (mkF m 78 #[s0, s1, s2, s3, .val (.long j4), .second, .val (.long j6), .second, s8, s9, s10] [])) _
  refine XS.lload X0.here hx rfl (hb hby d5_78) rfl ?_
  show Steps p.tables e below (T0.setTop (mkF m 80 #[s0, s1, s2, s3, .val (.long j4), .second, .val (.long j6), .second, s8, s9, s10] [(.long j4)])) _
  refine X0.ldc2Long hx hown (mvT hZ (hw _ (List.mem_of_getElem? (i := 29) rfl))) (g := (mkF m 80 #[s0, s1, s2, s3, .val (.long j4), .second, .val (.long j6), .second, s8, s9, s10] [(.long j4)])) rfl (hb hby d5_80) _ ?_
  show Steps p.tables e below (T0.setTop (mkF m 83 #[s0, s1, s2, s3, .val (.long j4), .second, .val (.long j6), .second, s8, s9, s10] [(.long (-4611686018427387904 : Int64)), (.long j4)])) _
  refine XS.lcmp X0.here hx rfl (hb hby d5_83) rfl ?_
  show Steps p.tables e below (T0.setTop (mkF m 84 #[s0, s1, s2, s3, .val (.long j4), .second, .val (.long j6), .second, s8, s9, s10] [(.int (lcmpW j4 (-4611686018427387904 : Int64)))])) _
  refine XS.ifNo X0.here hx rfl (hb hby d5_84) rfl ((if0 _ _).trans (flt hc84).1) ?_
  show Steps p.tables e below (T0.setTop (mkF m 87 #[s0, s1, s2, s3, .val (.long j4), .second, .val (.long j6), .second, s8, s9, s10] [])) _
  refine XS.lload X0.here hx rfl (hb hby d5_87) rfl ?_
  show Steps p.tables e below (T0.setTop (mkF m 89 #[s0, s1, s2, s3, .val (.long j4), .second, .val (.long j6), .second, s8, s9, s10] [(.long j4)])) _
  refine X0.ldc2Long hx hown (mvT hZ (hw _ (List.mem_of_getElem? (i := 29) rfl))) (g := (mkF m 89 #[s0, s1, s2, s3, .val (.long j4), .second, .val (.long j6), .second, s8, s9, s10] [(.long j4)])) rfl (hb hby d5_89) _ ?_
  show Steps p.tables e below (T0.setTop (mkF m 92 #[s0, s1, s2, s3, .val (.long j4), .second, .val (.long j6), .second, s8, s9, s10] [(.long (-4611686018427387904 : Int64)), (.long j4)])) _
  refine XS.lcmp X0.here hx rfl (hb hby d5_92) rfl ?_
  show Steps p.tables e below (T0.setTop (mkF m 93 #[s0, s1, s2, s3, .val (.long j4), .second, .val (.long j6), .second, s8, s9, s10] [(.int (lcmpW j4 (-4611686018427387904 : Int64)))])) _
  refine XS.ifNo X0.here hx rfl (hb hby d5_93) rfl ((if0 _ _).trans (teq hc93).2) ?_
  show Steps p.tables e below (T0.setTop (mkF m 96 #[s0, s1, s2, s3, .val (.long j4), .second, .val (.long j6), .second, s8, s9, s10] [])) _
  refine XS.lload X0.here hx rfl (hb hby d5_96) rfl ?_
  show Steps p.tables e below (T0.setTop (mkF m 98 #[s0, s1, s2, s3, .val (.long j4), .second, .val (.long j6), .second, s8, s9, s10] [(.long j6)])) _
  refine XS.lconst X0.here hx rfl (hb hby d5_98) ?_
  show Steps p.tables e below (T0.setTop (mkF m 99 #[s0, s1, s2, s3, .val (.long j4), .second, .val (.long j6), .second, s8, s9, s10] [(.long (0 : Int64)), (.long j6)])) _
  refine XS.lcmp X0.here hx rfl (hb hby d5_99) rfl ?_
  show Steps p.tables e below (T0.setTop (mkF m 100 #[s0, s1, s2, s3, .val (.long j4), .second, .val (.long j6), .second, s8, s9, s10] [(.int (lcmpW j6 (0 : Int64)))])) _
  refine XS.ifNo X0.here hx rfl (hb hby d5_100) rfl ((if0 _ _).trans (tlt hc100).2.1) ?_
  show Steps p.tables e below (T0.setTop (mkF m 103 #[s0, s1, s2, s3, .val (.long j4), .second, .val (.long j6), .second, s8, s9, s10] [])) _
  refine XS.iconst X0.here hx rfl (hb hby d5_103) ?_
  show Steps p.tables e below (T0.setTop (mkF m 104 #[s0, s1, s2, s3, .val (.long j4), .second, .val (.long j6), .second, s8, s9, s10] [(.int (1 : Int32))])) _
  refine XS.goto X0.here hx rfl (pc0 := 104) (pc' := 108) rfl (hb hby d5_104) (by decide) (by decide) ?_
  exact kt
def own_bm (j4 : Int64) (j6 : Int64) : Int32 := (if (lcmpW j4 (-4611686018427387904 : Int64)) < (0 : Int32) then (1 : Int32) else (if (lcmpW j4 (-4611686018427387904 : Int64)) = (0 : Int32) then (if (lcmpW j6 (0 : Int64)) < (0 : Int32) then (1 : Int32) else (0 : Int32)) else (0 : Int32)))
set_option maxRecDepth 65536 in
set_option maxHeartbeats 40000000 in
theorem own_s3 {p : Program} {l : Launch} {e : Env} {R : Room} {s : State} {m : MethodId} {args : Array Value} {below : List Frame} {meth : Method} {c : Code} {T0 : State} {locs : List Loc} {cells slots : Nat} {Z : State} {a0 : Array Value} {s0 : Slot} {s1 : Slot} {s2 : Slot} {s3 : Slot} {s8 : Slot} {s9 : Slot} {s10 : Slot} {j4 : Int64} {j6 : Int64}
    (X0 : Stand p l e R s m args below meth c T0 locs cells slots) (hx : p.tables.exec = Jvm.exec) (hZ : Z.Warmed39 s.vm) (hw : ∀ d ∈ tables_1, d.before a0 Z = true) (hby : c.code = method_2_code) (hml : c.maxLocals = 11) (hown : s.vm.findClass "runnel/RangeSourceEstimatedSizePinLaw" = some m.cls) :
      ∀ target, Steps p.tables e below (T0.setTop (mkF m 108 #[s0, s1, s2, s3, .val (.long j4), .second, .val (.long j6), .second, s8, s9, s10] [(.int (own_bm j4 j6))])) target → Steps p.tables e below (T0.setTop (mkF m 78 #[s0, s1, s2, s3, .val (.long j4), .second, .val (.long j6), .second, s8, s9, s10] [])) target := by
  intro target kt
  rw [own_bm] at kt
  by_cases hc84 : (lcmpW j4 (-4611686018427387904 : Int64)) < (0 : Int32)
  · rw [if_pos hc84] at kt
    exact own_s3_t X0 hx hZ hw hby hml hown hc84 target kt
  · rw [if_neg hc84] at kt
    by_cases hc93 : (lcmpW j4 (-4611686018427387904 : Int64)) = (0 : Int32)
    · rw [if_pos hc93] at kt
      by_cases hc100 : (lcmpW j6 (0 : Int64)) < (0 : Int32)
      · rw [if_pos hc100] at kt
        exact own_s3_fff X0 hx hZ hw hby hml hown hc84 hc93 hc100 target kt
      · rw [if_neg hc100] at kt
        exact own_s3_fft X0 hx hZ hw hby hml hown hc84 hc93 hc100 target kt
    · rw [if_neg hc93] at kt
      exact own_s3_ft X0 hx hZ hw hby hml hown hc84 hc93 target kt
theorem d5_110 : decode method_2_code 110 = .ok (.iload 8, 2) := by decide +kernel
theorem d5_112 : decode method_2_code 112 = .ok (.ifCond .eq 8, 3) := by decide +kernel
theorem d5_120 : decode method_2_code 120 = .ok (.iload 10, 2) := by decide +kernel
theorem d5_122 : decode method_2_code 122 = .ok (.ifCond .eq 7, 3) := by decide +kernel
theorem d5_129 : decode method_2_code 129 = .ok (.iconst 0, 1) := by decide +kernel
set_option maxRecDepth 65536 in
set_option maxHeartbeats 40000000 in
theorem own_s4_tt {p : Program} {l : Launch} {e : Env} {R : Room} {s : State} {m : MethodId} {args : Array Value} {below : List Frame} {meth : Method} {c : Code} {T0 : State} {locs : List Loc} {cells slots : Nat} {Z : State} {a0 : Array Value} {s0 : Slot} {s1 : Slot} {s2 : Slot} {s3 : Slot} {s4 : Slot} {s5 : Slot} {s6 : Slot} {s7 : Slot} {i8 : Int32} {s9 : Slot} {i10 : Int32}
    (X0 : Stand p l e R s m args below meth c T0 locs cells slots) (hx : p.tables.exec = Jvm.exec) (hZ : Z.Warmed39 s.vm) (hw : ∀ d ∈ tables_1, d.before a0 Z = true) (hby : c.code = method_2_code) (hml : c.maxLocals = 11) (hown : s.vm.findClass "runnel/RangeSourceEstimatedSizePinLaw" = some m.cls) (hc112 : i8 = (0 : Int32)) (hc122 : i10 = (0 : Int32)) :
      ∀ target, Steps p.tables e below (T0.setTop (mkF m 130 #[s0, s1, s2, s3, s4, s5, s6, s7, .val (.int i8), s9, .val (.int i10)] [(.int (0 : Int32))])) target → Steps p.tables e below (T0.setTop (mkF m 110 #[s0, s1, s2, s3, s4, s5, s6, s7, .val (.int i8), s9, .val (.int i10)] [])) target := by

  intro target kt
  show Steps p.tables e below (T0.setTop (mkF m 110 #[s0, s1, s2, s3, s4, s5, s6, s7, .val (.int i8), s9, .val (.int i10)] [])) _
  refine XS.iload X0.here hx rfl (hb hby d5_110) rfl ?_
  show Steps p.tables e below (T0.setTop (mkF m 112 #[s0, s1, s2, s3, s4, s5, s6, s7, .val (.int i8), s9, .val (.int i10)] [(.int i8)])) _
  refine XS.ifYes X0.here hx rfl (pc0 := 112) (pc' := 120) rfl (hb hby d5_112) rfl ((if0 _ _).trans (teq hc112).1) (by decide) (by decide) ?_
  show Steps p.tables e below (T0.setTop (mkF m 120 #[s0, s1, s2, s3, s4, s5, s6, s7, .val (.int i8), s9, .val (.int i10)] [])) _
  refine XS.iload X0.here hx rfl (hb hby d5_120) rfl ?_
  show Steps p.tables e below (T0.setTop (mkF m 122 #[s0, s1, s2, s3, s4, s5, s6, s7, .val (.int i8), s9, .val (.int i10)] [(.int i10)])) _
  refine XS.ifYes X0.here hx rfl (pc0 := 122) (pc' := 129) rfl (hb hby d5_122) rfl ((if0 _ _).trans (teq hc122).1) (by decide) (by decide) ?_
  show Steps p.tables e below (T0.setTop (mkF m 129 #[s0, s1, s2, s3, s4, s5, s6, s7, .val (.int i8), s9, .val (.int i10)] [])) _
  refine XS.iconst X0.here hx rfl (hb hby d5_129) ?_
  exact kt
theorem d5_125 : decode method_2_code 125 = .ok (.iconst 1, 1) := by decide +kernel
theorem d5_126 : decode method_2_code 126 = .ok (.goto 4, 3) := by decide +kernel
set_option maxRecDepth 65536 in
set_option maxHeartbeats 40000000 in
theorem own_s4_tf {p : Program} {l : Launch} {e : Env} {R : Room} {s : State} {m : MethodId} {args : Array Value} {below : List Frame} {meth : Method} {c : Code} {T0 : State} {locs : List Loc} {cells slots : Nat} {Z : State} {a0 : Array Value} {s0 : Slot} {s1 : Slot} {s2 : Slot} {s3 : Slot} {s4 : Slot} {s5 : Slot} {s6 : Slot} {s7 : Slot} {i8 : Int32} {s9 : Slot} {i10 : Int32}
    (X0 : Stand p l e R s m args below meth c T0 locs cells slots) (hx : p.tables.exec = Jvm.exec) (hZ : Z.Warmed39 s.vm) (hw : ∀ d ∈ tables_1, d.before a0 Z = true) (hby : c.code = method_2_code) (hml : c.maxLocals = 11) (hown : s.vm.findClass "runnel/RangeSourceEstimatedSizePinLaw" = some m.cls) (hc112 : i8 = (0 : Int32)) (hc122 : ¬ (i10 = (0 : Int32))) :
      ∀ target, Steps p.tables e below (T0.setTop (mkF m 130 #[s0, s1, s2, s3, s4, s5, s6, s7, .val (.int i8), s9, .val (.int i10)] [(.int (1 : Int32))])) target → Steps p.tables e below (T0.setTop (mkF m 110 #[s0, s1, s2, s3, s4, s5, s6, s7, .val (.int i8), s9, .val (.int i10)] [])) target := by

  intro target kt
  show Steps p.tables e below (T0.setTop (mkF m 110 #[s0, s1, s2, s3, s4, s5, s6, s7, .val (.int i8), s9, .val (.int i10)] [])) _
  refine XS.iload X0.here hx rfl (hb hby d5_110) rfl ?_
  show Steps p.tables e below (T0.setTop (mkF m 112 #[s0, s1, s2, s3, s4, s5, s6, s7, .val (.int i8), s9, .val (.int i10)] [(.int i8)])) _
  refine XS.ifYes X0.here hx rfl (pc0 := 112) (pc' := 120) rfl (hb hby d5_112) rfl ((if0 _ _).trans (teq hc112).1) (by decide) (by decide) ?_
  show Steps p.tables e below (T0.setTop (mkF m 120 #[s0, s1, s2, s3, s4, s5, s6, s7, .val (.int i8), s9, .val (.int i10)] [])) _
  refine XS.iload X0.here hx rfl (hb hby d5_120) rfl ?_
  show Steps p.tables e below (T0.setTop (mkF m 122 #[s0, s1, s2, s3, s4, s5, s6, s7, .val (.int i8), s9, .val (.int i10)] [(.int i10)])) _
  refine XS.ifNo X0.here hx rfl (hb hby d5_122) rfl ((if0 _ _).trans (feq hc122).1) ?_
  show Steps p.tables e below (T0.setTop (mkF m 125 #[s0, s1, s2, s3, s4, s5, s6, s7, .val (.int i8), s9, .val (.int i10)] [])) _
  refine XS.iconst X0.here hx rfl (hb hby d5_125) ?_
  show Steps p.tables e below (T0.setTop (mkF m 126 #[s0, s1, s2, s3, s4, s5, s6, s7, .val (.int i8), s9, .val (.int i10)] [(.int (1 : Int32))])) _
  refine XS.goto X0.here hx rfl (pc0 := 126) (pc' := 130) rfl (hb hby d5_126) (by decide) (by decide) ?_
  exact kt
theorem d5_115 : decode method_2_code 115 = .ok (.iload 9, 2) := by decide +kernel
theorem d5_117 : decode method_2_code 117 = .ok (.ifCond .ne 8, 3) := by decide +kernel
set_option maxRecDepth 65536 in
set_option maxHeartbeats 40000000 in
theorem own_s4_ft {p : Program} {l : Launch} {e : Env} {R : Room} {s : State} {m : MethodId} {args : Array Value} {below : List Frame} {meth : Method} {c : Code} {T0 : State} {locs : List Loc} {cells slots : Nat} {Z : State} {a0 : Array Value} {s0 : Slot} {s1 : Slot} {s2 : Slot} {s3 : Slot} {s4 : Slot} {s5 : Slot} {s6 : Slot} {s7 : Slot} {i8 : Int32} {i9 : Int32} {s10 : Slot}
    (X0 : Stand p l e R s m args below meth c T0 locs cells slots) (hx : p.tables.exec = Jvm.exec) (hZ : Z.Warmed39 s.vm) (hw : ∀ d ∈ tables_1, d.before a0 Z = true) (hby : c.code = method_2_code) (hml : c.maxLocals = 11) (hown : s.vm.findClass "runnel/RangeSourceEstimatedSizePinLaw" = some m.cls) (hc112 : ¬ (i8 = (0 : Int32))) (hc117 : ¬ (i9 = (0 : Int32))) :
      ∀ target, Steps p.tables e below (T0.setTop (mkF m 130 #[s0, s1, s2, s3, s4, s5, s6, s7, .val (.int i8), .val (.int i9), s10] [(.int (1 : Int32))])) target → Steps p.tables e below (T0.setTop (mkF m 110 #[s0, s1, s2, s3, s4, s5, s6, s7, .val (.int i8), .val (.int i9), s10] [])) target := by

  intro target kt
  show Steps p.tables e below (T0.setTop (mkF m 110 #[s0, s1, s2, s3, s4, s5, s6, s7, .val (.int i8), .val (.int i9), s10] [])) _
  refine XS.iload X0.here hx rfl (hb hby d5_110) rfl ?_
  show Steps p.tables e below (T0.setTop (mkF m 112 #[s0, s1, s2, s3, s4, s5, s6, s7, .val (.int i8), .val (.int i9), s10] [(.int i8)])) _
  refine XS.ifNo X0.here hx rfl (hb hby d5_112) rfl ((if0 _ _).trans (feq hc112).1) ?_
  show Steps p.tables e below (T0.setTop (mkF m 115 #[s0, s1, s2, s3, s4, s5, s6, s7, .val (.int i8), .val (.int i9), s10] [])) _
  refine XS.iload X0.here hx rfl (hb hby d5_115) rfl ?_
  show Steps p.tables e below (T0.setTop (mkF m 117 #[s0, s1, s2, s3, s4, s5, s6, s7, .val (.int i8), .val (.int i9), s10] [(.int i9)])) _
  refine XS.ifYes X0.here hx rfl (pc0 := 117) (pc' := 125) rfl (hb hby d5_117) rfl ((if0 _ _).trans (feq hc117).2) (by decide) (by decide) ?_
  show Steps p.tables e below (T0.setTop (mkF m 125 #[s0, s1, s2, s3, s4, s5, s6, s7, .val (.int i8), .val (.int i9), s10] [])) _
  refine XS.iconst X0.here hx rfl (hb hby d5_125) ?_
  show Steps p.tables e below (T0.setTop (mkF m 126 #[s0, s1, s2, s3, s4, s5, s6, s7, .val (.int i8), .val (.int i9), s10] [(.int (1 : Int32))])) _
  refine XS.goto X0.here hx rfl (pc0 := 126) (pc' := 130) rfl (hb hby d5_126) (by decide) (by decide) ?_
  exact kt
set_option maxRecDepth 65536 in
set_option maxHeartbeats 40000000 in
theorem own_s4_fft {p : Program} {l : Launch} {e : Env} {R : Room} {s : State} {m : MethodId} {args : Array Value} {below : List Frame} {meth : Method} {c : Code} {T0 : State} {locs : List Loc} {cells slots : Nat} {Z : State} {a0 : Array Value} {s0 : Slot} {s1 : Slot} {s2 : Slot} {s3 : Slot} {s4 : Slot} {s5 : Slot} {s6 : Slot} {s7 : Slot} {i8 : Int32} {i9 : Int32} {i10 : Int32}
    (X0 : Stand p l e R s m args below meth c T0 locs cells slots) (hx : p.tables.exec = Jvm.exec) (hZ : Z.Warmed39 s.vm) (hw : ∀ d ∈ tables_1, d.before a0 Z = true) (hby : c.code = method_2_code) (hml : c.maxLocals = 11) (hown : s.vm.findClass "runnel/RangeSourceEstimatedSizePinLaw" = some m.cls) (hc112 : ¬ (i8 = (0 : Int32))) (hc117 : i9 = (0 : Int32)) (hc122 : i10 = (0 : Int32)) :
      ∀ target, Steps p.tables e below (T0.setTop (mkF m 130 #[s0, s1, s2, s3, s4, s5, s6, s7, .val (.int i8), .val (.int i9), .val (.int i10)] [(.int (0 : Int32))])) target → Steps p.tables e below (T0.setTop (mkF m 110 #[s0, s1, s2, s3, s4, s5, s6, s7, .val (.int i8), .val (.int i9), .val (.int i10)] [])) target := by

  intro target kt
  show Steps p.tables e below (T0.setTop (mkF m 110 #[s0, s1, s2, s3, s4, s5, s6, s7, .val (.int i8), .val (.int i9), .val (.int i10)] [])) _
  refine XS.iload X0.here hx rfl (hb hby d5_110) rfl ?_
  show Steps p.tables e below (T0.setTop (mkF m 112 #[s0, s1, s2, s3, s4, s5, s6, s7, .val (.int i8), .val (.int i9), .val (.int i10)] [(.int i8)])) _
  refine XS.ifNo X0.here hx rfl (hb hby d5_112) rfl ((if0 _ _).trans (feq hc112).1) ?_
  show Steps p.tables e below (T0.setTop (mkF m 115 #[s0, s1, s2, s3, s4, s5, s6, s7, .val (.int i8), .val (.int i9), .val (.int i10)] [])) _
  refine XS.iload X0.here hx rfl (hb hby d5_115) rfl ?_
  show Steps p.tables e below (T0.setTop (mkF m 117 #[s0, s1, s2, s3, s4, s5, s6, s7, .val (.int i8), .val (.int i9), .val (.int i10)] [(.int i9)])) _
  refine XS.ifNo X0.here hx rfl (hb hby d5_117) rfl ((if0 _ _).trans (teq hc117).2) ?_
  show Steps p.tables e below (T0.setTop (mkF m 120 #[s0, s1, s2, s3, s4, s5, s6, s7, .val (.int i8), .val (.int i9), .val (.int i10)] [])) _
  refine XS.iload X0.here hx rfl (hb hby d5_120) rfl ?_
  show Steps p.tables e below (T0.setTop (mkF m 122 #[s0, s1, s2, s3, s4, s5, s6, s7, .val (.int i8), .val (.int i9), .val (.int i10)] [(.int i10)])) _
  refine XS.ifYes X0.here hx rfl (pc0 := 122) (pc' := 129) rfl (hb hby d5_122) rfl ((if0 _ _).trans (teq hc122).1) (by decide) (by decide) ?_
  show Steps p.tables e below (T0.setTop (mkF m 129 #[s0, s1, s2, s3, s4, s5, s6, s7, .val (.int i8), .val (.int i9), .val (.int i10)] [])) _
  refine XS.iconst X0.here hx rfl (hb hby d5_129) ?_
  exact kt
set_option maxRecDepth 65536 in
set_option maxHeartbeats 40000000 in
theorem own_s4_fff {p : Program} {l : Launch} {e : Env} {R : Room} {s : State} {m : MethodId} {args : Array Value} {below : List Frame} {meth : Method} {c : Code} {T0 : State} {locs : List Loc} {cells slots : Nat} {Z : State} {a0 : Array Value} {s0 : Slot} {s1 : Slot} {s2 : Slot} {s3 : Slot} {s4 : Slot} {s5 : Slot} {s6 : Slot} {s7 : Slot} {i8 : Int32} {i9 : Int32} {i10 : Int32}
    (X0 : Stand p l e R s m args below meth c T0 locs cells slots) (hx : p.tables.exec = Jvm.exec) (hZ : Z.Warmed39 s.vm) (hw : ∀ d ∈ tables_1, d.before a0 Z = true) (hby : c.code = method_2_code) (hml : c.maxLocals = 11) (hown : s.vm.findClass "runnel/RangeSourceEstimatedSizePinLaw" = some m.cls) (hc112 : ¬ (i8 = (0 : Int32))) (hc117 : i9 = (0 : Int32)) (hc122 : ¬ (i10 = (0 : Int32))) :
      ∀ target, Steps p.tables e below (T0.setTop (mkF m 130 #[s0, s1, s2, s3, s4, s5, s6, s7, .val (.int i8), .val (.int i9), .val (.int i10)] [(.int (1 : Int32))])) target → Steps p.tables e below (T0.setTop (mkF m 110 #[s0, s1, s2, s3, s4, s5, s6, s7, .val (.int i8), .val (.int i9), .val (.int i10)] [])) target := by

  intro target kt
  show Steps p.tables e below (T0.setTop (mkF m 110 #[s0, s1, s2, s3, s4, s5, s6, s7, .val (.int i8), .val (.int i9), .val (.int i10)] [])) _
  refine XS.iload X0.here hx rfl (hb hby d5_110) rfl ?_
  show Steps p.tables e below (T0.setTop (mkF m 112 #[s0, s1, s2, s3, s4, s5, s6, s7, .val (.int i8), .val (.int i9), .val (.int i10)] [(.int i8)])) _
  refine XS.ifNo X0.here hx rfl (hb hby d5_112) rfl ((if0 _ _).trans (feq hc112).1) ?_
  show Steps p.tables e below (T0.setTop (mkF m 115 #[s0, s1, s2, s3, s4, s5, s6, s7, .val (.int i8), .val (.int i9), .val (.int i10)] [])) _
  refine XS.iload X0.here hx rfl (hb hby d5_115) rfl ?_
  show Steps p.tables e below (T0.setTop (mkF m 117 #[s0, s1, s2, s3, s4, s5, s6, s7, .val (.int i8), .val (.int i9), .val (.int i10)] [(.int i9)])) _
  refine XS.ifNo X0.here hx rfl (hb hby d5_117) rfl ((if0 _ _).trans (teq hc117).2) ?_
  show Steps p.tables e below (T0.setTop (mkF m 120 #[s0, s1, s2, s3, s4, s5, s6, s7, .val (.int i8), .val (.int i9), .val (.int i10)] [])) _
  refine XS.iload X0.here hx rfl (hb hby d5_120) rfl ?_
  show Steps p.tables e below (T0.setTop (mkF m 122 #[s0, s1, s2, s3, s4, s5, s6, s7, .val (.int i8), .val (.int i9), .val (.int i10)] [(.int i10)])) _
  refine XS.ifNo X0.here hx rfl (hb hby d5_122) rfl ((if0 _ _).trans (feq hc122).1) ?_
  show Steps p.tables e below (T0.setTop (mkF m 125 #[s0, s1, s2, s3, s4, s5, s6, s7, .val (.int i8), .val (.int i9), .val (.int i10)] [])) _
  refine XS.iconst X0.here hx rfl (hb hby d5_125) ?_
  show Steps p.tables e below (T0.setTop (mkF m 126 #[s0, s1, s2, s3, s4, s5, s6, s7, .val (.int i8), .val (.int i9), .val (.int i10)] [(.int (1 : Int32))])) _
  refine XS.goto X0.here hx rfl (pc0 := 126) (pc' := 130) rfl (hb hby d5_126) (by decide) (by decide) ?_
  exact kt
def own_kf (i8 : Int32) (i9 : Int32) (i10 : Int32) : Int32 := (if i8 = (0 : Int32) then (if i10 = (0 : Int32) then (0 : Int32) else (1 : Int32)) else (if i9 = (0 : Int32) then (if i10 = (0 : Int32) then (0 : Int32) else (1 : Int32)) else (1 : Int32)))
set_option maxRecDepth 65536 in
set_option maxHeartbeats 40000000 in
theorem own_s4 {p : Program} {l : Launch} {e : Env} {R : Room} {s : State} {m : MethodId} {args : Array Value} {below : List Frame} {meth : Method} {c : Code} {T0 : State} {locs : List Loc} {cells slots : Nat} {Z : State} {a0 : Array Value} {s0 : Slot} {s1 : Slot} {s2 : Slot} {s3 : Slot} {s4 : Slot} {s5 : Slot} {s6 : Slot} {s7 : Slot} {i8 : Int32} {i9 : Int32} {i10 : Int32}
    (X0 : Stand p l e R s m args below meth c T0 locs cells slots) (hx : p.tables.exec = Jvm.exec) (hZ : Z.Warmed39 s.vm) (hw : ∀ d ∈ tables_1, d.before a0 Z = true) (hby : c.code = method_2_code) (hml : c.maxLocals = 11) (hown : s.vm.findClass "runnel/RangeSourceEstimatedSizePinLaw" = some m.cls) :
      ∀ target, Steps p.tables e below (T0.setTop (mkF m 130 #[s0, s1, s2, s3, s4, s5, s6, s7, .val (.int i8), .val (.int i9), .val (.int i10)] [(.int (own_kf i8 i9 i10))])) target → Steps p.tables e below (T0.setTop (mkF m 110 #[s0, s1, s2, s3, s4, s5, s6, s7, .val (.int i8), .val (.int i9), .val (.int i10)] [])) target := by
  intro target kt
  rw [own_kf] at kt
  by_cases hc112 : i8 = (0 : Int32)
  · rw [if_pos hc112] at kt
    by_cases hc122 : i10 = (0 : Int32)
    · rw [if_pos hc122] at kt
      exact own_s4_tt X0 hx hZ hw hby hml hown hc112 hc122 target kt
    · rw [if_neg hc122] at kt
      exact own_s4_tf X0 hx hZ hw hby hml hown hc112 hc122 target kt
  · rw [if_neg hc112] at kt
    by_cases hc117 : i9 = (0 : Int32)
    · rw [if_pos hc117] at kt
      by_cases hc122 : i10 = (0 : Int32)
      · rw [if_pos hc122] at kt
        exact own_s4_fft X0 hx hZ hw hby hml hown hc112 hc117 hc122 target kt
      · rw [if_neg hc122] at kt
        exact own_s4_fff X0 hx hZ hw hby hml hown hc112 hc117 hc122 target kt
    · rw [if_neg hc117] at kt
      exact own_s4_ft X0 hx hZ hw hby hml hown hc112 hc117 target kt
def own_kn (q1 q2 : Int64) : Int32 := (own_kf (own_nn ((q2 >>> ((1 : Int32) &&& 0x3f).toInt64) - (q1 >>> ((1 : Int32) &&& 0x3f).toInt64)) ((q2 &&& (1 : Int64)) - (q1 &&& (1 : Int64)))) (own_am ((q2 >>> ((1 : Int32) &&& 0x3f).toInt64) - (q1 >>> ((1 : Int32) &&& 0x3f).toInt64)) ((q2 &&& (1 : Int64)) - (q1 &&& (1 : Int64)))) (own_bm ((q2 >>> ((1 : Int32) &&& 0x3f).toInt64) - (q1 >>> ((1 : Int32) &&& 0x3f).toInt64)) ((q2 &&& (1 : Int64)) - (q1 &&& (1 : Int64)))))
theorem own_kf_nar (a b c : Int32) : nar .boolean (own_kf a b c) = own_kf a b c := by
  unfold own_kf
  split
  · split <;> decide
  · split
    · split <;> decide
    · decide
theorem d5_0 : decode method_2_code 0 = .ok (.lload_n 2, 1) := by decide +kernel
theorem d5_1 : decode method_2_code 1 = .ok (.iconst 1, 1) := by decide +kernel
theorem d5_2 : decode method_2_code 2 = .ok (.lshr, 1) := by decide +kernel
theorem d5_3 : decode method_2_code 3 = .ok (.lload_n 0, 1) := by decide +kernel
theorem d5_4 : decode method_2_code 4 = .ok (.iconst 1, 1) := by decide +kernel
theorem d5_5 : decode method_2_code 5 = .ok (.lshr, 1) := by decide +kernel
theorem d5_6 : decode method_2_code 6 = .ok (.lsub, 1) := by decide +kernel
theorem d5_7 : decode method_2_code 7 = .ok (.lstore 4, 2) := by decide +kernel
theorem d5_9 : decode method_2_code 9 = .ok (.lload_n 2, 1) := by decide +kernel
theorem d5_10 : decode method_2_code 10 = .ok (.lconst 1, 1) := by decide +kernel
theorem d5_11 : decode method_2_code 11 = .ok (.land, 1) := by decide +kernel
theorem d5_12 : decode method_2_code 12 = .ok (.lload_n 0, 1) := by decide +kernel
theorem d5_13 : decode method_2_code 13 = .ok (.lconst 1, 1) := by decide +kernel
theorem d5_14 : decode method_2_code 14 = .ok (.land, 1) := by decide +kernel
theorem d5_15 : decode method_2_code 15 = .ok (.lsub, 1) := by decide +kernel
theorem d5_16 : decode method_2_code 16 = .ok (.lstore 6, 2) := by decide +kernel
theorem d5_44 : decode method_2_code 44 = .ok (.istore 8, 2) := by decide +kernel
theorem d5_76 : decode method_2_code 76 = .ok (.istore 9, 2) := by decide +kernel
theorem d5_108 : decode method_2_code 108 = .ok (.istore 10, 2) := by decide +kernel
theorem d5_130 : decode method_2_code 130 = .ok (.ireturn, 1) := by decide +kernel
theorem pn_5 : plainName "runnel/RangeSourceEstimatedSizePinLaw" = true := by first | (simp [plainName, overriddenIn]; done) | decide +kernel
theorem ef_5 (m : MethodId) (x0 : Int64) (x1 : Int64) : entryFrame m #[(.long x0), (.long x1)] 11 = mkF m 0 #[.val (.long x0), .second, .val (.long x1), .second, .unset, .unset, .unset, .unset, .unset, .unset, .unset] [] := by first | (simp [entryFrame, mkF, argsToLocals, Value.category]; done) | rfl
def Q5 (Z : State) (q1 : Int64) (q2 : Int64) (h0 : Heap) (n0 : Nat) (v : Option Value) (h : Heap) (L : List Loc) : Prop := v = some (.int (own_kn q1 q2)) ∧ Fr n0 L ∧ h = h0
set_option maxRecDepth 65536 in
set_option maxHeartbeats 40000000 in
theorem rm5 (l : Launch) (Z : State) (a0 : Array Value) (hw : ∀ d ∈ tables_1, d.before a0 Z = true) (ws : List Jvm.Cond) (q1 : Int64) (q2 : Int64) (h0 : Heap) (n0 : Nat) (Z0 : n0 ≤ h0.size) :
    MetFree l (⟨"runnel/RangeSourceEstimatedSizePinLaw", "known", "(JJ)Z"⟩ : MethodName) (head1 (Jvm.Cond.code (⟨"runnel/RangeSourceEstimatedSizePinLaw", "known", "(JJ)Z"⟩ : MethodName) method_2_code 11 (some .boolean) :: ws) ({ frames := 0, cells := 0, slots := 0, locals := 0 } : Room)) (fun a U => a = #[(.long q1), (.long q2)] ∧ Z.Warmed39 U.vm ∧ U.heap = h0) (fun _ _ _ _ _ => True) (fun _ U o U' => ∃ v L, o = .returned v ∧ Q5 Z q1 q2 h0 n0 v U'.heap L ∧ FrameEnd U o U' L ({ frames := 0, cells := 0, slots := 0, locals := 0 } : Room).cells ({ frames := 0, cells := 0, slots := 0, locals := 0 } : Room).slots) := by
  refine MetFree.of_bodySF (plainFor_of_name pn_5) hisR ?_
  intro p e s m args below meth c s₁ Bd hml0 hP hK
  obtain ⟨rfl, hZ, hh⟩ := hP
  have hx := Bd.exec
  have hby := Bd.bytes
  have hml : c.maxLocals = 11 := hml0
  have hown : s.vm.findClass "runnel/RangeSourceEstimatedSizePinLaw" = some m.cls := findClass_of_methodNamed Bd.named
  have hnm := (name_of_methodNamed Bd.named Bd.method).1
  have X0 : Stand p l e ({ frames := 0, cells := 0, slots := 0, locals := 0 } : Room) s m #[(.long q1), (.long q2)] below meth c s₁ [] 0 0 := Stand.of_body Bd
  have e0 : s₁.heap = h0 := by rw [← hh, Bd.state]; rfl
  have N0 := Fr.nil n0
  have pre0 : ∀ t, Steps p.tables e below (s₁.setTop (mkF m 0 #[.val (.long q1), .second, .val (.long q2), .second, .unset, .unset, .unset, .unset, .unset, .unset, .unset] [])) t → Steps p.tables e below (s₁.setTop (entryFrame m #[(.long q1), (.long q2)] 11)) t := fun t k => castTop (ef_5 m q1 q2) k

  obtain ⟨fs, hr, hrun, hended, hW, hsame⟩ := X0.leave (v := some (.int (nar .boolean (own_kf (own_nn ((q2 >>> ((1 : Int32) &&& 0x3f).toInt64) - (q1 >>> ((1 : Int32) &&& 0x3f).toInt64)) ((q2 &&& (1 : Int64)) - (q1 &&& (1 : Int64)))) (own_am ((q2 >>> ((1 : Int32) &&& 0x3f).toInt64) - (q1 >>> ((1 : Int32) &&& 0x3f).toInt64)) ((q2 &&& (1 : Int64)) - (q1 &&& (1 : Int64)))) (own_bm ((q2 >>> ((1 : Int32) &&& 0x3f).toInt64) - (q1 >>> ((1 : Int32) &&& 0x3f).toInt64)) ((q2 &&& (1 : Int64)) - (q1 &&& (1 : Int64)))))))) (fun h => by rw [Bd.returns] at h; cases h)
  refine ⟨_, _, pre0 _ ?_, hrun, hended, _, _, rfl, ?_, ⟨_, rfl⟩, hW, hsame.mono (by decide) (by decide)⟩
  · show Steps p.tables e below (s₁.setTop (mkF m 0 #[.val (.long q1), .second, .val (.long q2), .second, .unset, .unset, .unset, .unset, .unset, .unset, .unset] [])) _
    refine XS.lloadN X0.here hx rfl (hb hby d5_0) rfl ?_
    show Steps p.tables e below (s₁.setTop (mkF m 1 #[.val (.long q1), .second, .val (.long q2), .second, .unset, .unset, .unset, .unset, .unset, .unset, .unset] [(.long q2)])) _
    refine XS.iconst X0.here hx rfl (hb hby d5_1) ?_
    show Steps p.tables e below (s₁.setTop (mkF m 2 #[.val (.long q1), .second, .val (.long q2), .second, .unset, .unset, .unset, .unset, .unset, .unset, .unset] [(.int (1 : Int32)), (.long q2)])) _
    refine XS.lshr X0.here hx rfl (hb hby d5_2) rfl ?_
    show Steps p.tables e below (s₁.setTop (mkF m 3 #[.val (.long q1), .second, .val (.long q2), .second, .unset, .unset, .unset, .unset, .unset, .unset, .unset] [(.long (q2 >>> ((1 : Int32) &&& 0x3f).toInt64))])) _
    refine XS.lloadN X0.here hx rfl (hb hby d5_3) rfl ?_
    show Steps p.tables e below (s₁.setTop (mkF m 4 #[.val (.long q1), .second, .val (.long q2), .second, .unset, .unset, .unset, .unset, .unset, .unset, .unset] [(.long q1), (.long (q2 >>> ((1 : Int32) &&& 0x3f).toInt64))])) _
    refine XS.iconst X0.here hx rfl (hb hby d5_4) ?_
    show Steps p.tables e below (s₁.setTop (mkF m 5 #[.val (.long q1), .second, .val (.long q2), .second, .unset, .unset, .unset, .unset, .unset, .unset, .unset] [(.int (1 : Int32)), (.long q1), (.long (q2 >>> ((1 : Int32) &&& 0x3f).toInt64))])) _
    refine XS.lshr X0.here hx rfl (hb hby d5_5) rfl ?_
    show Steps p.tables e below (s₁.setTop (mkF m 6 #[.val (.long q1), .second, .val (.long q2), .second, .unset, .unset, .unset, .unset, .unset, .unset, .unset] [(.long (q1 >>> ((1 : Int32) &&& 0x3f).toInt64)), (.long (q2 >>> ((1 : Int32) &&& 0x3f).toInt64))])) _
    refine XS.lsub X0.here hx rfl (hb hby d5_6) rfl ?_
    show Steps p.tables e below (s₁.setTop (mkF m 7 #[.val (.long q1), .second, .val (.long q2), .second, .unset, .unset, .unset, .unset, .unset, .unset, .unset] [(.long ((q2 >>> ((1 : Int32) &&& 0x3f).toInt64) - (q1 >>> ((1 : Int32) &&& 0x3f).toInt64)))])) _
    refine XS.lstore X0.here hx rfl (hb hby d5_7) rfl (l' := #[.val (.long q1), .second, .val (.long q2), .second, .val (.long ((q2 >>> ((1 : Int32) &&& 0x3f).toInt64) - (q1 >>> ((1 : Int32) &&& 0x3f).toInt64))), .second, .unset, .unset, .unset, .unset, .unset]) rfl ?_
    show Steps p.tables e below (s₁.setTop (mkF m 9 #[.val (.long q1), .second, .val (.long q2), .second, .val (.long ((q2 >>> ((1 : Int32) &&& 0x3f).toInt64) - (q1 >>> ((1 : Int32) &&& 0x3f).toInt64))), .second, .unset, .unset, .unset, .unset, .unset] [])) _
    refine XS.lloadN X0.here hx rfl (hb hby d5_9) rfl ?_
    show Steps p.tables e below (s₁.setTop (mkF m 10 #[.val (.long q1), .second, .val (.long q2), .second, .val (.long ((q2 >>> ((1 : Int32) &&& 0x3f).toInt64) - (q1 >>> ((1 : Int32) &&& 0x3f).toInt64))), .second, .unset, .unset, .unset, .unset, .unset] [(.long q2)])) _
    refine XS.lconst X0.here hx rfl (hb hby d5_10) ?_
    show Steps p.tables e below (s₁.setTop (mkF m 11 #[.val (.long q1), .second, .val (.long q2), .second, .val (.long ((q2 >>> ((1 : Int32) &&& 0x3f).toInt64) - (q1 >>> ((1 : Int32) &&& 0x3f).toInt64))), .second, .unset, .unset, .unset, .unset, .unset] [(.long (1 : Int64)), (.long q2)])) _
    refine XS.land X0.here hx rfl (hb hby d5_11) rfl ?_
    show Steps p.tables e below (s₁.setTop (mkF m 12 #[.val (.long q1), .second, .val (.long q2), .second, .val (.long ((q2 >>> ((1 : Int32) &&& 0x3f).toInt64) - (q1 >>> ((1 : Int32) &&& 0x3f).toInt64))), .second, .unset, .unset, .unset, .unset, .unset] [(.long (q2 &&& (1 : Int64)))])) _
    refine XS.lloadN X0.here hx rfl (hb hby d5_12) rfl ?_
    show Steps p.tables e below (s₁.setTop (mkF m 13 #[.val (.long q1), .second, .val (.long q2), .second, .val (.long ((q2 >>> ((1 : Int32) &&& 0x3f).toInt64) - (q1 >>> ((1 : Int32) &&& 0x3f).toInt64))), .second, .unset, .unset, .unset, .unset, .unset] [(.long q1), (.long (q2 &&& (1 : Int64)))])) _
    refine XS.lconst X0.here hx rfl (hb hby d5_13) ?_
    show Steps p.tables e below (s₁.setTop (mkF m 14 #[.val (.long q1), .second, .val (.long q2), .second, .val (.long ((q2 >>> ((1 : Int32) &&& 0x3f).toInt64) - (q1 >>> ((1 : Int32) &&& 0x3f).toInt64))), .second, .unset, .unset, .unset, .unset, .unset] [(.long (1 : Int64)), (.long q1), (.long (q2 &&& (1 : Int64)))])) _
    refine XS.land X0.here hx rfl (hb hby d5_14) rfl ?_
    show Steps p.tables e below (s₁.setTop (mkF m 15 #[.val (.long q1), .second, .val (.long q2), .second, .val (.long ((q2 >>> ((1 : Int32) &&& 0x3f).toInt64) - (q1 >>> ((1 : Int32) &&& 0x3f).toInt64))), .second, .unset, .unset, .unset, .unset, .unset] [(.long (q1 &&& (1 : Int64))), (.long (q2 &&& (1 : Int64)))])) _
    refine XS.lsub X0.here hx rfl (hb hby d5_15) rfl ?_
    show Steps p.tables e below (s₁.setTop (mkF m 16 #[.val (.long q1), .second, .val (.long q2), .second, .val (.long ((q2 >>> ((1 : Int32) &&& 0x3f).toInt64) - (q1 >>> ((1 : Int32) &&& 0x3f).toInt64))), .second, .unset, .unset, .unset, .unset, .unset] [(.long ((q2 &&& (1 : Int64)) - (q1 &&& (1 : Int64))))])) _
    refine XS.lstore X0.here hx rfl (hb hby d5_16) rfl (l' := #[.val (.long q1), .second, .val (.long q2), .second, .val (.long ((q2 >>> ((1 : Int32) &&& 0x3f).toInt64) - (q1 >>> ((1 : Int32) &&& 0x3f).toInt64))), .second, .val (.long ((q2 &&& (1 : Int64)) - (q1 &&& (1 : Int64)))), .second, .unset, .unset, .unset]) rfl ?_
    show Steps p.tables e below (s₁.setTop (mkF m 18 #[.val (.long q1), .second, .val (.long q2), .second, .val (.long ((q2 >>> ((1 : Int32) &&& 0x3f).toInt64) - (q1 >>> ((1 : Int32) &&& 0x3f).toInt64))), .second, .val (.long ((q2 &&& (1 : Int64)) - (q1 &&& (1 : Int64)))), .second, .unset, .unset, .unset] [])) _
    refine own_s1 X0 hx hZ hw hby hml hown _ ?_
    show Steps p.tables e below (s₁.setTop (mkF m 44 #[.val (.long q1), .second, .val (.long q2), .second, .val (.long ((q2 >>> ((1 : Int32) &&& 0x3f).toInt64) - (q1 >>> ((1 : Int32) &&& 0x3f).toInt64))), .second, .val (.long ((q2 &&& (1 : Int64)) - (q1 &&& (1 : Int64)))), .second, .unset, .unset, .unset] [(.int (own_nn ((q2 >>> ((1 : Int32) &&& 0x3f).toInt64) - (q1 >>> ((1 : Int32) &&& 0x3f).toInt64)) ((q2 &&& (1 : Int64)) - (q1 &&& (1 : Int64)))))])) _
    refine XS.istore X0.here hx rfl (hb hby d5_44) rfl (l' := #[.val (.long q1), .second, .val (.long q2), .second, .val (.long ((q2 >>> ((1 : Int32) &&& 0x3f).toInt64) - (q1 >>> ((1 : Int32) &&& 0x3f).toInt64))), .second, .val (.long ((q2 &&& (1 : Int64)) - (q1 &&& (1 : Int64)))), .second, .val (.int (own_nn ((q2 >>> ((1 : Int32) &&& 0x3f).toInt64) - (q1 >>> ((1 : Int32) &&& 0x3f).toInt64)) ((q2 &&& (1 : Int64)) - (q1 &&& (1 : Int64))))), .unset, .unset]) rfl ?_
    show Steps p.tables e below (s₁.setTop (mkF m 46 #[.val (.long q1), .second, .val (.long q2), .second, .val (.long ((q2 >>> ((1 : Int32) &&& 0x3f).toInt64) - (q1 >>> ((1 : Int32) &&& 0x3f).toInt64))), .second, .val (.long ((q2 &&& (1 : Int64)) - (q1 &&& (1 : Int64)))), .second, .val (.int (own_nn ((q2 >>> ((1 : Int32) &&& 0x3f).toInt64) - (q1 >>> ((1 : Int32) &&& 0x3f).toInt64)) ((q2 &&& (1 : Int64)) - (q1 &&& (1 : Int64))))), .unset, .unset] [])) _
    refine own_s2 X0 hx hZ hw hby hml hown _ ?_
    show Steps p.tables e below (s₁.setTop (mkF m 76 #[.val (.long q1), .second, .val (.long q2), .second, .val (.long ((q2 >>> ((1 : Int32) &&& 0x3f).toInt64) - (q1 >>> ((1 : Int32) &&& 0x3f).toInt64))), .second, .val (.long ((q2 &&& (1 : Int64)) - (q1 &&& (1 : Int64)))), .second, .val (.int (own_nn ((q2 >>> ((1 : Int32) &&& 0x3f).toInt64) - (q1 >>> ((1 : Int32) &&& 0x3f).toInt64)) ((q2 &&& (1 : Int64)) - (q1 &&& (1 : Int64))))), .unset, .unset] [(.int (own_am ((q2 >>> ((1 : Int32) &&& 0x3f).toInt64) - (q1 >>> ((1 : Int32) &&& 0x3f).toInt64)) ((q2 &&& (1 : Int64)) - (q1 &&& (1 : Int64)))))])) _
    refine XS.istore X0.here hx rfl (hb hby d5_76) rfl (l' := #[.val (.long q1), .second, .val (.long q2), .second, .val (.long ((q2 >>> ((1 : Int32) &&& 0x3f).toInt64) - (q1 >>> ((1 : Int32) &&& 0x3f).toInt64))), .second, .val (.long ((q2 &&& (1 : Int64)) - (q1 &&& (1 : Int64)))), .second, .val (.int (own_nn ((q2 >>> ((1 : Int32) &&& 0x3f).toInt64) - (q1 >>> ((1 : Int32) &&& 0x3f).toInt64)) ((q2 &&& (1 : Int64)) - (q1 &&& (1 : Int64))))), .val (.int (own_am ((q2 >>> ((1 : Int32) &&& 0x3f).toInt64) - (q1 >>> ((1 : Int32) &&& 0x3f).toInt64)) ((q2 &&& (1 : Int64)) - (q1 &&& (1 : Int64))))), .unset]) rfl ?_
    show Steps p.tables e below (s₁.setTop (mkF m 78 #[.val (.long q1), .second, .val (.long q2), .second, .val (.long ((q2 >>> ((1 : Int32) &&& 0x3f).toInt64) - (q1 >>> ((1 : Int32) &&& 0x3f).toInt64))), .second, .val (.long ((q2 &&& (1 : Int64)) - (q1 &&& (1 : Int64)))), .second, .val (.int (own_nn ((q2 >>> ((1 : Int32) &&& 0x3f).toInt64) - (q1 >>> ((1 : Int32) &&& 0x3f).toInt64)) ((q2 &&& (1 : Int64)) - (q1 &&& (1 : Int64))))), .val (.int (own_am ((q2 >>> ((1 : Int32) &&& 0x3f).toInt64) - (q1 >>> ((1 : Int32) &&& 0x3f).toInt64)) ((q2 &&& (1 : Int64)) - (q1 &&& (1 : Int64))))), .unset] [])) _
    refine own_s3 X0 hx hZ hw hby hml hown _ ?_
    show Steps p.tables e below (s₁.setTop (mkF m 108 #[.val (.long q1), .second, .val (.long q2), .second, .val (.long ((q2 >>> ((1 : Int32) &&& 0x3f).toInt64) - (q1 >>> ((1 : Int32) &&& 0x3f).toInt64))), .second, .val (.long ((q2 &&& (1 : Int64)) - (q1 &&& (1 : Int64)))), .second, .val (.int (own_nn ((q2 >>> ((1 : Int32) &&& 0x3f).toInt64) - (q1 >>> ((1 : Int32) &&& 0x3f).toInt64)) ((q2 &&& (1 : Int64)) - (q1 &&& (1 : Int64))))), .val (.int (own_am ((q2 >>> ((1 : Int32) &&& 0x3f).toInt64) - (q1 >>> ((1 : Int32) &&& 0x3f).toInt64)) ((q2 &&& (1 : Int64)) - (q1 &&& (1 : Int64))))), .unset] [(.int (own_bm ((q2 >>> ((1 : Int32) &&& 0x3f).toInt64) - (q1 >>> ((1 : Int32) &&& 0x3f).toInt64)) ((q2 &&& (1 : Int64)) - (q1 &&& (1 : Int64)))))])) _
    refine XS.istore X0.here hx rfl (hb hby d5_108) rfl (l' := #[.val (.long q1), .second, .val (.long q2), .second, .val (.long ((q2 >>> ((1 : Int32) &&& 0x3f).toInt64) - (q1 >>> ((1 : Int32) &&& 0x3f).toInt64))), .second, .val (.long ((q2 &&& (1 : Int64)) - (q1 &&& (1 : Int64)))), .second, .val (.int (own_nn ((q2 >>> ((1 : Int32) &&& 0x3f).toInt64) - (q1 >>> ((1 : Int32) &&& 0x3f).toInt64)) ((q2 &&& (1 : Int64)) - (q1 &&& (1 : Int64))))), .val (.int (own_am ((q2 >>> ((1 : Int32) &&& 0x3f).toInt64) - (q1 >>> ((1 : Int32) &&& 0x3f).toInt64)) ((q2 &&& (1 : Int64)) - (q1 &&& (1 : Int64))))), .val (.int (own_bm ((q2 >>> ((1 : Int32) &&& 0x3f).toInt64) - (q1 >>> ((1 : Int32) &&& 0x3f).toInt64)) ((q2 &&& (1 : Int64)) - (q1 &&& (1 : Int64)))))]) rfl ?_
    show Steps p.tables e below (s₁.setTop (mkF m 110 #[.val (.long q1), .second, .val (.long q2), .second, .val (.long ((q2 >>> ((1 : Int32) &&& 0x3f).toInt64) - (q1 >>> ((1 : Int32) &&& 0x3f).toInt64))), .second, .val (.long ((q2 &&& (1 : Int64)) - (q1 &&& (1 : Int64)))), .second, .val (.int (own_nn ((q2 >>> ((1 : Int32) &&& 0x3f).toInt64) - (q1 >>> ((1 : Int32) &&& 0x3f).toInt64)) ((q2 &&& (1 : Int64)) - (q1 &&& (1 : Int64))))), .val (.int (own_am ((q2 >>> ((1 : Int32) &&& 0x3f).toInt64) - (q1 >>> ((1 : Int32) &&& 0x3f).toInt64)) ((q2 &&& (1 : Int64)) - (q1 &&& (1 : Int64))))), .val (.int (own_bm ((q2 >>> ((1 : Int32) &&& 0x3f).toInt64) - (q1 >>> ((1 : Int32) &&& 0x3f).toInt64)) ((q2 &&& (1 : Int64)) - (q1 &&& (1 : Int64)))))] [])) _
    refine own_s4 X0 hx hZ hw hby hml hown _ ?_
    show Steps p.tables e below (s₁.setTop (mkF m 130 #[.val (.long q1), .second, .val (.long q2), .second, .val (.long ((q2 >>> ((1 : Int32) &&& 0x3f).toInt64) - (q1 >>> ((1 : Int32) &&& 0x3f).toInt64))), .second, .val (.long ((q2 &&& (1 : Int64)) - (q1 &&& (1 : Int64)))), .second, .val (.int (own_nn ((q2 >>> ((1 : Int32) &&& 0x3f).toInt64) - (q1 >>> ((1 : Int32) &&& 0x3f).toInt64)) ((q2 &&& (1 : Int64)) - (q1 &&& (1 : Int64))))), .val (.int (own_am ((q2 >>> ((1 : Int32) &&& 0x3f).toInt64) - (q1 >>> ((1 : Int32) &&& 0x3f).toInt64)) ((q2 &&& (1 : Int64)) - (q1 &&& (1 : Int64))))), .val (.int (own_bm ((q2 >>> ((1 : Int32) &&& 0x3f).toInt64) - (q1 >>> ((1 : Int32) &&& 0x3f).toInt64)) ((q2 &&& (1 : Int64)) - (q1 &&& (1 : Int64)))))] [(.int (own_kf (own_nn ((q2 >>> ((1 : Int32) &&& 0x3f).toInt64) - (q1 >>> ((1 : Int32) &&& 0x3f).toInt64)) ((q2 &&& (1 : Int64)) - (q1 &&& (1 : Int64)))) (own_am ((q2 >>> ((1 : Int32) &&& 0x3f).toInt64) - (q1 >>> ((1 : Int32) &&& 0x3f).toInt64)) ((q2 &&& (1 : Int64)) - (q1 &&& (1 : Int64)))) (own_bm ((q2 >>> ((1 : Int32) &&& 0x3f).toInt64) - (q1 >>> ((1 : Int32) &&& 0x3f).toInt64)) ((q2 &&& (1 : Int64)) - (q1 &&& (1 : Int64))))))])) _
    exact retN X0 hx (t := .boolean) Bd.returns (by simp) (hb hby d5_130) hr
  · show Q5 Z q1 q2 h0 n0 _ s₁.heap _
    rw [e0]
    exact ⟨by rw [own_kf_nar, own_kn], N0, rfl⟩
theorem own_nn_i (h b : Int64) : own_nn h b = 0 ↔ ¬ (0 < h.toInt ∨ (h.toInt = 0 ∧ 0 ≤ b.toInt)) := by
  have e0 : (0 : Int64).toInt = 0 := rfl
  unfold own_nn
  simp only [lw_gt, lw_eq, lw_lt, Int64.lt_iff_toInt_lt, ← Int64.toInt_inj, e0]
  split
  · simp; omega
  · split
    · split
      · simp; omega
      · simp; omega
    · simp; omega
theorem own_am_i (h b : Int64) : own_am h b = 0 ↔ ¬ (h.toInt < 4611686018427387904 ∨ (h.toInt = 4611686018427387904 ∧ b.toInt < 0)) := by
  have e0 : (0 : Int64).toInt = 0 := rfl
  have e1 : (4611686018427387904 : Int64).toInt = 4611686018427387904 := rfl
  unfold own_am
  simp only [lw_gt, lw_eq, lw_lt, Int64.lt_iff_toInt_lt, ← Int64.toInt_inj, e0, e1]
  split
  · simp; omega
  · split
    · split
      · simp; omega
      · simp; omega
    · simp; omega
theorem own_bm_i (h b : Int64) : own_bm h b = 0 ↔ ¬ (h.toInt < -4611686018427387904 ∨ (h.toInt = -4611686018427387904 ∧ b.toInt < 0)) := by
  have e0 : (0 : Int64).toInt = 0 := rfl
  have e1 : (-4611686018427387904 : Int64).toInt = -4611686018427387904 := rfl
  unfold own_bm
  simp only [lw_gt, lw_eq, lw_lt, Int64.lt_iff_toInt_lt, ← Int64.toInt_inj, e0, e1]
  split
  · simp; omega
  · split
    · split
      · simp; omega
      · simp; omega
    · simp; omega
theorem own_kf_i (a b c : Int32) : own_kf a b c = 0 ↔ (a = 0 ∨ b = 0) ∧ c = 0 := by
  unfold own_kf
  by_cases h1 : a = 0 <;> by_cases h2 : b = 0 <;> by_cases h3 : c = 0 <;> simp [h1, h2, h3]
theorem own_kn_iff (q1 q2 : Int64) : own_kn q1 q2 = 0 ↔ q2 - q1 < 0 := by
  have s2 := c_lshr q2 1 1 (by decide)
  have s1 := c_lshr q1 1 1 (by decide)
  have m2 := c_maskL q2 1 1 (by decide) (by decide)
  have m1 := c_maskL q1 1 1 (by decide) (by decide)
  have hs := c_lsub (q2 >>> ((1 : Int32) &&& 0x3f).toInt64) (q1 >>> ((1 : Int32) &&& 0x3f).toInt64)
  have hb := c_lsub (q2 &&& (1 : Int64)) (q1 &&& (1 : Int64))
  have hd := c_lsub q2 q1
  have r1 := rng64 q1
  have r2 := rng64 q2
  have r3 := rng64 (q2 - q1)
  have r4 := rng64 ((q2 >>> ((1 : Int32) &&& 0x3f).toInt64) - (q1 >>> ((1 : Int32) &&& 0x3f).toInt64))
  have r5 := rng64 ((q2 &&& (1 : Int64)) - (q1 &&& (1 : Int64)))
  have e0 : (0 : Int64).toInt = 0 := rfl
  have e2 : ((2 ^ 1 : Nat) : Int) = 2 := by decide
  rw [own_kn, own_kf_i, own_nn_i, own_am_i, own_bm_i, Int64.lt_iff_toInt_lt, e0]
  rw [e2] at s1 s2 m1 m2
  rw [s1, s2] at hs
  rw [m1, m2] at hb
  generalize ((q2 >>> ((1 : Int32) &&& 0x3f).toInt64) - (q1 >>> ((1 : Int32) &&& 0x3f).toInt64)).toInt = H at *
  generalize ((q2 &&& (1 : Int64)) - (q1 &&& (1 : Int64))).toInt = B at *
  generalize (q2 - q1).toInt = D at *
  have hH : H = q2.toInt / 2 - q1.toInt / 2 := by omega
  have hB : B = q2.toInt % 2 - q1.toInt % 2 := by omega
  omega
theorem pn_0 : plainName "runnel/RangeSourceEstimatedSizePinLaw" = true := by first | (simp [plainName, overriddenIn]; done) | decide +kernel
theorem pd_0_0 : parseMethodDescriptor "(JJ)V" = some ⟨[.long, .long], none⟩ := by decide +kernel
theorem pd_0_2 : parseMethodDescriptor "()J" = some ⟨[], some .long⟩ := by decide +kernel
theorem pd_0_3 : parseMethodDescriptor "(JJ)Z" = some ⟨[.long, .long], some .boolean⟩ := by decide +kernel
theorem ef_0 (m : MethodId) (x0 : Int64) (x1 : Int64) : entryFrame m #[(.long x0), (.long x1)] maxLocals = mkF m 0 #[.val (.long x0), .second, .val (.long x1), .second, .unset, .unset, .unset, .unset, .unset] [] := by first | (simp [entryFrame, mkF, argsToLocals, Value.category, maxLocals]; done) | rfl
def Q0 (Z : State) (q1 : Int64) (q2 : Int64) (h0 : Heap) (n0 : Nat) (v : Option Value) (h : Heap) (L : List Loc) : Prop := v = some (.int (1 : Int32)) ∧ Fr n0 L
set_option maxRecDepth 65536 in
set_option maxHeartbeats 40000000 in
theorem rm0_ff (l : Launch) (Z : State) (a0 : Array Value) (hw : ∀ d ∈ tables_1, d.before a0 Z = true) (ws : List Jvm.Cond) (q1 : Int64) (q2 : Int64) (h0 : Heap) (n0 : Nat) (Z0 : n0 ≤ h0.size) (hk : ¬ ((own_kn q1 q2) = (0 : Int32))) :
    MetFree l x (head1 (Jvm.Cond.code x code maxLocals ret :: ws) room_1) (fun a U => a = #[(.long q1), (.long q2)] ∧ Z.Warmed39 U.vm ∧ U.heap = h0) (fun _ _ _ _ _ => True) (fun _ U o U' => ∃ v L, o = .returned v ∧ Q0 Z q1 q2 h0 n0 v U'.heap L ∧ FrameEnd U o U' L room_1.cells room_1.slots) := by
  refine MetFree.of_bodySF (plainFor_of_name pn_0) hisR ?_
  intro p e s m args below meth c s₁ Bd hml0 hP hK
  obtain ⟨rfl, hZ, hh⟩ := hP
  have hx := Bd.exec
  have hby := Bd.bytes
  have hml : c.maxLocals = 9 := hml0
  have hown : s.vm.findClass "runnel/RangeSourceEstimatedSizePinLaw" = some m.cls := findClass_of_methodNamed Bd.named
  have hnm := (name_of_methodNamed Bd.named Bd.method).1
  have X0 : Stand p l e room_1 s m #[(.long q1), (.long q2)] below meth c s₁ [] 0 0 := Stand.of_body Bd
  have e0 : s₁.heap = h0 := by rw [← hh, Bd.state]; rfl
  have N0 := Fr.nil n0
  have pre0 : ∀ t, Steps p.tables e below (s₁.setTop (mkF m 0 #[.val (.long q1), .second, .val (.long q2), .second, .unset, .unset, .unset, .unset, .unset] [])) t → Steps p.tables e below (s₁.setTop (entryFrame m #[(.long q1), (.long q2)] maxLocals)) t := fun t k => castTop (ef_0 m q1 q2) k
  obtain ⟨T3, h3, X3, e3, E3, A3, D3, -, st3⟩ := newO X0 hx hZ hown (hw _ (List.mem_of_getElem? (i := 0) rfl)) (hw _ (List.mem_of_getElem? (i := 1) rfl)) (hw _ (List.mem_of_getElem? (i := 2) rfl)) e0 (g := (mkF m 0 #[.val (.long q1), .second, .val (.long q2), .second, .unset, .unset, .unset, .unset, .unset] [])) rfl (hb hby at_0) (by decide) (by decide)
  obtain ⟨b3, g3⟩ : ∃ z, z = h0.size := ⟨_, rfl⟩
  rw [← g3] at A3 D3 st3
  have F_next_b3 : Fld Z h3 b3 "runnel/RangeSource" "next" "J" (.long (0 : Int64)) := D3 (Or.inl (hw _ (List.mem_of_getElem? (i := 15) rfl))) (ty := .long) (by decide)
  have F_end_b3 : Fld Z h3 b3 "runnel/RangeSource" "end" "J" (.long (0 : Int64)) := D3 (Or.inr (hw _ (List.mem_of_getElem? (i := 17) rfl))) (ty := .long) (by decide)
  have E_b3 := A3
  have g_b3 : n0 ≤ b3 := Nat.le_trans Z0 (Nat.le_of_eq g3.symm)
  have sz_b3 : h0.size ≤ b3 := (Nat.le_trans (Keep.refl h0 []).1 (Nat.le_of_eq g3.symm))
  have K3 : Keep h0 h3 [] := (Keep.refl h0 []).ext E3
  obtain ⟨_, _, ⟨T4, L4, k4, n4⟩, -, X4, ⟨Lc4, hQ4, l4, y4, z4⟩, st4⟩ := X3.specialBack hx (y := (⟨"runnel/RangeSource", "<init>", "(JJ)V"⟩ : MethodName)) rfl hown (mvT hZ (hw _ (List.mem_of_getElem? (i := 3) rfl))) (mvT hZ (hw _ (List.mem_of_getElem? (i := 4) rfl))) (mvT hZ (hw _ (List.mem_of_getElem? (i := 5) rfl))) (by decide) (backOf (W := 1) (rm1 l Z a0 hw [] b3 q1 q2 (.long (0 : Int64)) (.long (0 : Int64)) h3 n0 (Nat.le_trans Z0 K3.1) E_b3 F_next_b3 g_b3 F_end_b3) hZ (hw _ (List.mem_of_getElem? (i := 5) rfl)) (hw _ (List.mem_of_getElem? (i := 2) rfl)) (by decide) (by decide)) (g := (mkF m 6 #[.val (.long q1), .second, .val (.long q2), .second, .unset, .unset, .unset, .unset, .unset] [(.long q2), (.long q1), (.ref b3), (.ref b3)])) rfl (by rw [hml]; rfl) (Steps.refl _) (a := b3) (argsL := [(.long q1), (.long q2)]) (rest := [(.ref b3)]) (lenOf pd_0_0 rfl) rfl (by show 2 * 0 + _ ≤ _; exact Nat.le_of_eq rfl) (hb hby at_6) (fun _ _ => ⟨rfl, e3, (by decide : 1 + 0 ≤ _), (by decide : 2 + 0 ≤ _)⟩)
  dsimp only [Pt.U, Pt.locs, Pt.cells, Pt.slots] at X4 l4 y4 z4 st4 hQ4
  subst l4 y4 z4
  obtain ⟨rfl, N4q, K4, Ex4, Fn4, Fe4⟩ := hQ4
  have N4 := Fr.app N0 N4q
  obtain ⟨cq5, kq5, q5a, q5b, q5c⟩ := isOf hZ rfl (E_b3.keep K4)
  obtain ⟨_, _, ⟨T5, L5, k5, n5⟩, -, X5, ⟨Lc5, hQ5, l5, y5, z5⟩, st5⟩ := X4.virtualBack hx (y := (⟨"runnel/RangeSource", "estimatedSize", "()J"⟩ : MethodName)) (z := (⟨"runnel/RangeSource", "estimatedSize", "()J"⟩ : MethodName)) hown (mvT hZ (hw _ (List.mem_of_getElem? (i := 18) rfl))) (mvT hZ (hw _ (List.mem_of_getElem? (i := 19) rfl))) (notFace_of_selects (args := #[]) (mvT hZ (hw _ (List.mem_of_getElem? (i := 21) rfl)))) (mvT hZ (hw _ (List.mem_of_getElem? (i := 21) rfl))) (mvT hZ (hw _ (List.mem_of_getElem? (i := 20) rfl))) (by decide) (backOf (W := 0) (rm4 l Z a0 hw [] b3 q2 q1 T4.heap n0 (Nat.le_trans (Nat.le_trans Z0 K3.1) K4.1) Fe4 Fn4) hZ (hw _ (List.mem_of_getElem? (i := 22) rfl)) (hw _ (List.mem_of_getElem? (i := 2) rfl)) (by decide) (by decide)) q5a q5c (g := (mkF m 13 #[.val (.long q1), .second, .val (.long q2), .second, .val (.ref b3), .unset, .unset, .unset, .unset] [(.ref b3)])) rfl (by rw [hml]; rfl) (Steps.refl _) (argsL := []) (rest := []) (lenOf pd_0_2 rfl) rfl (by show 2 * 0 + _ ≤ _; exact Nat.le_of_eq rfl) (hb hby at_13) (fun _ _ => ⟨rfl, rfl, (by decide : 1 + 0 ≤ _), (by decide : 2 + 0 ≤ _)⟩)
  dsimp only [Pt.U, Pt.locs, Pt.cells, Pt.slots] at X5 l5 y5 z5 st5 hQ5
  subst l5 y5 z5
  obtain ⟨rfl, N5q, e5⟩ := hQ5
  have N5 := Fr.app N4 N5q
  obtain ⟨_, _, ⟨T6, L6, k6, n6⟩, -, X6, ⟨Lc6, hQ6, l6, y6, z6⟩, st6⟩ := Jvm.LawKit.callS X5 hx (y := (⟨"runnel/RangeSourceEstimatedSizePinLaw", "known", "(JJ)Z"⟩ : MethodName)) hown (mvT hZ (hw _ (List.mem_of_getElem? (i := 24) rfl))) (mvT hZ (hw _ (List.mem_of_getElem? (i := 25) rfl))) (mvT hZ (hw _ (List.mem_of_getElem? (i := 26) rfl))) (mvT hZ (hw _ (List.mem_of_getElem? (i := 27) rfl))) (by decide) (backOf (W := 0) (rm5 l Z a0 hw [] q1 q2 T5.heap n0 (by rw [e5]; exact Nat.le_trans (Nat.le_trans Z0 K3.1) K4.1)) hZ (hw _ (List.mem_of_getElem? (i := 27) rfl)) (hw _ (List.mem_of_getElem? (i := 26) rfl)) (by decide) (by decide)) (g := (mkF m 20 #[.val (.long q1), .second, .val (.long q2), .second, .val (.ref b3), .val (.long (own_est q1 q2)), .second, .unset, .unset] [(.long q2), (.long q1)])) rfl (by rw [hml]; rfl) (argsL := [(.long q1), (.long q2)]) (rest := []) (lenOf pd_0_3 rfl) rfl (by show 2 * 0 + _ ≤ _; exact Nat.le_of_eq rfl) (hb hby at_20) (fun _ _ => ⟨rfl, rfl, (by decide : 1 + 0 ≤ _), (by decide : 2 + 0 ≤ _)⟩)
  dsimp only [Pt.U, Pt.locs, Pt.cells, Pt.slots] at X6 l6 y6 z6 st6 hQ6
  subst l6 y6 z6
  obtain ⟨rfl, N6q, e6⟩ := hQ6
  have N6 := Fr.app N5 N6q
  obtain ⟨fs, hr, hrun, hended, hW, hsame⟩ := X6.leave (v := some (.int (1 : Int32))) (fun h => by rw [Bd.returns] at h; cases h)
  refine ⟨_, _, pre0 _ ?_, hrun, hended, _, _, rfl, ?_, ⟨_, rfl⟩, hW, hsame.mono (by decide) (by decide)⟩
  · show Steps p.tables e below (s₁.setTop (mkF m 0 #[.val (.long q1), .second, .val (.long q2), .second, .unset, .unset, .unset, .unset, .unset] [])) _
    refine st3 _ ?_
    show Steps p.tables e below (T3.setTop (mkF m 3 #[.val (.long q1), .second, .val (.long q2), .second, .unset, .unset, .unset, .unset, .unset] [(.ref b3)])) _
    refine XS.dup X3.here hx rfl (hb hby at_3) rfl rfl ?_
    show Steps p.tables e below (T3.setTop (mkF m 4 #[.val (.long q1), .second, .val (.long q2), .second, .unset, .unset, .unset, .unset, .unset] [(.ref b3), (.ref b3)])) _
    refine XS.lloadN X3.here hx rfl (hb hby at_4) rfl ?_
    show Steps p.tables e below (T3.setTop (mkF m 5 #[.val (.long q1), .second, .val (.long q2), .second, .unset, .unset, .unset, .unset, .unset] [(.long q1), (.ref b3), (.ref b3)])) _
    refine XS.lloadN X3.here hx rfl (hb hby at_5) rfl ?_
    show Steps p.tables e below (T3.setTop (mkF m 6 #[.val (.long q1), .second, .val (.long q2), .second, .unset, .unset, .unset, .unset, .unset] [(.long q2), (.long q1), (.ref b3), (.ref b3)])) _
    refine st4.trans ?_
    show Steps p.tables e below (T4.setTop (mkF m 9 #[.val (.long q1), .second, .val (.long q2), .second, .unset, .unset, .unset, .unset, .unset] [(.ref b3)])) _
    refine XS.astore X4.here hx rfl (hb hby at_9) rfl rfl (l' := #[.val (.long q1), .second, .val (.long q2), .second, .val (.ref b3), .unset, .unset, .unset, .unset]) rfl ?_
    show Steps p.tables e below (T4.setTop (mkF m 11 #[.val (.long q1), .second, .val (.long q2), .second, .val (.ref b3), .unset, .unset, .unset, .unset] [])) _
    refine XS.aload X4.here hx rfl (hb hby at_11) rfl rfl ?_
    show Steps p.tables e below (T4.setTop (mkF m 13 #[.val (.long q1), .second, .val (.long q2), .second, .val (.ref b3), .unset, .unset, .unset, .unset] [(.ref b3)])) _
    refine st5.trans ?_
    show Steps p.tables e below (T5.setTop (mkF m 16 #[.val (.long q1), .second, .val (.long q2), .second, .val (.ref b3), .unset, .unset, .unset, .unset] [(.long (own_est q1 q2))])) _
    refine XS.lstore X5.here hx rfl (hb hby at_16) rfl (l' := #[.val (.long q1), .second, .val (.long q2), .second, .val (.ref b3), .val (.long (own_est q1 q2)), .second, .unset, .unset]) rfl ?_
    show Steps p.tables e below (T5.setTop (mkF m 18 #[.val (.long q1), .second, .val (.long q2), .second, .val (.ref b3), .val (.long (own_est q1 q2)), .second, .unset, .unset] [])) _
    refine XS.lloadN X5.here hx rfl (hb hby at_18) rfl ?_
    show Steps p.tables e below (T5.setTop (mkF m 19 #[.val (.long q1), .second, .val (.long q2), .second, .val (.ref b3), .val (.long (own_est q1 q2)), .second, .unset, .unset] [(.long q1)])) _
    refine XS.lloadN X5.here hx rfl (hb hby at_19) rfl ?_
    show Steps p.tables e below (T5.setTop (mkF m 20 #[.val (.long q1), .second, .val (.long q2), .second, .val (.ref b3), .val (.long (own_est q1 q2)), .second, .unset, .unset] [(.long q2), (.long q1)])) _
    refine st6 _ ?_
    show Steps p.tables e below (T6.setTop (mkF m 23 #[.val (.long q1), .second, .val (.long q2), .second, .val (.ref b3), .val (.long (own_est q1 q2)), .second, .unset, .unset] [(.int (own_kn q1 q2))])) _
    refine XS.ifNo X6.here hx rfl (hb hby at_23) rfl ((if0 _ _).trans (feq (hk : ¬ ((own_kn q1 q2) = (0 : Int32)))).1) ?_
    show Steps p.tables e below (T6.setTop (mkF m 26 #[.val (.long q1), .second, .val (.long q2), .second, .val (.ref b3), .val (.long (own_est q1 q2)), .second, .unset, .unset] [])) _
    refine XS.lloadN X6.here hx rfl (hb hby at_26) rfl ?_
    show Steps p.tables e below (T6.setTop (mkF m 27 #[.val (.long q1), .second, .val (.long q2), .second, .val (.ref b3), .val (.long (own_est q1 q2)), .second, .unset, .unset] [(.long q2)])) _
    refine XS.lloadN X6.here hx rfl (hb hby at_27) rfl ?_
    show Steps p.tables e below (T6.setTop (mkF m 28 #[.val (.long q1), .second, .val (.long q2), .second, .val (.ref b3), .val (.long (own_est q1 q2)), .second, .unset, .unset] [(.long q1), (.long q2)])) _
    refine XS.lsub X6.here hx rfl (hb hby at_28) rfl ?_
    show Steps p.tables e below (T6.setTop (mkF m 29 #[.val (.long q1), .second, .val (.long q2), .second, .val (.ref b3), .val (.long (own_est q1 q2)), .second, .unset, .unset] [(.long (q2 - q1))])) _
    refine XS.goto X6.here hx rfl (pc0 := 29) (pc' := 35) rfl (hb hby at_29) (by decide) (by decide) ?_
    show Steps p.tables e below (T6.setTop (mkF m 35 #[.val (.long q1), .second, .val (.long q2), .second, .val (.ref b3), .val (.long (own_est q1 q2)), .second, .unset, .unset] [(.long (q2 - q1))])) _
    refine XS.lstore X6.here hx rfl (hb hby at_35) rfl (l' := #[.val (.long q1), .second, .val (.long q2), .second, .val (.ref b3), .val (.long (own_est q1 q2)), .second, .val (.long (q2 - q1)), .second]) rfl ?_
    show Steps p.tables e below (T6.setTop (mkF m 37 #[.val (.long q1), .second, .val (.long q2), .second, .val (.ref b3), .val (.long (own_est q1 q2)), .second, .val (.long (q2 - q1)), .second] [])) _
    refine XS.lload X6.here hx rfl (hb hby at_37) rfl ?_
    show Steps p.tables e below (T6.setTop (mkF m 39 #[.val (.long q1), .second, .val (.long q2), .second, .val (.ref b3), .val (.long (own_est q1 q2)), .second, .val (.long (q2 - q1)), .second] [(.long (own_est q1 q2))])) _
    refine XS.lload X6.here hx rfl (hb hby at_39) rfl ?_
    show Steps p.tables e below (T6.setTop (mkF m 41 #[.val (.long q1), .second, .val (.long q2), .second, .val (.ref b3), .val (.long (own_est q1 q2)), .second, .val (.long (q2 - q1)), .second] [(.long (q2 - q1)), (.long (own_est q1 q2))])) _
    refine XS.lcmp X6.here hx rfl (hb hby at_41) rfl ?_
    show Steps p.tables e below (T6.setTop (mkF m 42 #[.val (.long q1), .second, .val (.long q2), .second, .val (.ref b3), .val (.long (own_est q1 q2)), .second, .val (.long (q2 - q1)), .second] [(.int (lcmpW (own_est q1 q2) (q2 - q1)))])) _
    refine XS.ifNo X6.here hx rfl (hb hby at_42) rfl ((if0 _ _).trans (teq ((lw_eq _ _).mpr (by rw [own_est, if_neg (fun h => hk ((own_kn_iff q1 q2).mpr h))]) : (lcmpW (own_est q1 q2) (q2 - q1)) = (0 : Int32))).2) ?_
    show Steps p.tables e below (T6.setTop (mkF m 45 #[.val (.long q1), .second, .val (.long q2), .second, .val (.ref b3), .val (.long (own_est q1 q2)), .second, .val (.long (q2 - q1)), .second] [])) _
    refine XS.iconst X6.here hx rfl (hb hby at_45) ?_
    show Steps p.tables e below (T6.setTop (mkF m 46 #[.val (.long q1), .second, .val (.long q2), .second, .val (.ref b3), .val (.long (own_est q1 q2)), .second, .val (.long (q2 - q1)), .second] [(.int (1 : Int32))])) _
    refine XS.goto X6.here hx rfl (pc0 := 46) (pc' := 50) rfl (hb hby at_46) (by decide) (by decide) ?_
    show Steps p.tables e below (T6.setTop (mkF m 50 #[.val (.long q1), .second, .val (.long q2), .second, .val (.ref b3), .val (.long (own_est q1 q2)), .second, .val (.long (q2 - q1)), .second] [(.int (1 : Int32))])) _
    exact retN X6 hx (t := .boolean) Bd.returns (by simp) (hb hby at_50) hr
  · show Q0 Z q1 q2 h0 n0 _ T6.heap _
    exact ⟨rfl, N6⟩
set_option maxRecDepth 65536 in
set_option maxHeartbeats 40000000 in
theorem rm0_tf (l : Launch) (Z : State) (a0 : Array Value) (hw : ∀ d ∈ tables_1, d.before a0 Z = true) (ws : List Jvm.Cond) (q1 : Int64) (q2 : Int64) (h0 : Heap) (n0 : Nat) (Z0 : n0 ≤ h0.size) (hk : (own_kn q1 q2) = (0 : Int32)) :
    MetFree l x (head1 (Jvm.Cond.code x code maxLocals ret :: ws) room_1) (fun a U => a = #[(.long q1), (.long q2)] ∧ Z.Warmed39 U.vm ∧ U.heap = h0) (fun _ _ _ _ _ => True) (fun _ U o U' => ∃ v L, o = .returned v ∧ Q0 Z q1 q2 h0 n0 v U'.heap L ∧ FrameEnd U o U' L room_1.cells room_1.slots) := by
  refine MetFree.of_bodySF (plainFor_of_name pn_0) hisR ?_
  intro p e s m args below meth c s₁ Bd hml0 hP hK
  obtain ⟨rfl, hZ, hh⟩ := hP
  have hx := Bd.exec
  have hby := Bd.bytes
  have hml : c.maxLocals = 9 := hml0
  have hown : s.vm.findClass "runnel/RangeSourceEstimatedSizePinLaw" = some m.cls := findClass_of_methodNamed Bd.named
  have hnm := (name_of_methodNamed Bd.named Bd.method).1
  have X0 : Stand p l e room_1 s m #[(.long q1), (.long q2)] below meth c s₁ [] 0 0 := Stand.of_body Bd
  have e0 : s₁.heap = h0 := by rw [← hh, Bd.state]; rfl
  have N0 := Fr.nil n0
  have pre0 : ∀ t, Steps p.tables e below (s₁.setTop (mkF m 0 #[.val (.long q1), .second, .val (.long q2), .second, .unset, .unset, .unset, .unset, .unset] [])) t → Steps p.tables e below (s₁.setTop (entryFrame m #[(.long q1), (.long q2)] maxLocals)) t := fun t k => castTop (ef_0 m q1 q2) k
  obtain ⟨T3, h3, X3, e3, E3, A3, D3, -, st3⟩ := newO X0 hx hZ hown (hw _ (List.mem_of_getElem? (i := 0) rfl)) (hw _ (List.mem_of_getElem? (i := 1) rfl)) (hw _ (List.mem_of_getElem? (i := 2) rfl)) e0 (g := (mkF m 0 #[.val (.long q1), .second, .val (.long q2), .second, .unset, .unset, .unset, .unset, .unset] [])) rfl (hb hby at_0) (by decide) (by decide)
  obtain ⟨b3, g3⟩ : ∃ z, z = h0.size := ⟨_, rfl⟩
  rw [← g3] at A3 D3 st3
  have F_next_b3 : Fld Z h3 b3 "runnel/RangeSource" "next" "J" (.long (0 : Int64)) := D3 (Or.inl (hw _ (List.mem_of_getElem? (i := 15) rfl))) (ty := .long) (by decide)
  have F_end_b3 : Fld Z h3 b3 "runnel/RangeSource" "end" "J" (.long (0 : Int64)) := D3 (Or.inr (hw _ (List.mem_of_getElem? (i := 17) rfl))) (ty := .long) (by decide)
  have E_b3 := A3
  have g_b3 : n0 ≤ b3 := Nat.le_trans Z0 (Nat.le_of_eq g3.symm)
  have sz_b3 : h0.size ≤ b3 := (Nat.le_trans (Keep.refl h0 []).1 (Nat.le_of_eq g3.symm))
  have K3 : Keep h0 h3 [] := (Keep.refl h0 []).ext E3
  obtain ⟨_, _, ⟨T4, L4, k4, n4⟩, -, X4, ⟨Lc4, hQ4, l4, y4, z4⟩, st4⟩ := X3.specialBack hx (y := (⟨"runnel/RangeSource", "<init>", "(JJ)V"⟩ : MethodName)) rfl hown (mvT hZ (hw _ (List.mem_of_getElem? (i := 3) rfl))) (mvT hZ (hw _ (List.mem_of_getElem? (i := 4) rfl))) (mvT hZ (hw _ (List.mem_of_getElem? (i := 5) rfl))) (by decide) (backOf (W := 1) (rm1 l Z a0 hw [] b3 q1 q2 (.long (0 : Int64)) (.long (0 : Int64)) h3 n0 (Nat.le_trans Z0 K3.1) E_b3 F_next_b3 g_b3 F_end_b3) hZ (hw _ (List.mem_of_getElem? (i := 5) rfl)) (hw _ (List.mem_of_getElem? (i := 2) rfl)) (by decide) (by decide)) (g := (mkF m 6 #[.val (.long q1), .second, .val (.long q2), .second, .unset, .unset, .unset, .unset, .unset] [(.long q2), (.long q1), (.ref b3), (.ref b3)])) rfl (by rw [hml]; rfl) (Steps.refl _) (a := b3) (argsL := [(.long q1), (.long q2)]) (rest := [(.ref b3)]) (lenOf pd_0_0 rfl) rfl (by show 2 * 0 + _ ≤ _; exact Nat.le_of_eq rfl) (hb hby at_6) (fun _ _ => ⟨rfl, e3, (by decide : 1 + 0 ≤ _), (by decide : 2 + 0 ≤ _)⟩)
  dsimp only [Pt.U, Pt.locs, Pt.cells, Pt.slots] at X4 l4 y4 z4 st4 hQ4
  subst l4 y4 z4
  obtain ⟨rfl, N4q, K4, Ex4, Fn4, Fe4⟩ := hQ4
  have N4 := Fr.app N0 N4q
  obtain ⟨cq5, kq5, q5a, q5b, q5c⟩ := isOf hZ rfl (E_b3.keep K4)
  obtain ⟨_, _, ⟨T5, L5, k5, n5⟩, -, X5, ⟨Lc5, hQ5, l5, y5, z5⟩, st5⟩ := X4.virtualBack hx (y := (⟨"runnel/RangeSource", "estimatedSize", "()J"⟩ : MethodName)) (z := (⟨"runnel/RangeSource", "estimatedSize", "()J"⟩ : MethodName)) hown (mvT hZ (hw _ (List.mem_of_getElem? (i := 18) rfl))) (mvT hZ (hw _ (List.mem_of_getElem? (i := 19) rfl))) (notFace_of_selects (args := #[]) (mvT hZ (hw _ (List.mem_of_getElem? (i := 21) rfl)))) (mvT hZ (hw _ (List.mem_of_getElem? (i := 21) rfl))) (mvT hZ (hw _ (List.mem_of_getElem? (i := 20) rfl))) (by decide) (backOf (W := 0) (rm4 l Z a0 hw [] b3 q2 q1 T4.heap n0 (Nat.le_trans (Nat.le_trans Z0 K3.1) K4.1) Fe4 Fn4) hZ (hw _ (List.mem_of_getElem? (i := 22) rfl)) (hw _ (List.mem_of_getElem? (i := 2) rfl)) (by decide) (by decide)) q5a q5c (g := (mkF m 13 #[.val (.long q1), .second, .val (.long q2), .second, .val (.ref b3), .unset, .unset, .unset, .unset] [(.ref b3)])) rfl (by rw [hml]; rfl) (Steps.refl _) (argsL := []) (rest := []) (lenOf pd_0_2 rfl) rfl (by show 2 * 0 + _ ≤ _; exact Nat.le_of_eq rfl) (hb hby at_13) (fun _ _ => ⟨rfl, rfl, (by decide : 1 + 0 ≤ _), (by decide : 2 + 0 ≤ _)⟩)
  dsimp only [Pt.U, Pt.locs, Pt.cells, Pt.slots] at X5 l5 y5 z5 st5 hQ5
  subst l5 y5 z5
  obtain ⟨rfl, N5q, e5⟩ := hQ5
  have N5 := Fr.app N4 N5q
  obtain ⟨_, _, ⟨T6, L6, k6, n6⟩, -, X6, ⟨Lc6, hQ6, l6, y6, z6⟩, st6⟩ := Jvm.LawKit.callS X5 hx (y := (⟨"runnel/RangeSourceEstimatedSizePinLaw", "known", "(JJ)Z"⟩ : MethodName)) hown (mvT hZ (hw _ (List.mem_of_getElem? (i := 24) rfl))) (mvT hZ (hw _ (List.mem_of_getElem? (i := 25) rfl))) (mvT hZ (hw _ (List.mem_of_getElem? (i := 26) rfl))) (mvT hZ (hw _ (List.mem_of_getElem? (i := 27) rfl))) (by decide) (backOf (W := 0) (rm5 l Z a0 hw [] q1 q2 T5.heap n0 (by rw [e5]; exact Nat.le_trans (Nat.le_trans Z0 K3.1) K4.1)) hZ (hw _ (List.mem_of_getElem? (i := 27) rfl)) (hw _ (List.mem_of_getElem? (i := 26) rfl)) (by decide) (by decide)) (g := (mkF m 20 #[.val (.long q1), .second, .val (.long q2), .second, .val (.ref b3), .val (.long (own_est q1 q2)), .second, .unset, .unset] [(.long q2), (.long q1)])) rfl (by rw [hml]; rfl) (argsL := [(.long q1), (.long q2)]) (rest := []) (lenOf pd_0_3 rfl) rfl (by show 2 * 0 + _ ≤ _; exact Nat.le_of_eq rfl) (hb hby at_20) (fun _ _ => ⟨rfl, rfl, (by decide : 1 + 0 ≤ _), (by decide : 2 + 0 ≤ _)⟩)
  dsimp only [Pt.U, Pt.locs, Pt.cells, Pt.slots] at X6 l6 y6 z6 st6 hQ6
  subst l6 y6 z6
  obtain ⟨rfl, N6q, e6⟩ := hQ6
  have N6 := Fr.app N5 N6q
  obtain ⟨fs, hr, hrun, hended, hW, hsame⟩ := X6.leave (v := some (.int (1 : Int32))) (fun h => by rw [Bd.returns] at h; cases h)
  refine ⟨_, _, pre0 _ ?_, hrun, hended, _, _, rfl, ?_, ⟨_, rfl⟩, hW, hsame.mono (by decide) (by decide)⟩
  · show Steps p.tables e below (s₁.setTop (mkF m 0 #[.val (.long q1), .second, .val (.long q2), .second, .unset, .unset, .unset, .unset, .unset] [])) _
    refine st3 _ ?_
    show Steps p.tables e below (T3.setTop (mkF m 3 #[.val (.long q1), .second, .val (.long q2), .second, .unset, .unset, .unset, .unset, .unset] [(.ref b3)])) _
    refine XS.dup X3.here hx rfl (hb hby at_3) rfl rfl ?_
    show Steps p.tables e below (T3.setTop (mkF m 4 #[.val (.long q1), .second, .val (.long q2), .second, .unset, .unset, .unset, .unset, .unset] [(.ref b3), (.ref b3)])) _
    refine XS.lloadN X3.here hx rfl (hb hby at_4) rfl ?_
    show Steps p.tables e below (T3.setTop (mkF m 5 #[.val (.long q1), .second, .val (.long q2), .second, .unset, .unset, .unset, .unset, .unset] [(.long q1), (.ref b3), (.ref b3)])) _
    refine XS.lloadN X3.here hx rfl (hb hby at_5) rfl ?_
    show Steps p.tables e below (T3.setTop (mkF m 6 #[.val (.long q1), .second, .val (.long q2), .second, .unset, .unset, .unset, .unset, .unset] [(.long q2), (.long q1), (.ref b3), (.ref b3)])) _
    refine st4.trans ?_
    show Steps p.tables e below (T4.setTop (mkF m 9 #[.val (.long q1), .second, .val (.long q2), .second, .unset, .unset, .unset, .unset, .unset] [(.ref b3)])) _
    refine XS.astore X4.here hx rfl (hb hby at_9) rfl rfl (l' := #[.val (.long q1), .second, .val (.long q2), .second, .val (.ref b3), .unset, .unset, .unset, .unset]) rfl ?_
    show Steps p.tables e below (T4.setTop (mkF m 11 #[.val (.long q1), .second, .val (.long q2), .second, .val (.ref b3), .unset, .unset, .unset, .unset] [])) _
    refine XS.aload X4.here hx rfl (hb hby at_11) rfl rfl ?_
    show Steps p.tables e below (T4.setTop (mkF m 13 #[.val (.long q1), .second, .val (.long q2), .second, .val (.ref b3), .unset, .unset, .unset, .unset] [(.ref b3)])) _
    refine st5.trans ?_
    show Steps p.tables e below (T5.setTop (mkF m 16 #[.val (.long q1), .second, .val (.long q2), .second, .val (.ref b3), .unset, .unset, .unset, .unset] [(.long (own_est q1 q2))])) _
    refine XS.lstore X5.here hx rfl (hb hby at_16) rfl (l' := #[.val (.long q1), .second, .val (.long q2), .second, .val (.ref b3), .val (.long (own_est q1 q2)), .second, .unset, .unset]) rfl ?_
    show Steps p.tables e below (T5.setTop (mkF m 18 #[.val (.long q1), .second, .val (.long q2), .second, .val (.ref b3), .val (.long (own_est q1 q2)), .second, .unset, .unset] [])) _
    refine XS.lloadN X5.here hx rfl (hb hby at_18) rfl ?_
    show Steps p.tables e below (T5.setTop (mkF m 19 #[.val (.long q1), .second, .val (.long q2), .second, .val (.ref b3), .val (.long (own_est q1 q2)), .second, .unset, .unset] [(.long q1)])) _
    refine XS.lloadN X5.here hx rfl (hb hby at_19) rfl ?_
    show Steps p.tables e below (T5.setTop (mkF m 20 #[.val (.long q1), .second, .val (.long q2), .second, .val (.ref b3), .val (.long (own_est q1 q2)), .second, .unset, .unset] [(.long q2), (.long q1)])) _
    refine st6 _ ?_
    show Steps p.tables e below (T6.setTop (mkF m 23 #[.val (.long q1), .second, .val (.long q2), .second, .val (.ref b3), .val (.long (own_est q1 q2)), .second, .unset, .unset] [(.int (own_kn q1 q2))])) _
    refine XS.ifYes X6.here hx rfl (pc0 := 23) (pc' := 32) rfl (hb hby at_23) rfl ((if0 _ _).trans (teq (hk : (own_kn q1 q2) = (0 : Int32))).1) (by decide) (by decide) ?_
    show Steps p.tables e below (T6.setTop (mkF m 32 #[.val (.long q1), .second, .val (.long q2), .second, .val (.ref b3), .val (.long (own_est q1 q2)), .second, .unset, .unset] [])) _
    refine X6.ldc2Long hx hown (mvT hZ (hw _ (List.mem_of_getElem? (i := 30) rfl))) (g := (mkF m 32 #[.val (.long q1), .second, .val (.long q2), .second, .val (.ref b3), .val (.long (own_est q1 q2)), .second, .unset, .unset] [])) rfl (hb hby at_32) _ ?_
    show Steps p.tables e below (T6.setTop (mkF m 35 #[.val (.long q1), .second, .val (.long q2), .second, .val (.ref b3), .val (.long (own_est q1 q2)), .second, .unset, .unset] [(.long (9223372036854775807 : Int64))])) _
    refine XS.lstore X6.here hx rfl (hb hby at_35) rfl (l' := #[.val (.long q1), .second, .val (.long q2), .second, .val (.ref b3), .val (.long (own_est q1 q2)), .second, .val (.long (9223372036854775807 : Int64)), .second]) rfl ?_
    show Steps p.tables e below (T6.setTop (mkF m 37 #[.val (.long q1), .second, .val (.long q2), .second, .val (.ref b3), .val (.long (own_est q1 q2)), .second, .val (.long (9223372036854775807 : Int64)), .second] [])) _
    refine XS.lload X6.here hx rfl (hb hby at_37) rfl ?_
    show Steps p.tables e below (T6.setTop (mkF m 39 #[.val (.long q1), .second, .val (.long q2), .second, .val (.ref b3), .val (.long (own_est q1 q2)), .second, .val (.long (9223372036854775807 : Int64)), .second] [(.long (own_est q1 q2))])) _
    refine XS.lload X6.here hx rfl (hb hby at_39) rfl ?_
    show Steps p.tables e below (T6.setTop (mkF m 41 #[.val (.long q1), .second, .val (.long q2), .second, .val (.ref b3), .val (.long (own_est q1 q2)), .second, .val (.long (9223372036854775807 : Int64)), .second] [(.long (9223372036854775807 : Int64)), (.long (own_est q1 q2))])) _
    refine XS.lcmp X6.here hx rfl (hb hby at_41) rfl ?_
    show Steps p.tables e below (T6.setTop (mkF m 42 #[.val (.long q1), .second, .val (.long q2), .second, .val (.ref b3), .val (.long (own_est q1 q2)), .second, .val (.long (9223372036854775807 : Int64)), .second] [(.int (lcmpW (own_est q1 q2) (9223372036854775807 : Int64)))])) _
    refine XS.ifNo X6.here hx rfl (hb hby at_42) rfl ((if0 _ _).trans (teq ((lw_eq _ _).mpr (by rw [own_est, if_pos ((own_kn_iff q1 q2).mp hk)]) : (lcmpW (own_est q1 q2) (9223372036854775807 : Int64)) = (0 : Int32))).2) ?_
    show Steps p.tables e below (T6.setTop (mkF m 45 #[.val (.long q1), .second, .val (.long q2), .second, .val (.ref b3), .val (.long (own_est q1 q2)), .second, .val (.long (9223372036854775807 : Int64)), .second] [])) _
    refine XS.iconst X6.here hx rfl (hb hby at_45) ?_
    show Steps p.tables e below (T6.setTop (mkF m 46 #[.val (.long q1), .second, .val (.long q2), .second, .val (.ref b3), .val (.long (own_est q1 q2)), .second, .val (.long (9223372036854775807 : Int64)), .second] [(.int (1 : Int32))])) _
    refine XS.goto X6.here hx rfl (pc0 := 46) (pc' := 50) rfl (hb hby at_46) (by decide) (by decide) ?_
    show Steps p.tables e below (T6.setTop (mkF m 50 #[.val (.long q1), .second, .val (.long q2), .second, .val (.ref b3), .val (.long (own_est q1 q2)), .second, .val (.long (9223372036854775807 : Int64)), .second] [(.int (1 : Int32))])) _
    exact retN X6 hx (t := .boolean) Bd.returns (by simp) (hb hby at_50) hr
  · show Q0 Z q1 q2 h0 n0 _ T6.heap _
    exact ⟨rfl, N6⟩
theorem rm0 (l : Launch) (Z : State) (a0 : Array Value) (hw : ∀ d ∈ tables_1, d.before a0 Z = true) (ws : List Jvm.Cond) (q1 : Int64) (q2 : Int64) (h0 : Heap) (n0 : Nat) (Z0 : n0 ≤ h0.size) :
    MetFree l x (head1 (Jvm.Cond.code x code maxLocals ret :: ws) room_1) (fun a U => a = #[(.long q1), (.long q2)] ∧ Z.Warmed39 U.vm ∧ U.heap = h0) (fun _ _ _ _ _ => True) (fun _ U o U' => ∃ v L, o = .returned v ∧ Q0 Z q1 q2 h0 n0 v U'.heap L ∧ FrameEnd U o U' L room_1.cells room_1.slots) := by
  by_cases hk : (own_kn q1 q2) = (0 : Int32)
  · exact rm0_tf l Z a0 hw ws q1 q2 h0 n0 Z0 hk
  · exact rm0_ff l Z a0 hw ws q1 q2 h0 n0 Z0 hk
set_option maxRecDepth 65536 in
set_option maxHeartbeats 40000000 in
theorem comes_1 {Post : Tables → Env → Array Value → State → Outcome → State → Prop} (hpost : ∀ tb e args s v u, (limb_1_1.after args s (.returned v) u = true ∧ limb_1_2.after args s (.returned v) u = true ∧ True) → FrameEnd s (.returned v) u (Jvm.fieldLocs frame_1_writes args s ++ Jvm.arrayLocs frame_1_arrays args s ++ Jvm.staticLocs frame_1_statics s) 16 128 → Post tb e args s (.returned v) u) :
    ArmFor flags0 classFile x code maxLocals ret World_1 tables_1 room_1 Calls_1 rest_1 Pre_1 Post := by
  intro l hfl _ _ p e ha hc hk s m args below hf hA hF happ hP
  obtain ⟨hcalls, hrest, hpre⟩ := hP
  obtain ⟨-, -, -, hnamed, -, -, -, hat⟩ := (Spec.applies_iff hf).mp happ
  obtain ⟨hg, hn⟩ := and_e (Cond.before_iff.mp (show (Jvm.Cond.and given_1 narrow_1).before args s = true from hpre))
  obtain ⟨g7, g8⟩ := and_e hg
  obtain ⟨g9, g10⟩ := and_e g8
  obtain ⟨w0, w1, rfl⟩ : ∃ w0 w1 : Value, args = #[w0, w1] := by
    have hs : args.size = 2 := by simpa [Cond.value, given_1] using g7
    obtain ⟨L⟩ := args
    match L, hs with
    | [w0, w1], _ => exact ⟨w0, w1, rfl⟩
  have hw := fun d (hd : d ∈ tables_1) => atoms_spec (ws := Jvm.Cond.code x code maxLocals ret :: tables_1) hat d (List.mem_cons_of_mem _ hd)
  have hfit : Fit s := fun {y c} hc i hi => by
    obtain ⟨ha, rfl⟩ := Array.getElem?_eq_some_iff.mp hc
    have q := List.all_eq_true.mp ((Array.all_eq_true_iff_forall_mem.mp hF) _ (Array.getElem_mem ha)) i (List.mem_range.mpr hi)
    simpa [Array.getElem?_eq_getElem hi] using q
  obtain ⟨i0, ei0⟩ := isL_v g9
  obtain rfl : w0 = (.long i0) := Option.some.inj ei0
  obtain ⟨i1, ei1⟩ := isL_v g10
  obtain rfl : w1 = (.long i1) := Option.some.inj ei1
  obtain ⟨n, o, h1, h2, h3, _, L, rfl, ⟨rfl, N⟩, hq⟩ := rm0 l s _ hw tables_1 i0 i1 s.heap s.heap.size (Nat.le_refl _) p e ha hc hk s m _ below hf ((Spec.applies_iff_loose hf).mp happ).1 ⟨rfl, State.Warmed39.refl s, rfl⟩ trivial
  refine ⟨n, _, h1, h2, h3, hpost _ _ _ _ _ _ ⟨Cond.after_iff.mpr rfl, Cond.after_iff.mpr (eq_i res_at (Term.int_eval (1)) rfl), trivial⟩ ⟨hq.1, hq.2.1, (hq.2.2.sift fun y hy => Or.inr (N y hy)).mono (by decide) (by decide)⟩⟩
theorem main_1_1 : Claimed_1_1 := comes_1 fun _ _ _ _ _ _ h hF => ⟨h.1, hF⟩
theorem main_1_2 : Claimed_1_2 := comes_1 fun _ _ _ _ _ _ h hF => ⟨h.2.1, hF⟩
end Jvm.Pilot.@@N@@
namespace Jvm.Pilot.@@N@@
open Jvm Jvm.ClassFile Sem Op Lib Jvm.Free Jvm.Stand Jvm.Pilot.@@N@@.Jvm.D
/-! MADE BY PROGRAM (witnessworld.py) out of the Statement's table words and the real class files: 12 classes; the members and pool entries that the words name. The judged class is class 1, her method 2. -/
namespace start1
open Jvm.ClassFile
def u (s : String) : CpInfo := .utf8 (stringToUtf16 s)
/-- a pool by its gaps: so many unusable entries, then the entry; so many at the end -/
def gap : Nat → List CpInfo → List CpInfo
  | 0, r => r
  | n + 1, r => .unusable :: gap n r
def poolList (es : List (Nat × CpInfo)) (last : Nat) : List CpInfo := es.foldr (fun e r => gap e.1 (e.2 :: r)) (gap last [])
def pool (es : List (Nat × CpInfo)) (last : Nat) : Array CpInfo := ⟨poolList es last⟩
def fileOf (pool : Array CpInfo) (this : Nat) (attrs : Array Attribute := #[]) (ms : Array MethodInfo := #[]) (fl : Nat := 33) (sup : Nat := 0) (ifs : Array Nat := #[]) (fds : Array FieldInfo := #[]) : ClassFile where
  minorVersion := 0
  majorVersion := 65
  constantPool := pool
  accessFlags := fl
  thisClass := this
  superClass := sup
  interfaces := ifs
  fields := fds
  methods := ms
  attributes := attrs
def plain (name : String) (sup : Option ClassId) : Class where
  name := name
  kind := .ordinary
  loader := none
  accessFlags := 33
  super := sup
  interfaces := #[]
  cf := none
  fields := #[]
  methods := #[]
  instanceTypes := #[]
  staticTypes := #[]
  resolved := #[]
  callSites := []
  init := .initialized
  statics := none
  mirror := none

def pool0 : Array CpInfo := pool [(5, u "<init>"), (0, u "()V"), (1, .class_ 10), (1, u "java/lang/Object")] 113

def k0c0 : Code := { maxStack := 0, maxLocals := 1, code := object_method_1_code, exceptionTable := #[], attributes := #[] }
def k0m0 : Method := { name := "<init>", desc := "()V", sig := { parameters := [], returnType := none }, accessFlags := 1, code := some k0c0 }
/-- java/lang/Object -/
def k0 : Class := { plain "java/lang/Object" none with
  accessFlags := 33
  interfaces := #[]
  cf := some (fileOf pool0 8 #[] #[{ accessFlags := 1, nameIndex := 5, descriptorIndex := 6, attributes := #[] }] 33 0 #[] #[])
  fields := #[]
  methods := #[k0m0]
  instanceTypes := #[]
  staticTypes := #[]
  resolved := Array.replicate 124 none
  statics := none }

def pool1 : Array CpInfo := pool [(2, .class_ 4), (1, u "java/lang/Object"), (0, u "<init>"), (0, u "()V"), (0, .long 4611686018427387904), (1, .long 13835058055282163712), (1, .class_ 12), (0, u "runnel/RangeSource"), (0, .methodref 11 14), (0, .nameAndType 5 15), (0, u "(JJ)V"), (0, .methodref 11 17), (0, .nameAndType 18 19), (0, u "estimatedSize"), (0, u "()J"), (0, .methodref 21 22), (0, .class_ 23), (0, .nameAndType 24 25), (0, u "runnel/RangeSourceEstimatedSizePinLaw"), (0, u "known"), (0, u "(JJ)Z"), (2, .long 9223372036854775807), (4, u "law")] 2

def k1m0 : Method := { name := "<init>", desc := "()V", sig := { parameters := [], returnType := none }, accessFlags := 1, code := none }
def k1c1 : Code := { maxStack := 6, maxLocals := 11, code := method_2_code, exceptionTable := #[], attributes := #[] }
def k1m1 : Method := { name := "known", desc := "(JJ)Z", sig := { parameters := [.long, .long], returnType := some .boolean }, accessFlags := 10, code := some k1c1 }
def k1c2 : Code := { maxStack := 6, maxLocals := 9, code := code, exceptionTable := #[], attributes := #[] }
def k1m2 : Method := { name := "law", desc := "(JJ)Z", sig := { parameters := [.long, .long], returnType := some .boolean }, accessFlags := 9, code := some k1c2 }
/-- runnel/RangeSourceEstimatedSizePinLaw -/
def k1 : Class := { plain "runnel/RangeSourceEstimatedSizePinLaw" (some 0) with
  accessFlags := 49
  interfaces := #[]
  cf := some (fileOf pool1 21 #[] #[{ accessFlags := 1, nameIndex := 5, descriptorIndex := 6, attributes := #[] }, { accessFlags := 10, nameIndex := 24, descriptorIndex := 25, attributes := #[] }, { accessFlags := 9, nameIndex := 33, descriptorIndex := 25, attributes := #[] }] 49 2 #[] #[])
  fields := #[]
  methods := #[k1m0, k1m1, k1m2]
  instanceTypes := #[]
  staticTypes := #[]
  resolved := Array.replicate 36 none
  statics := none }

def pool2 : Array CpInfo := pool [(1, .class_ 2), (0, u "java/lang/AutoCloseable"), (0, .class_ 4), (0, u "java/lang/Object")] 7

/-- java/lang/AutoCloseable -/
def k2 : Class := { plain "java/lang/AutoCloseable" (some 0) with
  accessFlags := 1537
  interfaces := #[]
  cf := some (fileOf pool2 1 #[] #[] 1537 3 #[] #[])
  fields := #[]
  methods := #[]
  instanceTypes := #[]
  staticTypes := #[]
  resolved := Array.replicate 12 none
  statics := none }

def pool3 : Array CpInfo := pool [(3, .class_ 4), (0, u "runnel/Source"), (0, .class_ 6), (0, u "java/lang/Object"), (0, .class_ 8), (0, u "java/lang/AutoCloseable"), (0, u "UNKNOWN_SIZE"), (0, u "J")] 25

/-- runnel/Source -/
def k3 : Class := { plain "runnel/Source" (some 0) with
  accessFlags := 1536
  interfaces := #[2]
  cf := some (fileOf pool3 3 #[] #[] 1536 5 #[7] #[{ accessFlags := 25, nameIndex := 9, descriptorIndex := 10, attributes := #[] }])
  fields := #[{ name := "UNKNOWN_SIZE", type := .long, accessFlags := 25, slot := 0, constantValue := 0 }]
  methods := #[]
  instanceTypes := #[]
  staticTypes := #[.long]
  resolved := Array.replicate 36 none
  statics := none }

def pool4 : Array CpInfo := pool [(1, .methodref 2 3), (0, .class_ 4), (0, .nameAndType 5 6), (0, u "java/lang/Object"), (0, u "<init>"), (0, u "()V"), (13, .class_ 22), (1, u "runnel/PacedSource"), (6, .class_ 30), (0, u "runnel/Source")] 11

def k4c0 : Code := { maxStack := 1, maxLocals := 1, code := prog_74_method_1_code, exceptionTable := #[], attributes := #[] }
def k4m0 : Method := { name := "<init>", desc := "()V", sig := { parameters := [], returnType := none }, accessFlags := 0, code := some k4c0 }
/-- runnel/PacedSource -/
def k4 : Class := { plain "runnel/PacedSource" (some 0) with
  accessFlags := 1056
  interfaces := #[3]
  cf := some (fileOf pool4 20 #[] #[{ accessFlags := 0, nameIndex := 5, descriptorIndex := 6, attributes := #[] }] 1056 2 #[29] #[])
  fields := #[]
  methods := #[k4m0]
  instanceTypes := #[]
  staticTypes := #[]
  resolved := Array.replicate 42 none
  statics := none }

def pool5 : Array CpInfo := pool [(1, .methodref 2 3), (0, .class_ 4), (0, .nameAndType 5 6), (0, u "runnel/PacedSource"), (0, u "<init>"), (0, u "()V"), (0, .fieldref 8 9), (0, .class_ 10), (0, .nameAndType 11 12), (0, u "runnel/RangeSource"), (0, u "next"), (0, u "J"), (0, .fieldref 8 14), (0, .nameAndType 15 12), (0, u "end"), (18, u "(JJ)V"), (2, .long 9223372036854775807), (14, u "estimatedSize"), (0, u "()J")] 3

def k5c0 : Code := { maxStack := 3, maxLocals := 5, code := prog_85_method_1_code, exceptionTable := #[], attributes := #[] }
def k5m0 : Method := { name := "<init>", desc := "(JJ)V", sig := { parameters := [.long, .long], returnType := none }, accessFlags := 0, code := some k5c0 }
def k5c1 : Code := { maxStack := 4, maxLocals := 3, code := prog_85_method_5_code, exceptionTable := #[], attributes := #[] }
def k5m1 : Method := { name := "estimatedSize", desc := "()J", sig := { parameters := [], returnType := some .long }, accessFlags := 1, code := some k5c1 }
/-- runnel/RangeSource -/
def k5 : Class := { plain "runnel/RangeSource" (some 4) with
  accessFlags := 48
  interfaces := #[]
  cf := some (fileOf pool5 8 #[] #[{ accessFlags := 0, nameIndex := 5, descriptorIndex := 34, attributes := #[] }, { accessFlags := 1, nameIndex := 52, descriptorIndex := 53, attributes := #[] }] 48 2 #[] #[{ accessFlags := 2, nameIndex := 11, descriptorIndex := 12, attributes := #[] }, { accessFlags := 18, nameIndex := 15, descriptorIndex := 12, attributes := #[] }])
  fields := #[{ name := "next", type := .long, accessFlags := 2, slot := 0, constantValue := 0 }, { name := "end", type := .long, accessFlags := 18, slot := 1, constantValue := 0 }]
  methods := #[k5m0, k5m1]
  instanceTypes := #[.long, .long]
  staticTypes := #[]
  resolved := Array.replicate 57 none
  statics := none }

def pool6 : Array CpInfo := pool [(1, u "java/lang/Cloneable"), (0, .class_ 1), (0, u "java/lang/Object"), (0, .class_ 3)] 3

/-- java/lang/Cloneable -/
def k6 : Class := { plain "java/lang/Cloneable" (some 0) with
  accessFlags := 1537
  interfaces := #[]
  cf := some (fileOf pool6 2 #[] #[] 1537 4 #[] #[])
  fields := #[]
  methods := #[]
  instanceTypes := #[]
  staticTypes := #[]
  resolved := Array.replicate 8 none
  statics := none }

def pool7 : Array CpInfo := pool [(1, u "java/io/Serializable"), (0, .class_ 1), (0, u "java/lang/Object"), (0, .class_ 3)] 3

/-- java/io/Serializable -/
def k7 : Class := { plain "java/io/Serializable" (some 0) with
  accessFlags := 1537
  interfaces := #[]
  cf := some (fileOf pool7 2 #[] #[] 1537 4 #[] #[])
  fields := #[]
  methods := #[]
  instanceTypes := #[]
  staticTypes := #[]
  resolved := Array.replicate 8 none
  statics := none }

/-- the primitive byte -/
def k8 : Class := { plain "byte" none with kind := .primitive 'B', accessFlags := 0x411 }
/-- [B -/
def k9 : Class := { plain "[B" (some 0) with kind := .array 8 .byte, interfaces := #[6, 7], accessFlags := 1041 }

/-- the primitive int -/
def k10 : Class := { plain "int" none with kind := .primitive 'I', accessFlags := 0x411 }
/-- [I -/
def k11 : Class := { plain "[I" (some 0) with kind := .array 10 .int, interfaces := #[6, 7], accessFlags := 1041 }

def heap : Heap := #[]
def classes : Array Class := #[k0, k1, k2, k3, k4, k5, k6, k7, k8, k9, k10, k11]
def interned : List (Array UInt16 × Addr) := []
def slotsUsed : Nat := 0
def theMethod : MethodId := ⟨1, 2⟩
def args0 : Array Value := #[.long 5, .long 7]
def aboutOver (below : List Frame) : State where
  vm := { classes := classes, interned := interned.toArray }
  heap := heap
  slotsUsed := slotsUsed
  threads := #[{ frames := .invoking theMethod args0 :: below }]
def below0 : List Frame := [.native { method := ⟨0, 0⟩, args := #[] }]
def about1 : State := aboutOver below0
def p0 : Program := .bare "" "" ""
def e0 : Env := launch0.env 0 0 0
theorem w_frames : about1.frames = Frame.invoking theMethod args0 :: below0 := rfl
set_option maxRecDepth 65536 in
theorem w_args : argsFit about1.vm theMethod args0 = true := by decide +kernel
set_option maxRecDepth 65536 in
theorem w_heap : heapFits about1 = true := by decide +kernel
set_option maxRecDepth 65536 in
theorem w_runnable : about1.curStatus? = some .runnable := by decide +kernel
set_option maxRecDepth 65536 in
theorem w_alone : about1.alone = true := by decide +kernel
set_option maxRecDepth 65536 in
theorem w_named : about1.methodNamed? x = some theMethod := by decide +kernel
set_option maxRecDepth 65536 in
theorem w_hears : about1.hears theMethod below0 = true := by decide +kernel
set_option maxRecDepth 65536 in
theorem w_ripe : about1.ripe theMethod args0 below0 = true := by decide +kernel
theorem w_running : about1.status = .running := rfl
set_option maxRecDepth 65536 in
theorem w_room : about1.hasRoom e0.platform room_1 = true :=
  launch0.hasRoom_least _ room_1 (by decide +kernel) (by decide +kernel) (by decide +kernel) (by decide +kernel) (by decide +kernel) (by decide +kernel)
theorem allAtoms_all (ts : List Jvm.Cond) (a : Array Jvm.Value) (st : Jvm.State) : (allAtoms ts).before a st = ts.all (fun c => c.before a st) := by
  induction ts with
  | nil => rfl
  | cons c t ih =>
    show (Jvm.Cond.and c (allAtoms t)).before a st = _
    rw [Jvm.Cond.before_and, ih, List.all_cons]
def words1 : List Jvm.Cond := Jvm.Cond.code x code maxLocals ret :: tables_1
/-- a 'code' word, met by the world's own term for the bytes: nothing is compared byte by byte -/
theorem code_word {y : MethodName} {bytes : ByteArray} {mx : Nat} {rt : Option FieldType} {a : Array Value} {s : State} {m : MethodId} {meth : Method} {c : Code} (h1 : s.methodNamed? y = some m) (h2 : s.vm.method? m = some meth) (h3 : meth.code = some c) (h4 : c.code = bytes)
    (h5 : (c.maxLocals == mx && c.exceptionTable.isEmpty && decide (c.maxStack ≤ mostOperands) && decide (meth.sig.returnType = rt) && !meth.locks && decide (parseMethodDescriptor y.desc = some meth.sig)) = true) : (Jvm.Cond.code y bytes mx rt).before a s = true := by
  simp only [Bool.and_eq_true, beq_iff_eq, Bool.not_eq_true', decide_eq_true_eq] at h5
  obtain ⟨⟨⟨⟨⟨g1, g2⟩, g3⟩, g4⟩, g5⟩, g6⟩ := h5
  simp [Cond.before, Cond.holds, Cond.value, h1, h2, h3, h4, g1, g2, g3, g4, g5, g6]
def isCode : Jvm.Cond → Bool
  | .code _ _ _ _ => true
  | _ => false
theorem all_split {L : List Jvm.Cond} {P : Jvm.Cond → Bool} (h1 : L.all (fun c => isCode c || P c) = true) (h2 : ∀ c ∈ L.filter isCode, P c = true) : L.all P = true := by
  refine List.all_eq_true.mpr fun c hc => ?_
  have h := List.all_eq_true.mp h1 c hc
  rcases Bool.eq_false_or_eq_true (isCode c) with hi | hi
  · exact h2 c (List.mem_filter.mpr ⟨hc, hi⟩)
  · simpa [hi] using h
set_option maxRecDepth 65536 in
theorem w_c0 : (Jvm.Cond.code x code maxLocals ret).before args0 about1 = true := code_word (m := ⟨1, 2⟩) (meth := k1m2) (c := k1c2) (by decide +kernel) rfl rfl rfl (by decide +kernel)
set_option maxRecDepth 65536 in
theorem w_c1 : (Jvm.Cond.code ({ cls := "runnel/RangeSource", name := "<init>", desc := "(JJ)V" } : Jvm.MethodName) prog_85_method_1_code (5 : Nat) (Option.none : Option Jvm.ClassFile.FieldType)).before args0 about1 = true := code_word (m := ⟨5, 0⟩) (meth := k5m0) (c := k5c0) (by decide +kernel) rfl rfl rfl (by decide +kernel)
set_option maxRecDepth 65536 in
theorem w_c2 : (Jvm.Cond.code ({ cls := "runnel/PacedSource", name := "<init>", desc := "()V" } : Jvm.MethodName) prog_74_method_1_code (1 : Nat) (Option.none : Option Jvm.ClassFile.FieldType)).before args0 about1 = true := code_word (m := ⟨4, 0⟩) (meth := k4m0) (c := k4c0) (by decide +kernel) rfl rfl rfl (by decide +kernel)
set_option maxRecDepth 65536 in
theorem w_c3 : (Jvm.Cond.code ({ cls := "java/lang/Object", name := "<init>", desc := "()V" } : Jvm.MethodName) object_method_1_code (1 : Nat) (Option.none : Option Jvm.ClassFile.FieldType)).before args0 about1 = true := code_word (m := ⟨0, 0⟩) (meth := k0m0) (c := k0c0) (by decide +kernel) rfl rfl rfl (by decide +kernel)
set_option maxRecDepth 65536 in
theorem w_c4 : (Jvm.Cond.code ({ cls := "runnel/RangeSource", name := "estimatedSize", desc := "()J" } : Jvm.MethodName) prog_85_method_5_code (3 : Nat) (Option.some Jvm.ClassFile.FieldType.long)).before args0 about1 = true := code_word (m := ⟨5, 1⟩) (meth := k5m1) (c := k5c1) (by decide +kernel) rfl rfl rfl (by decide +kernel)
set_option maxRecDepth 65536 in
theorem w_c5 : (Jvm.Cond.code ({ cls := "runnel/RangeSourceEstimatedSizePinLaw", name := "known", desc := "(JJ)Z" } : Jvm.MethodName) method_2_code (11 : Nat) (Option.some Jvm.ClassFile.FieldType.boolean)).before args0 about1 = true := code_word (m := ⟨1, 1⟩) (meth := k1m1) (c := k1c1) (by decide +kernel) rfl rfl rfl (by decide +kernel)
def codes1 : List Jvm.Cond := [Jvm.Cond.code x code maxLocals ret, Jvm.Cond.code ({ cls := "runnel/RangeSource", name := "<init>", desc := "(JJ)V" } : Jvm.MethodName) prog_85_method_1_code (5 : Nat) (Option.none : Option Jvm.ClassFile.FieldType), Jvm.Cond.code ({ cls := "runnel/PacedSource", name := "<init>", desc := "()V" } : Jvm.MethodName) prog_74_method_1_code (1 : Nat) (Option.none : Option Jvm.ClassFile.FieldType), Jvm.Cond.code ({ cls := "java/lang/Object", name := "<init>", desc := "()V" } : Jvm.MethodName) object_method_1_code (1 : Nat) (Option.none : Option Jvm.ClassFile.FieldType), Jvm.Cond.code ({ cls := "runnel/RangeSource", name := "estimatedSize", desc := "()J" } : Jvm.MethodName) prog_85_method_5_code (3 : Nat) (Option.some Jvm.ClassFile.FieldType.long), Jvm.Cond.code ({ cls := "runnel/RangeSourceEstimatedSizePinLaw", name := "known", desc := "(JJ)Z" } : Jvm.MethodName) method_2_code (11 : Nat) (Option.some Jvm.ClassFile.FieldType.boolean)]
set_option maxRecDepth 65536 in
theorem codes_eq : words1.filter isCode = codes1 := rfl
theorem w_codes : ∀ c ∈ words1.filter isCode, c.before args0 about1 = true := by
  rw [codes_eq]
  intro c hc
  simp only [codes1, List.mem_cons, List.not_mem_nil, or_false] at hc
  rcases hc with rfl | rfl | rfl | rfl | rfl | rfl
  · exact w_c0
  · exact w_c1
  · exact w_c2
  · exact w_c3
  · exact w_c4
  · exact w_c5
set_option maxRecDepth 65536 in
theorem w_t1 : (words1.take 24).all (fun c => isCode c || c.before args0 about1) = true := by decide +kernel
set_option maxRecDepth 65536 in
theorem w_t2 : (words1.drop 24).all (fun c => isCode c || c.before args0 about1) = true := by decide +kernel
theorem w_tables : (allAtoms (Jvm.Cond.code x code maxLocals ret :: tables_1)).before args0 about1 = true := by
  rw [allAtoms_all]
  show words1.all (fun c => c.before args0 about1) = true
  refine all_split ?_ w_codes
  rw [← List.take_append_drop 24 words1, List.all_append, w_t1, w_t2]
  rfl
set_option maxRecDepth 65536 in
theorem w_case : (Jvm.Cond.and given_1 narrow_1).before args0 about1 = true := by decide +kernel
theorem w_applies : (headSpec (Jvm.Cond.code x code maxLocals ret :: tables_1) room_1).applies x e0.platform about1 = true :=
  (Spec.applies_iff w_frames).mpr ⟨w_running, w_runnable, w_alone, w_named, w_hears, w_ripe, w_room, w_tables⟩
theorem atStart : AtStart classFile x code maxLocals ret World_1 tables_1 room_1 Calls_1 rest_1 Pre_1 launch0 p0 e0 about1 theMethod args0 below0 :=
  ⟨lists_1, trivial, launch0.admits_env _ _ _, launch0.least_env, fairChoices_fair.cas, fairChoices_fair.clock, w_frames, w_args, w_heap, w_applies, trivial, trivial, w_case⟩
end start1
theorem witness_1 : WitnessClaimed_1 := ⟨start1.p0, start1.e0, start1.about1, start1.theMethod, start1.args0, start1.below0, start1.atStart⟩
end Jvm.Pilot.@@N@@
