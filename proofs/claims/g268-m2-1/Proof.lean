import JvmDerived
import JvmDerived.Pilot.@@N@@Statement
import JvmDerived.Pilot.@@N@@Code
set_option linter.unusedVariables false
set_option linter.unusedSimpArgs false
namespace Jvm.RoadKit
open Sem ClassFile Op Lib Jvm.Stand Jvm.Free Jvm.LawKit
section New
variable {p : Program} {l : Launch} {e : Env} {R : Room} {s : State} {m : MethodId} {args : Array Value} {below : List Frame} {meth : Method} {c : Code} {T : State} {locs : List Loc} {cells slots : Nat}
theorem retI (X : Stand p l e R s m args below meth c T locs cells slots) (hx : p.tables.exec = Jvm.exec) {pc : Nat} {Ls : Array Slot} {z : Int32} {rest : List Value} (hret : meth.sig.returnType = some .int) (hd : decode c.code pc = .ok (.ireturn, 1)) {fs : List Frame}
    (hl : ∀ (f : JFrame) (acts : List Action), f.method = m → f.locked = none → f.entered = [] → (doReturn e (T.setTop f) acts (some (.int z))).1 = T.setFrames fs) : Steps p.tables e below (T.setTop (mkF m pc Ls (.int z :: rest))) (T.setFrames fs) := by
  have hm' : T.vm.method? m = some meth := X.method'
  have hn : narrow .int (.int z) = .int z := rfl
  show Steps p.tables e below (T.setTop { method := m, pc := pc, locals := Ls, stack := _ :: rest, locked := none }) _
  jvm_step X.here [X.here.top, hx, hd, hm', hret, hn]
  first | (intro acts; rw [hl _ acts rfl rfl rfl]) | rw [hl _ _ rfl rfl rfl]
  exact Steps.refl _
end New
end Jvm.RoadKit
namespace Jvm.Pilot.@@N@@
open Jvm Jvm.ClassFile Sem Op Lib Jvm.Free Jvm.Stand Jvm.LawKit Jvm.RoadKit Bundle Jvm.Pilot.@@N@@.Jvm.D
theorem own_m3 (p : Int32) : p &&& (3 : Int32) = 0 ∨ p &&& (3 : Int32) = 1 ∨ p &&& (3 : Int32) = 2 ∨ p &&& (3 : Int32) = 3 := by
  have h : (p &&& 3).toBitVec.toNat < 4 := by
    have e : (p &&& 3).toBitVec = p.toBitVec &&& 3#32 := rfl
    rw [e, BitVec.toNat_and]
    exact Nat.lt_of_le_of_lt Nat.and_le_right (by decide)
  have e : p &&& 3 = Int32.ofNat (p &&& 3).toBitVec.toNat := by
    apply Int32.toBitVec_inj.mp
    show _ = BitVec.ofNat 32 (p &&& 3).toBitVec.toNat
    rw [BitVec.ofNat_toNat, BitVec.setWidth_eq]
  generalize (p &&& 3).toBitVec.toNat = n at h e
  have : n = 0 ∨ n = 1 ∨ n = 2 ∨ n = 3 := by omega
  rcases this with rfl | rfl | rfl | rfl
  · exact Or.inl e
  · exact Or.inr (Or.inl e)
  · exact Or.inr (Or.inr (Or.inl e))
  · exact Or.inr (Or.inr (Or.inr e))
theorem own_z (p3 : Int32) : ¬ ((4 : Int32) + (p3 &&& (3 : Int32)) < 0) ∧ ((4 : Int32) + (p3 &&& (3 : Int32))).toNatClampNeg ≤ 7 ∧ (0 : Int32) < (4 : Int32) + (p3 &&& (3 : Int32)) ∧ (1 : Int32) < (4 : Int32) + (p3 &&& (3 : Int32)) ∧ (2 : Int32) < (4 : Int32) + (p3 &&& (3 : Int32)) ∧ (3 : Int32) < (4 : Int32) + (p3 &&& (3 : Int32)) ∧ ¬ ((4 : Int32) + (p3 &&& (3 : Int32)) < 4) := by
  rcases own_m3 p3 with h | h | h | h <;> rw [h] <;> decide
theorem own_byte (s : Int32) : (nar .byte (s.toInt8.toInt32) &&& (255 : Int32)).toInt = s.toInt % 256 := by
  have h1 := c_i2b s
  have h2 := c_i2b s.toInt8.toInt32
  have h3 := c_mask (nar .byte (s.toInt8.toInt32)) 255 8 (by decide) (by decide)
  have e : nar .byte (s.toInt8.toInt32) = s.toInt8.toInt32.toInt8.toInt32 := rfl
  rw [e] at h3 ⊢
  have e2 : ((2 ^ 8 : Nat) : Int) = 256 := by decide
  rw [e2] at h3
  omega
theorem own_pack (p1 : Int32) : (((((((nar .byte (((p1.toUInt32 >>> ((24 : Int32) &&& 31).toUInt32).toInt32).toInt8.toInt32)) &&& (255 : Int32)) <<< ((24 : Int32) &&& 31)) ||| (((nar .byte (((p1.toUInt32 >>> ((16 : Int32) &&& 31).toUInt32).toInt32).toInt8.toInt32)) &&& (255 : Int32)) <<< ((16 : Int32) &&& 31))) ||| (((nar .byte (((p1.toUInt32 >>> ((8 : Int32) &&& 31).toUInt32).toInt32).toInt8.toInt32)) &&& (255 : Int32)) <<< ((8 : Int32) &&& 31))) ||| ((nar .byte (p1.toInt8.toInt32)) &&& (255 : Int32)))) = p1 := by
  have u3 := c_iushr p1 24 24 (by decide) (by decide)
  have u2 := c_iushr p1 16 16 (by decide) (by decide)
  have u1 := c_iushr p1 8 8 (by decide) (by decide)
  have b3 := own_byte ((p1.toUInt32 >>> ((24 : Int32) &&& 31).toUInt32).toInt32)
  have b2 := own_byte ((p1.toUInt32 >>> ((16 : Int32) &&& 31).toUInt32).toInt32)
  have b1 := own_byte ((p1.toUInt32 >>> ((8 : Int32) &&& 31).toUInt32).toInt32)
  have b0 := own_byte p1
  generalize (nar .byte (((p1.toUInt32 >>> ((24 : Int32) &&& 31).toUInt32).toInt32).toInt8.toInt32)) &&& (255 : Int32) = x3 at *
  generalize (nar .byte (((p1.toUInt32 >>> ((16 : Int32) &&& 31).toUInt32).toInt32).toInt8.toInt32)) &&& (255 : Int32) = x2 at *
  generalize (nar .byte (((p1.toUInt32 >>> ((8 : Int32) &&& 31).toUInt32).toInt32).toInt8.toInt32)) &&& (255 : Int32) = x1 at *
  generalize (nar .byte (p1.toInt8.toInt32)) &&& (255 : Int32) = x0 at *
  rw [u3] at b3; rw [u2] at b2; rw [u1] at b1
  have l3 := c_ishl x3 24 24 (by decide)
  have l2 := c_ishl x2 16 16 (by decide)
  have l1 := c_ishl x1 8 8 (by decide)
  generalize x3 <<< ((24 : Int32) &&& 31) = y3 at *
  generalize x2 <<< ((16 : Int32) &&& 31) = y2 at *
  generalize x1 <<< ((8 : Int32) &&& 31) = y1 at *
  have e24 : ((2 ^ 24 : Nat) : Int) = 16777216 := by decide
  have e16 : ((2 ^ 16 : Nat) : Int) = 65536 := by decide
  have e8 : ((2 ^ 8 : Nat) : Int) = 256 := by decide
  rw [e24] at b3 l3; rw [e16] at b2 l2; rw [e8] at b1 l1
  have r3 := rng32 y3
  have r2 := rng32 y2
  have r1 := rng32 y1
  have rp := rng32 p1
  have y2v : y2.toInt = x2.toInt * 65536 := by omega
  have y1v : y1.toInt = x1.toInt * 256 := by omega
  have o1 := c_or y3 y2 24 (by decide) 16777216 (by decide) (by omega) (by omega) (by omega)
  have q1 := rng32 (y3 ||| y2)
  generalize y3 ||| y2 = z1 at *
  have o2 := c_or z1 y1 16 (by decide) 65536 (by decide) (by omega) (by omega) (by omega)
  have q2 := rng32 (z1 ||| y1)
  generalize z1 ||| y1 = z2 at *
  have o3 := c_or z2 x0 8 (by decide) 256 (by decide) (by omega) (by omega) (by omega)
  have q3 := rng32 (z2 ||| x0)
  generalize z2 ||| x0 = z3 at *
  apply Int32.toInt_inj.mp
  omega
theorem d1_0 : decode prog_10_method_1_code 0 = .ok (.aload_n 0, 1) := by decide +kernel
theorem d1_1 : decode prog_10_method_1_code 1 = .ok (.invokespecial 1, 3) := by decide +kernel
theorem d1_4 : decode prog_10_method_1_code 4 = .ok (.aload_n 0, 1) := by decide +kernel
theorem d1_5 : decode prog_10_method_1_code 5 = .ok (.iload_n 1, 1) := by decide +kernel
theorem d1_6 : decode prog_10_method_1_code 6 = .ok (.putfield 7, 3) := by decide +kernel
theorem d1_9 : decode prog_10_method_1_code 9 = .ok (.aload_n 0, 1) := by decide +kernel
theorem d1_10 : decode prog_10_method_1_code 10 = .ok (.aload_n 2, 1) := by decide +kernel
theorem d1_11 : decode prog_10_method_1_code 11 = .ok (.putfield 13, 3) := by decide +kernel
theorem d1_14 : decode prog_10_method_1_code 14 = .ok (.return_, 1) := by decide +kernel
theorem pn_1 : plainName "com/example/varuna/varuna/Message" = true := by first | (simp [plainName, overriddenIn]; done) | decide +kernel
theorem ef_1 (m : MethodId) (x0 : Addr) (x1 : Int32) (x2 : Addr) : entryFrame m #[(.ref x0), (.int x1), (.ref x2)] 3 = mkF m 0 #[.val (.ref x0), .val (.int x1), .val (.ref x2)] [] := by first | (simp [entryFrame, mkF, argsToLocals, Value.category]; done) | rfl
def Q1 (Z : State) (a1 : Addr) (p2 : Int32) (a3 : Addr) (u_type_a1 : Value) (u_body_a1 : Value) (h0 : Heap) (n0 : Nat) (v : Option Value) (h : Heap) (L : List Loc) : Prop := v = none ∧ Fr n0 L ∧ Keep h0 h [a1] ∧ Exa Z h a1 "com/example/varuna/varuna/Message" ∧ Fld Z h a1 "com/example/varuna/varuna/Message" "type" "C" (.int (nar .char p2)) ∧ Fld Z h a1 "com/example/varuna/varuna/Message" "body" "[B" (.ref a3)
set_option maxRecDepth 65536 in
set_option maxHeartbeats 40000000 in
theorem rm1 (l : Launch) (Z : State) (a0 : Array Value) (hw : ∀ d ∈ tables_1, d.before a0 Z = true) (ws : List Jvm.Cond) (a1 : Addr) (p2 : Int32) (a3 : Addr) (u_type_a1 : Value) (u_body_a1 : Value) (h0 : Heap) (n0 : Nat) (Z0 : n0 ≤ h0.size) (E_a1 : Exa Z h0 a1 "com/example/varuna/varuna/Message") (F_type_a1 : Fld Z h0 a1 "com/example/varuna/varuna/Message" "type" "C" u_type_a1) (g_a1 : n0 ≤ a1) (F_body_a1 : Fld Z h0 a1 "com/example/varuna/varuna/Message" "body" "[B" u_body_a1) :
    MetFree l (⟨"com/example/varuna/varuna/Message", "<init>", "(C[B)V"⟩ : MethodName) (head1 (Jvm.Cond.code (⟨"com/example/varuna/varuna/Message", "<init>", "(C[B)V"⟩ : MethodName) prog_10_method_1_code 3 none :: ws) ({ frames := 1, cells := 0, slots := 0, locals := 12 } : Room)) (fun a U => a = #[(.ref a1), (.int p2), (.ref a3)] ∧ Z.Warmed39 U.vm ∧ U.heap = h0) (fun _ _ _ _ _ => True) (fun _ U o U' => ∃ v L, o = .returned v ∧ Q1 Z a1 p2 a3 u_type_a1 u_body_a1 h0 n0 v U'.heap L ∧ FrameEnd U o U' L ({ frames := 1, cells := 0, slots := 0, locals := 12 } : Room).cells ({ frames := 1, cells := 0, slots := 0, locals := 12 } : Room).slots) := by
  refine MetFree.of_bodySF (plainFor_of_name pn_1) hisR ?_
  intro p e s m args below meth c s₁ Bd hml0 hP hK
  obtain ⟨rfl, hZ, hh⟩ := hP
  have hx := Bd.exec
  have hby := Bd.bytes
  have hml : c.maxLocals = 3 := hml0
  have hown : s.vm.findClass "com/example/varuna/varuna/Message" = some m.cls := findClass_of_methodNamed Bd.named
  have hnm := (name_of_methodNamed Bd.named Bd.method).1
  have X0 : Stand p l e ({ frames := 1, cells := 0, slots := 0, locals := 12 } : Room) s m #[(.ref a1), (.int p2), (.ref a3)] below meth c s₁ [] 0 0 := Stand.of_body Bd
  have e0 : s₁.heap = h0 := by rw [← hh, Bd.state]; rfl
  have N0 := Fr.nil n0
  have pre0 : ∀ t, Steps p.tables e below (s₁.setTop (mkF m 0 #[.val (.ref a1), .val (.int p2), .val (.ref a3)] [])) t → Steps p.tables e below (s₁.setTop (entryFrame m #[(.ref a1), (.int p2), (.ref a3)] 3)) t := fun t k => castTop (ef_1 m a1 p2 a3) k
  obtain ⟨T4, X4, e4, st4⟩ := initO X0 hx hZ hown (hw _ (List.mem_of_getElem? (i := 7) rfl)) (hw _ (List.mem_of_getElem? (i := 8) rfl)) (hw _ (List.mem_of_getElem? (i := 9) rfl)) e0 (g := (mkF m 1 #[.val (.ref a1), .val (.int p2), .val (.ref a3)] [(.ref a1)])) rfl (by rw [hml]; rfl) rfl (hb hby d1_1) (by decide) (W := 0) (by show 2 * 0 + _ ≤ _; exact Nat.le_of_eq rfl) (by decide)
  obtain ⟨T5, h5, X5, e5, W5, st5⟩ := putFN X4 hx hZ hown (hw _ (List.mem_of_getElem? (i := 10) rfl)) Via.refl e4 F_type_a1 E_a1 (Or.inr ⟨(hw _ (List.mem_of_getElem? (i := 11) rfl)), rfl, hnm⟩) (hw _ (List.mem_of_getElem? (i := 2) rfl)) (ty := .char) (v' := .int (nar .char p2)) (by decide) rfl (fits_nar_char _) (g := (mkF m 6 #[.val (.ref a1), .val (.int p2), .val (.ref a3)] [(.int p2), (.ref a1)])) rfl rfl (hb hby d1_6)
  have Fw5 := F_type_a1.same W5
  have K5 : Keep h0 h5 [a1] := (Keep.refl h0 [a1]).wr W5 (Or.inl (List.mem_of_getElem? (i := 0) rfl))
  have N5 := Fr.snoc X5 N0 g_a1
  obtain ⟨T6, h6, X6, e6, W6, st6⟩ := putF X5 hx hZ hown (host := "") (Or.inl (hw _ (List.mem_of_getElem? (i := 12) rfl))) Via.refl e5 (F_body_a1.other W5 (Or.inr (slot_ne (Or.inr (hw _ (List.mem_of_getElem? (i := 13) rfl))) (Or.inr (hw _ (List.mem_of_getElem? (i := 11) rfl))) (by decide) (t := (.array .byte)) (t' := .char) (by decide) (by decide)))) (E_a1.wr W5) (Or.inr ⟨(hw _ (List.mem_of_getElem? (i := 13) rfl)), rfl, hnm⟩) (hw _ (List.mem_of_getElem? (i := 2) rfl)) (ty := (.array .byte)) (by decide) rfl rfl (g := (mkF m 11 #[.val (.ref a1), .val (.int p2), .val (.ref a3)] [(.ref a3), (.ref a1)])) rfl rfl (hb hby d1_11)
  have Fw6 := (F_body_a1.other W5 (Or.inr (slot_ne (Or.inr (hw _ (List.mem_of_getElem? (i := 13) rfl))) (Or.inr (hw _ (List.mem_of_getElem? (i := 11) rfl))) (by decide) (t := (.array .byte)) (t' := .char) (by decide) (by decide)))).same W6
  have K6 : Keep h0 h6 [a1] := K5.wr W6 (Or.inl (List.mem_of_getElem? (i := 0) rfl))
  have N6 := Fr.snoc X6 N5 g_a1
  obtain ⟨fs, hr, hrun, hended, hW, hsame⟩ := X6.leave (v := none) (fun _ => rfl)
  refine ⟨_, _, pre0 _ ?_, hrun, hended, _, _, rfl, ?_, ⟨_, rfl⟩, hW, hsame.mono (by decide) (by decide)⟩
  · show Steps p.tables e below (s₁.setTop (mkF m 0 #[.val (.ref a1), .val (.int p2), .val (.ref a3)] [])) _
    refine XS.aloadN X0.here hx rfl (hb hby d1_0) rfl rfl ?_
    show Steps p.tables e below (s₁.setTop (mkF m 1 #[.val (.ref a1), .val (.int p2), .val (.ref a3)] [(.ref a1)])) _
    refine st4 _ ?_
    show Steps p.tables e below (T4.setTop (mkF m 4 #[.val (.ref a1), .val (.int p2), .val (.ref a3)] [])) _
    refine XS.aloadN X4.here hx rfl (hb hby d1_4) rfl rfl ?_
    show Steps p.tables e below (T4.setTop (mkF m 5 #[.val (.ref a1), .val (.int p2), .val (.ref a3)] [(.ref a1)])) _
    refine XS.iloadN X4.here hx rfl (hb hby d1_5) rfl ?_
    show Steps p.tables e below (T4.setTop (mkF m 6 #[.val (.ref a1), .val (.int p2), .val (.ref a3)] [(.int p2), (.ref a1)])) _
    refine st5 _ ?_
    show Steps p.tables e below (T5.setTop (mkF m 9 #[.val (.ref a1), .val (.int p2), .val (.ref a3)] [])) _
    refine XS.aloadN X5.here hx rfl (hb hby d1_9) rfl rfl ?_
    show Steps p.tables e below (T5.setTop (mkF m 10 #[.val (.ref a1), .val (.int p2), .val (.ref a3)] [(.ref a1)])) _
    refine XS.aloadN X5.here hx rfl (hb hby d1_10) rfl rfl ?_
    show Steps p.tables e below (T5.setTop (mkF m 11 #[.val (.ref a1), .val (.int p2), .val (.ref a3)] [(.ref a3), (.ref a1)])) _
    refine st6 _ ?_
    show Steps p.tables e below (T6.setTop (mkF m 14 #[.val (.ref a1), .val (.int p2), .val (.ref a3)] [])) _
    exact X6.returnOut hx Bd.returns (hb hby d1_14) hr
  · show Q1 Z a1 p2 a3 u_type_a1 u_body_a1 h0 n0 _ T6.heap _
    rw [e6]
    exact ⟨rfl, N6, K6, ((E_a1.wr W5).wr W6), (Fw5.other W6 (Or.inr (slot_ne (Or.inr (hw _ (List.mem_of_getElem? (i := 11) rfl))) (Or.inr (hw _ (List.mem_of_getElem? (i := 13) rfl))) (by decide) (t := .char) (t' := (.array .byte)) (by decide) (by decide)))), Fw6⟩
theorem d3_0 : decode prog_10_method_4_code 0 = .ok (.aload_n 0, 1) := by decide +kernel
theorem d3_1 : decode prog_10_method_4_code 1 = .ok (.getfield 13, 3) := by decide +kernel
theorem d3_4 : decode prog_10_method_4_code 4 = .ok (.arraylength, 1) := by decide +kernel
theorem d3_5 : decode prog_10_method_4_code 5 = .ok (.iconst 4, 1) := by decide +kernel
theorem d3_6 : decode prog_10_method_4_code 6 = .ok (.if_icmp .ge 41, 3) := by decide +kernel
theorem d3_47 : decode prog_10_method_4_code 47 = .ok (.aload_n 0, 1) := by decide +kernel
theorem d3_48 : decode prog_10_method_4_code 48 = .ok (.getfield 13, 3) := by decide +kernel
theorem d3_51 : decode prog_10_method_4_code 51 = .ok (.iconst 0, 1) := by decide +kernel
theorem d3_52 : decode prog_10_method_4_code 52 = .ok (.baload, 1) := by decide +kernel
theorem d3_53 : decode prog_10_method_4_code 53 = .ok (.sipush 255, 3) := by decide +kernel
theorem d3_56 : decode prog_10_method_4_code 56 = .ok (.iand, 1) := by decide +kernel
theorem d3_57 : decode prog_10_method_4_code 57 = .ok (.bipush 24, 2) := by decide +kernel
theorem d3_59 : decode prog_10_method_4_code 59 = .ok (.ishl, 1) := by decide +kernel
theorem d3_60 : decode prog_10_method_4_code 60 = .ok (.aload_n 0, 1) := by decide +kernel
theorem d3_61 : decode prog_10_method_4_code 61 = .ok (.getfield 13, 3) := by decide +kernel
theorem d3_64 : decode prog_10_method_4_code 64 = .ok (.iconst 1, 1) := by decide +kernel
theorem d3_65 : decode prog_10_method_4_code 65 = .ok (.baload, 1) := by decide +kernel
theorem d3_66 : decode prog_10_method_4_code 66 = .ok (.sipush 255, 3) := by decide +kernel
theorem d3_69 : decode prog_10_method_4_code 69 = .ok (.iand, 1) := by decide +kernel
theorem d3_70 : decode prog_10_method_4_code 70 = .ok (.bipush 16, 2) := by decide +kernel
theorem d3_72 : decode prog_10_method_4_code 72 = .ok (.ishl, 1) := by decide +kernel
theorem d3_73 : decode prog_10_method_4_code 73 = .ok (.ior, 1) := by decide +kernel
theorem d3_74 : decode prog_10_method_4_code 74 = .ok (.aload_n 0, 1) := by decide +kernel
theorem d3_75 : decode prog_10_method_4_code 75 = .ok (.getfield 13, 3) := by decide +kernel
theorem d3_78 : decode prog_10_method_4_code 78 = .ok (.iconst 2, 1) := by decide +kernel
theorem d3_79 : decode prog_10_method_4_code 79 = .ok (.baload, 1) := by decide +kernel
theorem d3_80 : decode prog_10_method_4_code 80 = .ok (.sipush 255, 3) := by decide +kernel
theorem d3_83 : decode prog_10_method_4_code 83 = .ok (.iand, 1) := by decide +kernel
theorem d3_84 : decode prog_10_method_4_code 84 = .ok (.bipush 8, 2) := by decide +kernel
theorem d3_86 : decode prog_10_method_4_code 86 = .ok (.ishl, 1) := by decide +kernel
theorem d3_87 : decode prog_10_method_4_code 87 = .ok (.ior, 1) := by decide +kernel
theorem d3_88 : decode prog_10_method_4_code 88 = .ok (.aload_n 0, 1) := by decide +kernel
theorem d3_89 : decode prog_10_method_4_code 89 = .ok (.getfield 13, 3) := by decide +kernel
theorem d3_92 : decode prog_10_method_4_code 92 = .ok (.iconst 3, 1) := by decide +kernel
theorem d3_93 : decode prog_10_method_4_code 93 = .ok (.baload, 1) := by decide +kernel
theorem d3_94 : decode prog_10_method_4_code 94 = .ok (.sipush 255, 3) := by decide +kernel
theorem d3_97 : decode prog_10_method_4_code 97 = .ok (.iand, 1) := by decide +kernel
theorem d3_98 : decode prog_10_method_4_code 98 = .ok (.ior, 1) := by decide +kernel
theorem d3_99 : decode prog_10_method_4_code 99 = .ok (.ireturn, 1) := by decide +kernel
theorem pn_3 : plainName "com/example/varuna/varuna/Message" = true := by first | (simp [plainName, overriddenIn]; done) | decide +kernel
theorem ef_3 (m : MethodId) (x0 : Addr) : entryFrame m #[(.ref x0)] 1 = mkF m 0 #[.val (.ref x0)] [] := by first | (simp [entryFrame, mkF, argsToLocals, Value.category]; done) | rfl
def Q3 (Z : State) (a1 : Addr) (w2 : Addr) (cl_w2 : Cell) (z_w2 : Int32) (w5 : Int32) (w7 : Int32) (w9 : Int32) (w11 : Int32) (h0 : Heap) (n0 : Nat) (v : Option Value) (h : Heap) (L : List Loc) : Prop := v = some (.int (((((w5 &&& (255 : Int32)) <<< ((24 : Int32) &&& 31)) ||| ((w7 &&& (255 : Int32)) <<< ((16 : Int32) &&& 31))) ||| ((w9 &&& (255 : Int32)) <<< ((8 : Int32) &&& 31))) ||| (w11 &&& (255 : Int32)))) ∧ Fr n0 L ∧ h = h0
set_option maxRecDepth 65536 in
set_option maxHeartbeats 40000000 in
theorem rm3 (l : Launch) (Z : State) (a0 : Array Value) (hw : ∀ d ∈ tables_1, d.before a0 Z = true) (ws : List Jvm.Cond) (a1 : Addr) (w2 : Addr) (cl_w2 : Cell) (z_w2 : Int32) (w5 : Int32) (w7 : Int32) (w9 : Int32) (w11 : Int32) (h0 : Heap) (n0 : Nat) (Z0 : n0 ≤ h0.size) (F_body_a1 : Fld Z h0 a1 "com/example/varuna/varuna/Message" "body" "[B" (.ref w2)) (Ar_w2 : Arr Z h0 w2 cl_w2 .byte) (S_w2 : cl_w2.slots.size = z_w2.toNatClampNeg) (N_w2 : ¬ z_w2 < 0) (hin52 : ¬ ((0 : Int32) < 0 ∨ cl_w2.slots.size ≤ ((0 : Int32)).toNatClampNeg)) (hat52 : cl_w2.slots[((0 : Int32)).toNatClampNeg]? = some (.int w5)) (hin65 : ¬ ((1 : Int32) < 0 ∨ cl_w2.slots.size ≤ ((1 : Int32)).toNatClampNeg)) (hat65 : cl_w2.slots[((1 : Int32)).toNatClampNeg]? = some (.int w7)) (hin79 : ¬ ((2 : Int32) < 0 ∨ cl_w2.slots.size ≤ ((2 : Int32)).toNatClampNeg)) (hat79 : cl_w2.slots[((2 : Int32)).toNatClampNeg]? = some (.int w9)) (hin93 : ¬ ((3 : Int32) < 0 ∨ cl_w2.slots.size ≤ ((3 : Int32)).toNatClampNeg)) (hat93 : cl_w2.slots[((3 : Int32)).toNatClampNeg]? = some (.int w11)) (hc6 : ¬ (z_w2 < (4 : Int32))) :
    MetFree l (⟨"com/example/varuna/varuna/Message", "leadingInt32", "()I"⟩ : MethodName) (head1 (Jvm.Cond.code (⟨"com/example/varuna/varuna/Message", "leadingInt32", "()I"⟩ : MethodName) prog_10_method_4_code 1 (some .int) :: ws) ({ frames := 0, cells := 0, slots := 0, locals := 0 } : Room)) (fun a U => a = #[(.ref a1)] ∧ Z.Warmed39 U.vm ∧ U.heap = h0) (fun _ _ _ _ _ => True) (fun _ U o U' => ∃ v L, o = .returned v ∧ Q3 Z a1 w2 cl_w2 z_w2 w5 w7 w9 w11 h0 n0 v U'.heap L ∧ FrameEnd U o U' L ({ frames := 0, cells := 0, slots := 0, locals := 0 } : Room).cells ({ frames := 0, cells := 0, slots := 0, locals := 0 } : Room).slots) := by
  refine MetFree.of_bodySF (plainFor_of_name pn_3) hisR ?_
  intro p e s m args below meth c s₁ Bd hml0 hP hK
  obtain ⟨rfl, hZ, hh⟩ := hP
  have hx := Bd.exec
  have hby := Bd.bytes
  have hml : c.maxLocals = 1 := hml0
  have hown : s.vm.findClass "com/example/varuna/varuna/Message" = some m.cls := findClass_of_methodNamed Bd.named
  have hnm := (name_of_methodNamed Bd.named Bd.method).1
  have X0 : Stand p l e ({ frames := 0, cells := 0, slots := 0, locals := 0 } : Room) s m #[(.ref a1)] below meth c s₁ [] 0 0 := Stand.of_body Bd
  have e0 : s₁.heap = h0 := by rw [← hh, Bd.state]; rfl
  have N0 := Fr.nil n0
  have pre0 : ∀ t, Steps p.tables e below (s₁.setTop (mkF m 0 #[.val (.ref a1)] [])) t → Steps p.tables e below (s₁.setTop (entryFrame m #[(.ref a1)] 1)) t := fun t k => castTop (ef_3 m a1) k
  obtain ⟨T3, X3, e3, st3⟩ := getF X0 hx hZ hown (host := "") (Or.inl (hw _ (List.mem_of_getElem? (i := 12) rfl))) Via.refl e0 F_body_a1 (g := (mkF m 1 #[.val (.ref a1)] [(.ref a1)])) rfl rfl (hb hby d3_1)
  obtain ⟨T4, X4, e4, st4⟩ := getF X3 hx hZ hown (host := "") (Or.inl (hw _ (List.mem_of_getElem? (i := 12) rfl))) Via.refl e3 F_body_a1 (g := (mkF m 48 #[.val (.ref a1)] [(.ref a1)])) rfl rfl (hb hby d3_48)
  obtain ⟨T6, X6, e6, st6⟩ := getF X4 hx hZ hown (host := "") (Or.inl (hw _ (List.mem_of_getElem? (i := 12) rfl))) Via.refl e4 F_body_a1 (g := (mkF m 61 #[.val (.ref a1)] [(.ref a1), (.int ((w5 &&& (255 : Int32)) <<< ((24 : Int32) &&& 31)))])) rfl rfl (hb hby d3_61)
  obtain ⟨T8, X8, e8, st8⟩ := getF X6 hx hZ hown (host := "") (Or.inl (hw _ (List.mem_of_getElem? (i := 12) rfl))) Via.refl e6 F_body_a1 (g := (mkF m 75 #[.val (.ref a1)] [(.ref a1), (.int (((w5 &&& (255 : Int32)) <<< ((24 : Int32) &&& 31)) ||| ((w7 &&& (255 : Int32)) <<< ((16 : Int32) &&& 31))))])) rfl rfl (hb hby d3_75)
  obtain ⟨T10, X10, e10, st10⟩ := getF X8 hx hZ hown (host := "") (Or.inl (hw _ (List.mem_of_getElem? (i := 12) rfl))) Via.refl e8 F_body_a1 (g := (mkF m 89 #[.val (.ref a1)] [(.ref a1), (.int ((((w5 &&& (255 : Int32)) <<< ((24 : Int32) &&& 31)) ||| ((w7 &&& (255 : Int32)) <<< ((16 : Int32) &&& 31))) ||| ((w9 &&& (255 : Int32)) <<< ((8 : Int32) &&& 31))))])) rfl rfl (hb hby d3_89)
  obtain ⟨fs, hr, hrun, hended, hW, hsame⟩ := X10.leave (v := some (.int (((((w5 &&& (255 : Int32)) <<< ((24 : Int32) &&& 31)) ||| ((w7 &&& (255 : Int32)) <<< ((16 : Int32) &&& 31))) ||| ((w9 &&& (255 : Int32)) <<< ((8 : Int32) &&& 31))) ||| (w11 &&& (255 : Int32))))) (fun h => by rw [Bd.returns] at h; cases h)
  refine ⟨_, _, pre0 _ ?_, hrun, hended, _, _, rfl, ?_, ⟨_, rfl⟩, hW, hsame.mono (by decide) (by decide)⟩
  · show Steps p.tables e below (s₁.setTop (mkF m 0 #[.val (.ref a1)] [])) _
    refine XS.aloadN X0.here hx rfl (hb hby d3_0) rfl rfl ?_
    show Steps p.tables e below (s₁.setTop (mkF m 1 #[.val (.ref a1)] [(.ref a1)])) _
    refine st3 _ ?_
    show Steps p.tables e below (T3.setTop (mkF m 4 #[.val (.ref a1)] [(.ref w2)])) _
    refine X3.arraylength hx (by rw [e3]; exact Ar_w2.1) (State.isArrayOf_alike hZ.alike Ar_w2.2.1) (g := (mkF m 4 #[.val (.ref a1)] [(.ref w2)])) rfl rfl (hb hby d3_4) _ ?_
    rw [len_of S_w2 N_w2]
    show Steps p.tables e below (T3.setTop (mkF m 5 #[.val (.ref a1)] [(.int z_w2)])) _
    refine XS.iconst X3.here hx rfl (hb hby d3_5) ?_
    show Steps p.tables e below (T3.setTop (mkF m 6 #[.val (.ref a1)] [(.int (4 : Int32)), (.int z_w2)])) _
    refine XS.icmpYes X3.here hx rfl (pc0 := 6) (pc' := 47) rfl (hb hby d3_6) rfl (flt hc6).2.1 (by decide) (by decide) ?_
    show Steps p.tables e below (T3.setTop (mkF m 47 #[.val (.ref a1)] [])) _
    refine XS.aloadN X3.here hx rfl (hb hby d3_47) rfl rfl ?_
    show Steps p.tables e below (T3.setTop (mkF m 48 #[.val (.ref a1)] [(.ref a1)])) _
    refine st4 _ ?_
    show Steps p.tables e below (T4.setTop (mkF m 51 #[.val (.ref a1)] [(.ref w2)])) _
    refine XS.iconst X4.here hx rfl (hb hby d3_51) ?_
    show Steps p.tables e below (T4.setTop (mkF m 52 #[.val (.ref a1)] [(.int (0 : Int32)), (.ref w2)])) _
    refine X4.baloadBytes hx (j := (0 : Int32)) (v := (.int w5)) (by rw [e4]; exact Ar_w2.1) (State.isArrayOf_alike hZ.alike Ar_w2.2.1) Ar_w2.2.2 hin52 hat52 (g := (mkF m 52 #[.val (.ref a1)] [(.int (0 : Int32)), (.ref w2)])) rfl rfl (hb hby d3_52) _ ?_
    show Steps p.tables e below (T4.setTop (mkF m 53 #[.val (.ref a1)] [(.int w5)])) _
    refine XS.sipush X4.here hx rfl (hb hby d3_53) ?_
    show Steps p.tables e below (T4.setTop (mkF m 56 #[.val (.ref a1)] [(.int (255 : Int32)), (.int w5)])) _
    refine XS.iand X4.here hx rfl (hb hby d3_56) rfl ?_
    show Steps p.tables e below (T4.setTop (mkF m 57 #[.val (.ref a1)] [(.int (w5 &&& (255 : Int32)))])) _
    refine XS.bipush X4.here hx rfl (hb hby d3_57) ?_
    show Steps p.tables e below (T4.setTop (mkF m 59 #[.val (.ref a1)] [(.int (24 : Int32)), (.int (w5 &&& (255 : Int32)))])) _
    refine XS.ishl X4.here hx rfl (hb hby d3_59) rfl ?_
    show Steps p.tables e below (T4.setTop (mkF m 60 #[.val (.ref a1)] [(.int ((w5 &&& (255 : Int32)) <<< ((24 : Int32) &&& 31)))])) _
    refine XS.aloadN X4.here hx rfl (hb hby d3_60) rfl rfl ?_
    show Steps p.tables e below (T4.setTop (mkF m 61 #[.val (.ref a1)] [(.ref a1), (.int ((w5 &&& (255 : Int32)) <<< ((24 : Int32) &&& 31)))])) _
    refine st6 _ ?_
    show Steps p.tables e below (T6.setTop (mkF m 64 #[.val (.ref a1)] [(.ref w2), (.int ((w5 &&& (255 : Int32)) <<< ((24 : Int32) &&& 31)))])) _
    refine XS.iconst X6.here hx rfl (hb hby d3_64) ?_
    show Steps p.tables e below (T6.setTop (mkF m 65 #[.val (.ref a1)] [(.int (1 : Int32)), (.ref w2), (.int ((w5 &&& (255 : Int32)) <<< ((24 : Int32) &&& 31)))])) _
    refine X6.baloadBytes hx (j := (1 : Int32)) (v := (.int w7)) (by rw [e6]; exact Ar_w2.1) (State.isArrayOf_alike hZ.alike Ar_w2.2.1) Ar_w2.2.2 hin65 hat65 (g := (mkF m 65 #[.val (.ref a1)] [(.int (1 : Int32)), (.ref w2), (.int ((w5 &&& (255 : Int32)) <<< ((24 : Int32) &&& 31)))])) rfl rfl (hb hby d3_65) _ ?_
    show Steps p.tables e below (T6.setTop (mkF m 66 #[.val (.ref a1)] [(.int w7), (.int ((w5 &&& (255 : Int32)) <<< ((24 : Int32) &&& 31)))])) _
    refine XS.sipush X6.here hx rfl (hb hby d3_66) ?_
    show Steps p.tables e below (T6.setTop (mkF m 69 #[.val (.ref a1)] [(.int (255 : Int32)), (.int w7), (.int ((w5 &&& (255 : Int32)) <<< ((24 : Int32) &&& 31)))])) _
    refine XS.iand X6.here hx rfl (hb hby d3_69) rfl ?_
    show Steps p.tables e below (T6.setTop (mkF m 70 #[.val (.ref a1)] [(.int (w7 &&& (255 : Int32))), (.int ((w5 &&& (255 : Int32)) <<< ((24 : Int32) &&& 31)))])) _
    refine XS.bipush X6.here hx rfl (hb hby d3_70) ?_
    show Steps p.tables e below (T6.setTop (mkF m 72 #[.val (.ref a1)] [(.int (16 : Int32)), (.int (w7 &&& (255 : Int32))), (.int ((w5 &&& (255 : Int32)) <<< ((24 : Int32) &&& 31)))])) _
    refine XS.ishl X6.here hx rfl (hb hby d3_72) rfl ?_
    show Steps p.tables e below (T6.setTop (mkF m 73 #[.val (.ref a1)] [(.int ((w7 &&& (255 : Int32)) <<< ((16 : Int32) &&& 31))), (.int ((w5 &&& (255 : Int32)) <<< ((24 : Int32) &&& 31)))])) _
    refine XS.ior X6.here hx rfl (hb hby d3_73) rfl ?_
    show Steps p.tables e below (T6.setTop (mkF m 74 #[.val (.ref a1)] [(.int (((w5 &&& (255 : Int32)) <<< ((24 : Int32) &&& 31)) ||| ((w7 &&& (255 : Int32)) <<< ((16 : Int32) &&& 31))))])) _
    refine XS.aloadN X6.here hx rfl (hb hby d3_74) rfl rfl ?_
    show Steps p.tables e below (T6.setTop (mkF m 75 #[.val (.ref a1)] [(.ref a1), (.int (((w5 &&& (255 : Int32)) <<< ((24 : Int32) &&& 31)) ||| ((w7 &&& (255 : Int32)) <<< ((16 : Int32) &&& 31))))])) _
    refine st8 _ ?_
    show Steps p.tables e below (T8.setTop (mkF m 78 #[.val (.ref a1)] [(.ref w2), (.int (((w5 &&& (255 : Int32)) <<< ((24 : Int32) &&& 31)) ||| ((w7 &&& (255 : Int32)) <<< ((16 : Int32) &&& 31))))])) _
    refine XS.iconst X8.here hx rfl (hb hby d3_78) ?_
    show Steps p.tables e below (T8.setTop (mkF m 79 #[.val (.ref a1)] [(.int (2 : Int32)), (.ref w2), (.int (((w5 &&& (255 : Int32)) <<< ((24 : Int32) &&& 31)) ||| ((w7 &&& (255 : Int32)) <<< ((16 : Int32) &&& 31))))])) _
    refine X8.baloadBytes hx (j := (2 : Int32)) (v := (.int w9)) (by rw [e8]; exact Ar_w2.1) (State.isArrayOf_alike hZ.alike Ar_w2.2.1) Ar_w2.2.2 hin79 hat79 (g := (mkF m 79 #[.val (.ref a1)] [(.int (2 : Int32)), (.ref w2), (.int (((w5 &&& (255 : Int32)) <<< ((24 : Int32) &&& 31)) ||| ((w7 &&& (255 : Int32)) <<< ((16 : Int32) &&& 31))))])) rfl rfl (hb hby d3_79) _ ?_
    show Steps p.tables e below (T8.setTop (mkF m 80 #[.val (.ref a1)] [(.int w9), (.int (((w5 &&& (255 : Int32)) <<< ((24 : Int32) &&& 31)) ||| ((w7 &&& (255 : Int32)) <<< ((16 : Int32) &&& 31))))])) _
    refine XS.sipush X8.here hx rfl (hb hby d3_80) ?_
    show Steps p.tables e below (T8.setTop (mkF m 83 #[.val (.ref a1)] [(.int (255 : Int32)), (.int w9), (.int (((w5 &&& (255 : Int32)) <<< ((24 : Int32) &&& 31)) ||| ((w7 &&& (255 : Int32)) <<< ((16 : Int32) &&& 31))))])) _
    refine XS.iand X8.here hx rfl (hb hby d3_83) rfl ?_
    show Steps p.tables e below (T8.setTop (mkF m 84 #[.val (.ref a1)] [(.int (w9 &&& (255 : Int32))), (.int (((w5 &&& (255 : Int32)) <<< ((24 : Int32) &&& 31)) ||| ((w7 &&& (255 : Int32)) <<< ((16 : Int32) &&& 31))))])) _
    refine XS.bipush X8.here hx rfl (hb hby d3_84) ?_
    show Steps p.tables e below (T8.setTop (mkF m 86 #[.val (.ref a1)] [(.int (8 : Int32)), (.int (w9 &&& (255 : Int32))), (.int (((w5 &&& (255 : Int32)) <<< ((24 : Int32) &&& 31)) ||| ((w7 &&& (255 : Int32)) <<< ((16 : Int32) &&& 31))))])) _
    refine XS.ishl X8.here hx rfl (hb hby d3_86) rfl ?_
    show Steps p.tables e below (T8.setTop (mkF m 87 #[.val (.ref a1)] [(.int ((w9 &&& (255 : Int32)) <<< ((8 : Int32) &&& 31))), (.int (((w5 &&& (255 : Int32)) <<< ((24 : Int32) &&& 31)) ||| ((w7 &&& (255 : Int32)) <<< ((16 : Int32) &&& 31))))])) _
    refine XS.ior X8.here hx rfl (hb hby d3_87) rfl ?_
    show Steps p.tables e below (T8.setTop (mkF m 88 #[.val (.ref a1)] [(.int ((((w5 &&& (255 : Int32)) <<< ((24 : Int32) &&& 31)) ||| ((w7 &&& (255 : Int32)) <<< ((16 : Int32) &&& 31))) ||| ((w9 &&& (255 : Int32)) <<< ((8 : Int32) &&& 31))))])) _
    refine XS.aloadN X8.here hx rfl (hb hby d3_88) rfl rfl ?_
    show Steps p.tables e below (T8.setTop (mkF m 89 #[.val (.ref a1)] [(.ref a1), (.int ((((w5 &&& (255 : Int32)) <<< ((24 : Int32) &&& 31)) ||| ((w7 &&& (255 : Int32)) <<< ((16 : Int32) &&& 31))) ||| ((w9 &&& (255 : Int32)) <<< ((8 : Int32) &&& 31))))])) _
    refine st10 _ ?_
    show Steps p.tables e below (T10.setTop (mkF m 92 #[.val (.ref a1)] [(.ref w2), (.int ((((w5 &&& (255 : Int32)) <<< ((24 : Int32) &&& 31)) ||| ((w7 &&& (255 : Int32)) <<< ((16 : Int32) &&& 31))) ||| ((w9 &&& (255 : Int32)) <<< ((8 : Int32) &&& 31))))])) _
    refine XS.iconst X10.here hx rfl (hb hby d3_92) ?_
    show Steps p.tables e below (T10.setTop (mkF m 93 #[.val (.ref a1)] [(.int (3 : Int32)), (.ref w2), (.int ((((w5 &&& (255 : Int32)) <<< ((24 : Int32) &&& 31)) ||| ((w7 &&& (255 : Int32)) <<< ((16 : Int32) &&& 31))) ||| ((w9 &&& (255 : Int32)) <<< ((8 : Int32) &&& 31))))])) _
    refine X10.baloadBytes hx (j := (3 : Int32)) (v := (.int w11)) (by rw [e10]; exact Ar_w2.1) (State.isArrayOf_alike hZ.alike Ar_w2.2.1) Ar_w2.2.2 hin93 hat93 (g := (mkF m 93 #[.val (.ref a1)] [(.int (3 : Int32)), (.ref w2), (.int ((((w5 &&& (255 : Int32)) <<< ((24 : Int32) &&& 31)) ||| ((w7 &&& (255 : Int32)) <<< ((16 : Int32) &&& 31))) ||| ((w9 &&& (255 : Int32)) <<< ((8 : Int32) &&& 31))))])) rfl rfl (hb hby d3_93) _ ?_
    show Steps p.tables e below (T10.setTop (mkF m 94 #[.val (.ref a1)] [(.int w11), (.int ((((w5 &&& (255 : Int32)) <<< ((24 : Int32) &&& 31)) ||| ((w7 &&& (255 : Int32)) <<< ((16 : Int32) &&& 31))) ||| ((w9 &&& (255 : Int32)) <<< ((8 : Int32) &&& 31))))])) _
    refine XS.sipush X10.here hx rfl (hb hby d3_94) ?_
    show Steps p.tables e below (T10.setTop (mkF m 97 #[.val (.ref a1)] [(.int (255 : Int32)), (.int w11), (.int ((((w5 &&& (255 : Int32)) <<< ((24 : Int32) &&& 31)) ||| ((w7 &&& (255 : Int32)) <<< ((16 : Int32) &&& 31))) ||| ((w9 &&& (255 : Int32)) <<< ((8 : Int32) &&& 31))))])) _
    refine XS.iand X10.here hx rfl (hb hby d3_97) rfl ?_
    show Steps p.tables e below (T10.setTop (mkF m 98 #[.val (.ref a1)] [(.int (w11 &&& (255 : Int32))), (.int ((((w5 &&& (255 : Int32)) <<< ((24 : Int32) &&& 31)) ||| ((w7 &&& (255 : Int32)) <<< ((16 : Int32) &&& 31))) ||| ((w9 &&& (255 : Int32)) <<< ((8 : Int32) &&& 31))))])) _
    refine XS.ior X10.here hx rfl (hb hby d3_98) rfl ?_
    show Steps p.tables e below (T10.setTop (mkF m 99 #[.val (.ref a1)] [(.int (((((w5 &&& (255 : Int32)) <<< ((24 : Int32) &&& 31)) ||| ((w7 &&& (255 : Int32)) <<< ((16 : Int32) &&& 31))) ||| ((w9 &&& (255 : Int32)) <<< ((8 : Int32) &&& 31))) ||| (w11 &&& (255 : Int32))))])) _
    exact retI X10 hx Bd.returns (hb hby d3_99) hr
  · show Q3 Z a1 w2 cl_w2 z_w2 w5 w7 w9 w11 h0 n0 _ T10.heap _
    rw [e10]
    exact ⟨rfl, N0, rfl⟩
theorem pn_0 : plainName "com/example/varuna/varuna/MessageLeadingInt32PinLaw" = true := by first | (simp [plainName, overriddenIn]; done) | decide +kernel
theorem pd_0_0 : parseMethodDescriptor "(C[B)V" = some ⟨[.char, (.array .byte)], none⟩ := by decide +kernel
theorem pd_0_2 : parseMethodDescriptor "()I" = some ⟨[], some .int⟩ := by decide +kernel
theorem ef_0 (m : MethodId) (x0 : Int32) (x1 : Int32) (x2 : Int32) (x3 : Int32) : entryFrame m #[(.int x0), (.int x1), (.int x2), (.int x3)] maxLocals = mkF m 0 #[.val (.int x0), .val (.int x1), .val (.int x2), .val (.int x3), .unset, .unset, .unset] [] := by first | (simp [entryFrame, mkF, argsToLocals, Value.category, maxLocals]; done) | rfl
def Q0 (Z : State) (p1 : Int32) (p2 : Int32) (p3 : Int32) (p4 : Int32) (h0 : Heap) (n0 : Nat) (v : Option Value) (h : Heap) (L : List Loc) : Prop := v = some (.int (1 : Int32)) ∧ Fr n0 L
set_option maxRecDepth 65536 in
set_option maxHeartbeats 40000000 in
theorem rm0_ttt (l : Launch) (Z : State) (a0 : Array Value) (hw : ∀ d ∈ tables_1, d.before a0 Z = true) (ws : List Jvm.Cond) (p1 : Int32) (p2 : Int32) (p3 : Int32) (p4 : Int32) (h0 : Heap) (n0 : Nat) (Z0 : n0 ≤ h0.size) (hc49 : ¬ ((4 : Int32) < ((4 : Int32) + (p3 &&& (3 : Int32))))) (hc61 : ¬ ((5 : Int32) < ((4 : Int32) + (p3 &&& (3 : Int32))))) (hc77 : ¬ ((6 : Int32) < ((4 : Int32) + (p3 &&& (3 : Int32))))) :
    MetFree l x (head1 (Jvm.Cond.code x code maxLocals ret :: ws) room_1) (fun a U => a = #[(.int p1), (.int p2), (.int p3), (.int p4)] ∧ Z.Warmed39 U.vm ∧ U.heap = h0) (fun _ _ _ _ _ => True) (fun _ U o U' => ∃ v L, o = .returned v ∧ Q0 Z p1 p2 p3 p4 h0 n0 v U'.heap L ∧ FrameEnd U o U' L room_1.cells room_1.slots) := by
  refine MetFree.of_bodySF (plainFor_of_name pn_0) hisR ?_
  intro p e s m args below meth c s₁ Bd hml0 hP hK
  obtain ⟨rfl, hZ, hh⟩ := hP
  have hx := Bd.exec
  have hby := Bd.bytes
  have hml : c.maxLocals = 7 := hml0
  have hown : s.vm.findClass "com/example/varuna/varuna/MessageLeadingInt32PinLaw" = some m.cls := findClass_of_methodNamed Bd.named
  have hnm := (name_of_methodNamed Bd.named Bd.method).1
  have X0 : Stand p l e room_1 s m #[(.int p1), (.int p2), (.int p3), (.int p4)] below meth c s₁ [] 0 0 := Stand.of_body Bd
  have e0 : s₁.heap = h0 := by rw [← hh, Bd.state]; rfl
  have N0 := Fr.nil n0
  obtain ⟨Hz0, Hz1, H0, H1, H2, H3, H4⟩ := own_z p3
  have pre0 : ∀ t, Steps p.tables e below (s₁.setTop (mkF m 0 #[.val (.int p1), .val (.int p2), .val (.int p3), .val (.int p4), .unset, .unset, .unset] [])) t → Steps p.tables e below (s₁.setTop (entryFrame m #[(.int p1), (.int p2), (.int p3), (.int p4)] maxLocals)) t := fun t k => castTop (ef_0 m p1 p2 p3 p4) k
  obtain ⟨T5, h5, k5, X5, e5, E5, A5, st5⟩ := newP X0 hx hZ (hw _ (List.mem_of_getElem? (i := 0) rfl)) e0 (g := (mkF m 9 #[.val (.int p1), .val (.int p2), .val (.int p3), .val (.int p4), .val (.int ((4 : Int32) + (p3 &&& (3 : Int32)))), .unset, .unset] [(.int ((4 : Int32) + (p3 &&& (3 : Int32))))])) rfl (hb hby at_9) rfl Hz0 (cap := 7) Hz1 (by decide) (by decide) (by decide)
  obtain ⟨b5, g5⟩ : ∃ z, z = h0.size := ⟨_, rfl⟩
  rw [← g5] at A5 st5
  have V_b5 := Arv.new A5 Hz0
  have V_b5 : Arv Z h5 b5 k5 .byte ((4 : Int32) + (p3 &&& (3 : Int32))) [(.int (0 : Int32)), (.int (0 : Int32)), (.int (0 : Int32)), (.int (0 : Int32)), (.int (0 : Int32)), (.int (0 : Int32)), (.int (0 : Int32))] (.int (0 : Int32)) := V_b5.pad (pad_rep [] (.int (0 : Int32)) 7)
  have g_b5 : n0 ≤ b5 := Nat.le_trans Z0 (Nat.le_of_eq g5.symm)
  have sz_b5 : h0.size ≤ b5 := (Nat.le_trans (Keep.refl h0 []).1 (Nat.le_of_eq g5.symm))
  have K5 : Keep h0 h5 [] := (Keep.refl h0 []).ext E5
  obtain ⟨cl_b5_21, Ar_b5, q_b5, S_b5, N_b5, H_b5, G_b5⟩ := V_b5
  have hin21 : ¬ ((0 : Int32) < 0 ∨ cl_b5_21.slots.size ≤ ((0 : Int32)).toNatClampNeg) := inb_of S_b5 ⟨by decide, H0⟩
  obtain ⟨T6, h6, X6, e6, W6, st6⟩ := stB X5 hx hZ e5 Ar_b5 (j := (0 : Int32)) hin21 (g := (mkF m 21 #[.val (.int p1), .val (.int p2), .val (.int p3), .val (.int p4), .val (.int ((4 : Int32) + (p3 &&& (3 : Int32)))), .val (.ref b5), .unset] [(.int (((p1.toUInt32 >>> ((24 : Int32) &&& 31).toUInt32).toInt32).toInt8.toInt32)), (.int (0 : Int32)), (.ref b5)])) rfl rfl (hb hby at_21)
  have V_b5_6 := Arv.set Ar_b5 q_b5 S_b5 N_b5 H_b5 G_b5 (fits_nar_byte _) W6 0 rfl (Nat.le_of_ble_eq_true rfl)
  have K6 : Keep h0 h6 [] := K5.wr W6 (Or.inr sz_b5)
  have N6 := Fr.snoc X6 N0 g_b5
  obtain ⟨cl_b5_30, Ar_b5, q_b5, S_b5, N_b5, H_b5, G_b5⟩ := V_b5_6
  have hin30 : ¬ ((1 : Int32) < 0 ∨ cl_b5_30.slots.size ≤ ((1 : Int32)).toNatClampNeg) := inb_of S_b5 ⟨by decide, H1⟩
  obtain ⟨T7, h7, X7, e7, W7, st7⟩ := stB X6 hx hZ e6 Ar_b5 (j := (1 : Int32)) hin30 (g := (mkF m 30 #[.val (.int p1), .val (.int p2), .val (.int p3), .val (.int p4), .val (.int ((4 : Int32) + (p3 &&& (3 : Int32)))), .val (.ref b5), .unset] [(.int (((p1.toUInt32 >>> ((16 : Int32) &&& 31).toUInt32).toInt32).toInt8.toInt32)), (.int (1 : Int32)), (.ref b5)])) rfl rfl (hb hby at_30)
  have V_b5_7 := Arv.set Ar_b5 q_b5 S_b5 N_b5 H_b5 G_b5 (fits_nar_byte _) W7 1 rfl (Nat.le_of_ble_eq_true rfl)
  have K7 : Keep h0 h7 [] := K6.wr W7 (Or.inr sz_b5)
  have N7 := Fr.snoc X7 N6 g_b5
  obtain ⟨cl_b5_39, Ar_b5, q_b5, S_b5, N_b5, H_b5, G_b5⟩ := V_b5_7
  have hin39 : ¬ ((2 : Int32) < 0 ∨ cl_b5_39.slots.size ≤ ((2 : Int32)).toNatClampNeg) := inb_of S_b5 ⟨by decide, H2⟩
  obtain ⟨T8, h8, X8, e8, W8, st8⟩ := stB X7 hx hZ e7 Ar_b5 (j := (2 : Int32)) hin39 (g := (mkF m 39 #[.val (.int p1), .val (.int p2), .val (.int p3), .val (.int p4), .val (.int ((4 : Int32) + (p3 &&& (3 : Int32)))), .val (.ref b5), .unset] [(.int (((p1.toUInt32 >>> ((8 : Int32) &&& 31).toUInt32).toInt32).toInt8.toInt32)), (.int (2 : Int32)), (.ref b5)])) rfl rfl (hb hby at_39)
  have V_b5_8 := Arv.set Ar_b5 q_b5 S_b5 N_b5 H_b5 G_b5 (fits_nar_byte _) W8 2 rfl (Nat.le_of_ble_eq_true rfl)
  have K8 : Keep h0 h8 [] := K7.wr W8 (Or.inr sz_b5)
  have N8 := Fr.snoc X8 N7 g_b5
  obtain ⟨cl_b5_45, Ar_b5, q_b5, S_b5, N_b5, H_b5, G_b5⟩ := V_b5_8
  have hin45 : ¬ ((3 : Int32) < 0 ∨ cl_b5_45.slots.size ≤ ((3 : Int32)).toNatClampNeg) := inb_of S_b5 ⟨by decide, H3⟩
  obtain ⟨T9, h9, X9, e9, W9, st9⟩ := stB X8 hx hZ e8 Ar_b5 (j := (3 : Int32)) hin45 (g := (mkF m 45 #[.val (.int p1), .val (.int p2), .val (.int p3), .val (.int p4), .val (.int ((4 : Int32) + (p3 &&& (3 : Int32)))), .val (.ref b5), .unset] [(.int (p1.toInt8.toInt32)), (.int (3 : Int32)), (.ref b5)])) rfl rfl (hb hby at_45)
  have V_b5_9 := Arv.set Ar_b5 q_b5 S_b5 N_b5 H_b5 G_b5 (fits_nar_byte _) W9 3 rfl (Nat.le_of_ble_eq_true rfl)
  have K9 : Keep h0 h9 [] := K8.wr W9 (Or.inr sz_b5)
  have N9 := Fr.snoc X9 N8 g_b5
  obtain ⟨T10, h10, X10, e10, E10, A10, D10, -, st10⟩ := newO X9 hx hZ hown (hw _ (List.mem_of_getElem? (i := 1) rfl)) (hw _ (List.mem_of_getElem? (i := 2) rfl)) (hw _ (List.mem_of_getElem? (i := 3) rfl)) e9 (g := (mkF m 90 #[.val (.int p1), .val (.int p2), .val (.int p3), .val (.int p4), .val (.int ((4 : Int32) + (p3 &&& (3 : Int32)))), .val (.ref b5), .unset] [])) rfl (hb hby at_90) (by decide) (by decide)
  obtain ⟨b10, g10⟩ : ∃ z, z = h9.size := ⟨_, rfl⟩
  rw [← g10] at A10 D10 st10
  have F_type_b10 : Fld Z h10 b10 "com/example/varuna/varuna/Message" "type" "C" (.int (0 : Int32)) := D10 (Or.inr (hw _ (List.mem_of_getElem? (i := 11) rfl))) (ty := .char) (by decide)
  have F_body_b10 : Fld Z h10 b10 "com/example/varuna/varuna/Message" "body" "[B" .null := D10 (Or.inr (hw _ (List.mem_of_getElem? (i := 13) rfl))) (ty := (.array .byte)) (by decide)
  have E_b10 := A10
  have g_b10 : n0 ≤ b10 := Nat.le_trans (Nat.le_trans (Nat.le_trans (Nat.le_trans (Nat.le_trans (Nat.le_trans Z0 E5.1) (Keep.of_wr W6).1) (Keep.of_wr W7).1) (Keep.of_wr W8).1) (Keep.of_wr W9).1) (Nat.le_of_eq g10.symm)
  have sz_b10 : h0.size ≤ b10 := (Nat.le_trans K9.1 (Nat.le_of_eq g10.symm))
  have K10 : Keep h0 h10 [] := K9.ext E10
  obtain ⟨_, _, ⟨T11, L11, k11, n11⟩, -, X11, ⟨Lc11, hQ11, l11, y11, z11⟩, st11⟩ := X10.specialBack hx (y := (⟨"com/example/varuna/varuna/Message", "<init>", "(C[B)V"⟩ : MethodName)) rfl hown (mvT hZ (hw _ (List.mem_of_getElem? (i := 4) rfl))) (mvT hZ (hw _ (List.mem_of_getElem? (i := 5) rfl))) (mvT hZ (hw _ (List.mem_of_getElem? (i := 6) rfl))) (by decide) (backOf (W := 1) (rm1 l Z a0 hw [] b10 ((p4 &&& (255 : Int32)).toUInt32.toUInt16.toUInt32.toInt32) b5 (.int (0 : Int32)) .null h10 n0 (Nat.le_trans Z0 K10.1) E_b10 F_type_b10 g_b10 F_body_b10) hZ (hw _ (List.mem_of_getElem? (i := 6) rfl)) (hw _ (List.mem_of_getElem? (i := 3) rfl)) (by decide) (by decide)) (g := (mkF m 102 #[.val (.int p1), .val (.int p2), .val (.int p3), .val (.int p4), .val (.int ((4 : Int32) + (p3 &&& (3 : Int32)))), .val (.ref b5), .unset] [(.ref b5), (.int ((p4 &&& (255 : Int32)).toUInt32.toUInt16.toUInt32.toInt32)), (.ref b10), (.ref b10)])) rfl (by rw [hml]; rfl) (Steps.refl _) (a := b10) (argsL := [(.int ((p4 &&& (255 : Int32)).toUInt32.toUInt16.toUInt32.toInt32)), (.ref b5)]) (rest := [(.ref b10)]) (lenOf pd_0_0 rfl) rfl (by show 2 * 0 + _ ≤ _; exact Nat.le_of_eq rfl) (hb hby at_102) (fun _ _ => ⟨rfl, e10, (by decide : 2 + 0 ≤ _), (by decide : 9 + 0 ≤ _)⟩)
  dsimp only [Pt.U, Pt.locs, Pt.cells, Pt.slots] at X11 l11 y11 z11 st11 hQ11
  subst l11 y11 z11
  obtain ⟨rfl, N11q, K11, Ex11, Ft11, Fb11⟩ := hQ11
  have N11 := Fr.app N9 N11q
  have VF := (V_b5_9.ext E10).keep K11 (ninS (Nat.ne_of_lt (by rw [g10]; exact V_b5_9.lt)) nin0)
  obtain ⟨clF, ArF, qF, SF, NF, HF, GF⟩ := VF
  have i0 : ¬ ((0 : Int32) < 0 ∨ clF.slots.size ≤ ((0 : Int32)).toNatClampNeg) := inb_of SF ⟨by decide, H0⟩
  have i1 : ¬ ((1 : Int32) < 0 ∨ clF.slots.size ≤ ((1 : Int32)).toNatClampNeg) := inb_of SF ⟨by decide, H1⟩
  have i2 : ¬ ((2 : Int32) < 0 ∨ clF.slots.size ≤ ((2 : Int32)).toNatClampNeg) := inb_of SF ⟨by decide, H2⟩
  have i3 : ¬ ((3 : Int32) < 0 ∨ clF.slots.size ≤ ((3 : Int32)).toNatClampNeg) := inb_of SF ⟨by decide, H3⟩
  obtain ⟨cq12, kq12, q12a, q12b, q12c⟩ := isOf hZ rfl (E_b10.keep K11)
  obtain ⟨_, _, ⟨T12, L12, k12, n12⟩, -, X12, ⟨Lc12, hQ12, l12, y12, z12⟩, st12⟩ := X11.virtualBack hx (y := (⟨"com/example/varuna/varuna/Message", "leadingInt32", "()I"⟩ : MethodName)) (z := (⟨"com/example/varuna/varuna/Message", "leadingInt32", "()I"⟩ : MethodName)) hown (mvT hZ (hw _ (List.mem_of_getElem? (i := 14) rfl))) (mvT hZ (hw _ (List.mem_of_getElem? (i := 15) rfl))) (notFace_of_selects (args := #[]) (mvT hZ (hw _ (List.mem_of_getElem? (i := 17) rfl)))) (mvT hZ (hw _ (List.mem_of_getElem? (i := 17) rfl))) (mvT hZ (hw _ (List.mem_of_getElem? (i := 16) rfl))) (by decide) (backOf (W := 0) (rm3 l Z a0 hw [] b10 b5 clF ((4 : Int32) + (p3 &&& (3 : Int32))) (nar .byte (((p1.toUInt32 >>> ((24 : Int32) &&& 31).toUInt32).toInt32).toInt8.toInt32)) (nar .byte (((p1.toUInt32 >>> ((16 : Int32) &&& 31).toUInt32).toInt32).toInt8.toInt32)) (nar .byte (((p1.toUInt32 >>> ((8 : Int32) &&& 31).toUInt32).toInt32).toInt8.toInt32)) (nar .byte (p1.toInt8.toInt32)) T11.heap n0 (Nat.le_trans (Nat.le_trans Z0 K10.1) K11.1) Fb11 ArF SF NF i0 (HF.at i0 rfl) i1 (HF.at i1 rfl) i2 (HF.at i2 rfl) i3 (HF.at i3 rfl) H4) hZ (hw _ (List.mem_of_getElem? (i := 18) rfl)) (hw _ (List.mem_of_getElem? (i := 3) rfl)) (by decide) (by decide)) q12a q12c (g := (mkF m 109 #[.val (.int p1), .val (.int p2), .val (.int p3), .val (.int p4), .val (.int ((4 : Int32) + (p3 &&& (3 : Int32)))), .val (.ref b5), .val (.ref b10)] [(.ref b10)])) rfl (by rw [hml]; rfl) (Steps.refl _) (argsL := []) (rest := []) (lenOf pd_0_2 rfl) rfl (by show 2 * 0 + _ ≤ _; exact Nat.le_of_eq rfl) (hb hby at_109) (fun _ _ => ⟨rfl, rfl, (by decide : 2 + 0 ≤ _), (by decide : 9 + 0 ≤ _)⟩)
  dsimp only [Pt.U, Pt.locs, Pt.cells, Pt.slots] at X12 l12 y12 z12 st12 hQ12
  subst l12 y12 z12
  obtain ⟨rfl, N12q, e12⟩ := hQ12
  have N12 := Fr.app N11 N12q
  obtain ⟨fs, hr, hrun, hended, hW, hsame⟩ := X12.leave (v := some (.int (1 : Int32))) (fun h => by rw [Bd.returns] at h; cases h)
  refine ⟨_, _, pre0 _ ?_, hrun, hended, _, _, rfl, ?_, ⟨_, rfl⟩, hW, hsame.mono (by decide) (by decide)⟩
  · show Steps p.tables e below (s₁.setTop (mkF m 0 #[.val (.int p1), .val (.int p2), .val (.int p3), .val (.int p4), .unset, .unset, .unset] [])) _
    refine XS.iconst X0.here hx rfl (hb hby at_0) ?_
    show Steps p.tables e below (s₁.setTop (mkF m 1 #[.val (.int p1), .val (.int p2), .val (.int p3), .val (.int p4), .unset, .unset, .unset] [(.int (4 : Int32))])) _
    refine XS.iloadN X0.here hx rfl (hb hby at_1) rfl ?_
    show Steps p.tables e below (s₁.setTop (mkF m 2 #[.val (.int p1), .val (.int p2), .val (.int p3), .val (.int p4), .unset, .unset, .unset] [(.int p3), (.int (4 : Int32))])) _
    refine XS.iconst X0.here hx rfl (hb hby at_2) ?_
    show Steps p.tables e below (s₁.setTop (mkF m 3 #[.val (.int p1), .val (.int p2), .val (.int p3), .val (.int p4), .unset, .unset, .unset] [(.int (3 : Int32)), (.int p3), (.int (4 : Int32))])) _
    refine XS.iand X0.here hx rfl (hb hby at_3) rfl ?_
    show Steps p.tables e below (s₁.setTop (mkF m 4 #[.val (.int p1), .val (.int p2), .val (.int p3), .val (.int p4), .unset, .unset, .unset] [(.int (p3 &&& (3 : Int32))), (.int (4 : Int32))])) _
    refine XS.iadd X0.here hx rfl (hb hby at_4) rfl ?_
    show Steps p.tables e below (s₁.setTop (mkF m 5 #[.val (.int p1), .val (.int p2), .val (.int p3), .val (.int p4), .unset, .unset, .unset] [(.int ((4 : Int32) + (p3 &&& (3 : Int32))))])) _
    refine XS.istore X0.here hx rfl (hb hby at_5) rfl (l' := #[.val (.int p1), .val (.int p2), .val (.int p3), .val (.int p4), .val (.int ((4 : Int32) + (p3 &&& (3 : Int32)))), .unset, .unset]) rfl ?_
    show Steps p.tables e below (s₁.setTop (mkF m 7 #[.val (.int p1), .val (.int p2), .val (.int p3), .val (.int p4), .val (.int ((4 : Int32) + (p3 &&& (3 : Int32)))), .unset, .unset] [])) _
    refine XS.iload X0.here hx rfl (hb hby at_7) rfl ?_
    show Steps p.tables e below (s₁.setTop (mkF m 9 #[.val (.int p1), .val (.int p2), .val (.int p3), .val (.int p4), .val (.int ((4 : Int32) + (p3 &&& (3 : Int32)))), .unset, .unset] [(.int ((4 : Int32) + (p3 &&& (3 : Int32))))])) _
    refine st5 _ ?_
    show Steps p.tables e below (T5.setTop (mkF m 11 #[.val (.int p1), .val (.int p2), .val (.int p3), .val (.int p4), .val (.int ((4 : Int32) + (p3 &&& (3 : Int32)))), .unset, .unset] [(.ref b5)])) _
    refine XS.astore X5.here hx rfl (hb hby at_11) rfl rfl (l' := #[.val (.int p1), .val (.int p2), .val (.int p3), .val (.int p4), .val (.int ((4 : Int32) + (p3 &&& (3 : Int32)))), .val (.ref b5), .unset]) rfl ?_
    show Steps p.tables e below (T5.setTop (mkF m 13 #[.val (.int p1), .val (.int p2), .val (.int p3), .val (.int p4), .val (.int ((4 : Int32) + (p3 &&& (3 : Int32)))), .val (.ref b5), .unset] [])) _
    refine XS.aload X5.here hx rfl (hb hby at_13) rfl rfl ?_
    show Steps p.tables e below (T5.setTop (mkF m 15 #[.val (.int p1), .val (.int p2), .val (.int p3), .val (.int p4), .val (.int ((4 : Int32) + (p3 &&& (3 : Int32)))), .val (.ref b5), .unset] [(.ref b5)])) _
    refine XS.iconst X5.here hx rfl (hb hby at_15) ?_
    show Steps p.tables e below (T5.setTop (mkF m 16 #[.val (.int p1), .val (.int p2), .val (.int p3), .val (.int p4), .val (.int ((4 : Int32) + (p3 &&& (3 : Int32)))), .val (.ref b5), .unset] [(.int (0 : Int32)), (.ref b5)])) _
    refine XS.iloadN X5.here hx rfl (hb hby at_16) rfl ?_
    show Steps p.tables e below (T5.setTop (mkF m 17 #[.val (.int p1), .val (.int p2), .val (.int p3), .val (.int p4), .val (.int ((4 : Int32) + (p3 &&& (3 : Int32)))), .val (.ref b5), .unset] [(.int p1), (.int (0 : Int32)), (.ref b5)])) _
    refine XS.bipush X5.here hx rfl (hb hby at_17) ?_
    show Steps p.tables e below (T5.setTop (mkF m 19 #[.val (.int p1), .val (.int p2), .val (.int p3), .val (.int p4), .val (.int ((4 : Int32) + (p3 &&& (3 : Int32)))), .val (.ref b5), .unset] [(.int (24 : Int32)), (.int p1), (.int (0 : Int32)), (.ref b5)])) _
    refine XS.iushr X5.here hx rfl (hb hby at_19) rfl ?_
    show Steps p.tables e below (T5.setTop (mkF m 20 #[.val (.int p1), .val (.int p2), .val (.int p3), .val (.int p4), .val (.int ((4 : Int32) + (p3 &&& (3 : Int32)))), .val (.ref b5), .unset] [(.int ((p1.toUInt32 >>> ((24 : Int32) &&& 31).toUInt32).toInt32)), (.int (0 : Int32)), (.ref b5)])) _
    refine XS.i2b X5.here hx rfl (hb hby at_20) rfl ?_
    show Steps p.tables e below (T5.setTop (mkF m 21 #[.val (.int p1), .val (.int p2), .val (.int p3), .val (.int p4), .val (.int ((4 : Int32) + (p3 &&& (3 : Int32)))), .val (.ref b5), .unset] [(.int (((p1.toUInt32 >>> ((24 : Int32) &&& 31).toUInt32).toInt32).toInt8.toInt32)), (.int (0 : Int32)), (.ref b5)])) _
    refine st6 _ ?_
    show Steps p.tables e below (T6.setTop (mkF m 22 #[.val (.int p1), .val (.int p2), .val (.int p3), .val (.int p4), .val (.int ((4 : Int32) + (p3 &&& (3 : Int32)))), .val (.ref b5), .unset] [])) _
    refine XS.aload X6.here hx rfl (hb hby at_22) rfl rfl ?_
    show Steps p.tables e below (T6.setTop (mkF m 24 #[.val (.int p1), .val (.int p2), .val (.int p3), .val (.int p4), .val (.int ((4 : Int32) + (p3 &&& (3 : Int32)))), .val (.ref b5), .unset] [(.ref b5)])) _
    refine XS.iconst X6.here hx rfl (hb hby at_24) ?_
    show Steps p.tables e below (T6.setTop (mkF m 25 #[.val (.int p1), .val (.int p2), .val (.int p3), .val (.int p4), .val (.int ((4 : Int32) + (p3 &&& (3 : Int32)))), .val (.ref b5), .unset] [(.int (1 : Int32)), (.ref b5)])) _
    refine XS.iloadN X6.here hx rfl (hb hby at_25) rfl ?_
    show Steps p.tables e below (T6.setTop (mkF m 26 #[.val (.int p1), .val (.int p2), .val (.int p3), .val (.int p4), .val (.int ((4 : Int32) + (p3 &&& (3 : Int32)))), .val (.ref b5), .unset] [(.int p1), (.int (1 : Int32)), (.ref b5)])) _
    refine XS.bipush X6.here hx rfl (hb hby at_26) ?_
    show Steps p.tables e below (T6.setTop (mkF m 28 #[.val (.int p1), .val (.int p2), .val (.int p3), .val (.int p4), .val (.int ((4 : Int32) + (p3 &&& (3 : Int32)))), .val (.ref b5), .unset] [(.int (16 : Int32)), (.int p1), (.int (1 : Int32)), (.ref b5)])) _
    refine XS.iushr X6.here hx rfl (hb hby at_28) rfl ?_
    show Steps p.tables e below (T6.setTop (mkF m 29 #[.val (.int p1), .val (.int p2), .val (.int p3), .val (.int p4), .val (.int ((4 : Int32) + (p3 &&& (3 : Int32)))), .val (.ref b5), .unset] [(.int ((p1.toUInt32 >>> ((16 : Int32) &&& 31).toUInt32).toInt32)), (.int (1 : Int32)), (.ref b5)])) _
    refine XS.i2b X6.here hx rfl (hb hby at_29) rfl ?_
    show Steps p.tables e below (T6.setTop (mkF m 30 #[.val (.int p1), .val (.int p2), .val (.int p3), .val (.int p4), .val (.int ((4 : Int32) + (p3 &&& (3 : Int32)))), .val (.ref b5), .unset] [(.int (((p1.toUInt32 >>> ((16 : Int32) &&& 31).toUInt32).toInt32).toInt8.toInt32)), (.int (1 : Int32)), (.ref b5)])) _
    refine st7 _ ?_
    show Steps p.tables e below (T7.setTop (mkF m 31 #[.val (.int p1), .val (.int p2), .val (.int p3), .val (.int p4), .val (.int ((4 : Int32) + (p3 &&& (3 : Int32)))), .val (.ref b5), .unset] [])) _
    refine XS.aload X7.here hx rfl (hb hby at_31) rfl rfl ?_
    show Steps p.tables e below (T7.setTop (mkF m 33 #[.val (.int p1), .val (.int p2), .val (.int p3), .val (.int p4), .val (.int ((4 : Int32) + (p3 &&& (3 : Int32)))), .val (.ref b5), .unset] [(.ref b5)])) _
    refine XS.iconst X7.here hx rfl (hb hby at_33) ?_
    show Steps p.tables e below (T7.setTop (mkF m 34 #[.val (.int p1), .val (.int p2), .val (.int p3), .val (.int p4), .val (.int ((4 : Int32) + (p3 &&& (3 : Int32)))), .val (.ref b5), .unset] [(.int (2 : Int32)), (.ref b5)])) _
    refine XS.iloadN X7.here hx rfl (hb hby at_34) rfl ?_
    show Steps p.tables e below (T7.setTop (mkF m 35 #[.val (.int p1), .val (.int p2), .val (.int p3), .val (.int p4), .val (.int ((4 : Int32) + (p3 &&& (3 : Int32)))), .val (.ref b5), .unset] [(.int p1), (.int (2 : Int32)), (.ref b5)])) _
    refine XS.bipush X7.here hx rfl (hb hby at_35) ?_
    show Steps p.tables e below (T7.setTop (mkF m 37 #[.val (.int p1), .val (.int p2), .val (.int p3), .val (.int p4), .val (.int ((4 : Int32) + (p3 &&& (3 : Int32)))), .val (.ref b5), .unset] [(.int (8 : Int32)), (.int p1), (.int (2 : Int32)), (.ref b5)])) _
    refine XS.iushr X7.here hx rfl (hb hby at_37) rfl ?_
    show Steps p.tables e below (T7.setTop (mkF m 38 #[.val (.int p1), .val (.int p2), .val (.int p3), .val (.int p4), .val (.int ((4 : Int32) + (p3 &&& (3 : Int32)))), .val (.ref b5), .unset] [(.int ((p1.toUInt32 >>> ((8 : Int32) &&& 31).toUInt32).toInt32)), (.int (2 : Int32)), (.ref b5)])) _
    refine XS.i2b X7.here hx rfl (hb hby at_38) rfl ?_
    show Steps p.tables e below (T7.setTop (mkF m 39 #[.val (.int p1), .val (.int p2), .val (.int p3), .val (.int p4), .val (.int ((4 : Int32) + (p3 &&& (3 : Int32)))), .val (.ref b5), .unset] [(.int (((p1.toUInt32 >>> ((8 : Int32) &&& 31).toUInt32).toInt32).toInt8.toInt32)), (.int (2 : Int32)), (.ref b5)])) _
    refine st8 _ ?_
    show Steps p.tables e below (T8.setTop (mkF m 40 #[.val (.int p1), .val (.int p2), .val (.int p3), .val (.int p4), .val (.int ((4 : Int32) + (p3 &&& (3 : Int32)))), .val (.ref b5), .unset] [])) _
    refine XS.aload X8.here hx rfl (hb hby at_40) rfl rfl ?_
    show Steps p.tables e below (T8.setTop (mkF m 42 #[.val (.int p1), .val (.int p2), .val (.int p3), .val (.int p4), .val (.int ((4 : Int32) + (p3 &&& (3 : Int32)))), .val (.ref b5), .unset] [(.ref b5)])) _
    refine XS.iconst X8.here hx rfl (hb hby at_42) ?_
    show Steps p.tables e below (T8.setTop (mkF m 43 #[.val (.int p1), .val (.int p2), .val (.int p3), .val (.int p4), .val (.int ((4 : Int32) + (p3 &&& (3 : Int32)))), .val (.ref b5), .unset] [(.int (3 : Int32)), (.ref b5)])) _
    refine XS.iloadN X8.here hx rfl (hb hby at_43) rfl ?_
    show Steps p.tables e below (T8.setTop (mkF m 44 #[.val (.int p1), .val (.int p2), .val (.int p3), .val (.int p4), .val (.int ((4 : Int32) + (p3 &&& (3 : Int32)))), .val (.ref b5), .unset] [(.int p1), (.int (3 : Int32)), (.ref b5)])) _
    refine XS.i2b X8.here hx rfl (hb hby at_44) rfl ?_
    show Steps p.tables e below (T8.setTop (mkF m 45 #[.val (.int p1), .val (.int p2), .val (.int p3), .val (.int p4), .val (.int ((4 : Int32) + (p3 &&& (3 : Int32)))), .val (.ref b5), .unset] [(.int (p1.toInt8.toInt32)), (.int (3 : Int32)), (.ref b5)])) _
    refine st9 _ ?_
    show Steps p.tables e below (T9.setTop (mkF m 46 #[.val (.int p1), .val (.int p2), .val (.int p3), .val (.int p4), .val (.int ((4 : Int32) + (p3 &&& (3 : Int32)))), .val (.ref b5), .unset] [])) _
    refine XS.iload X9.here hx rfl (hb hby at_46) rfl ?_
    show Steps p.tables e below (T9.setTop (mkF m 48 #[.val (.int p1), .val (.int p2), .val (.int p3), .val (.int p4), .val (.int ((4 : Int32) + (p3 &&& (3 : Int32)))), .val (.ref b5), .unset] [(.int ((4 : Int32) + (p3 &&& (3 : Int32))))])) _
    refine XS.iconst X9.here hx rfl (hb hby at_48) ?_
    show Steps p.tables e below (T9.setTop (mkF m 49 #[.val (.int p1), .val (.int p2), .val (.int p3), .val (.int p4), .val (.int ((4 : Int32) + (p3 &&& (3 : Int32)))), .val (.ref b5), .unset] [(.int (4 : Int32)), (.int ((4 : Int32) + (p3 &&& (3 : Int32))))])) _
    refine XS.icmpYes X9.here hx rfl (pc0 := 49) (pc' := 58) rfl (hb hby at_49) rfl (flt hc49).2.2.2 (by decide) (by decide) ?_
    show Steps p.tables e below (T9.setTop (mkF m 58 #[.val (.int p1), .val (.int p2), .val (.int p3), .val (.int p4), .val (.int ((4 : Int32) + (p3 &&& (3 : Int32)))), .val (.ref b5), .unset] [])) _
    refine XS.iload X9.here hx rfl (hb hby at_58) rfl ?_
    show Steps p.tables e below (T9.setTop (mkF m 60 #[.val (.int p1), .val (.int p2), .val (.int p3), .val (.int p4), .val (.int ((4 : Int32) + (p3 &&& (3 : Int32)))), .val (.ref b5), .unset] [(.int ((4 : Int32) + (p3 &&& (3 : Int32))))])) _
    refine XS.iconst X9.here hx rfl (hb hby at_60) ?_
    show Steps p.tables e below (T9.setTop (mkF m 61 #[.val (.int p1), .val (.int p2), .val (.int p3), .val (.int p4), .val (.int ((4 : Int32) + (p3 &&& (3 : Int32)))), .val (.ref b5), .unset] [(.int (5 : Int32)), (.int ((4 : Int32) + (p3 &&& (3 : Int32))))])) _
    refine XS.icmpYes X9.here hx rfl (pc0 := 61) (pc' := 73) rfl (hb hby at_61) rfl (flt hc61).2.2.2 (by decide) (by decide) ?_
    show Steps p.tables e below (T9.setTop (mkF m 73 #[.val (.int p1), .val (.int p2), .val (.int p3), .val (.int p4), .val (.int ((4 : Int32) + (p3 &&& (3 : Int32)))), .val (.ref b5), .unset] [])) _
    refine XS.iload X9.here hx rfl (hb hby at_73) rfl ?_
    show Steps p.tables e below (T9.setTop (mkF m 75 #[.val (.int p1), .val (.int p2), .val (.int p3), .val (.int p4), .val (.int ((4 : Int32) + (p3 &&& (3 : Int32)))), .val (.ref b5), .unset] [(.int ((4 : Int32) + (p3 &&& (3 : Int32))))])) _
    refine XS.bipush X9.here hx rfl (hb hby at_75) ?_
    show Steps p.tables e below (T9.setTop (mkF m 77 #[.val (.int p1), .val (.int p2), .val (.int p3), .val (.int p4), .val (.int ((4 : Int32) + (p3 &&& (3 : Int32)))), .val (.ref b5), .unset] [(.int (6 : Int32)), (.int ((4 : Int32) + (p3 &&& (3 : Int32))))])) _
    refine XS.icmpYes X9.here hx rfl (pc0 := 77) (pc' := 90) rfl (hb hby at_77) rfl (flt hc77).2.2.2 (by decide) (by decide) ?_
    show Steps p.tables e below (T9.setTop (mkF m 90 #[.val (.int p1), .val (.int p2), .val (.int p3), .val (.int p4), .val (.int ((4 : Int32) + (p3 &&& (3 : Int32)))), .val (.ref b5), .unset] [])) _
    refine st10 _ ?_
    show Steps p.tables e below (T10.setTop (mkF m 93 #[.val (.int p1), .val (.int p2), .val (.int p3), .val (.int p4), .val (.int ((4 : Int32) + (p3 &&& (3 : Int32)))), .val (.ref b5), .unset] [(.ref b10)])) _
    refine XS.dup X10.here hx rfl (hb hby at_93) rfl rfl ?_
    show Steps p.tables e below (T10.setTop (mkF m 94 #[.val (.int p1), .val (.int p2), .val (.int p3), .val (.int p4), .val (.int ((4 : Int32) + (p3 &&& (3 : Int32)))), .val (.ref b5), .unset] [(.ref b10), (.ref b10)])) _
    refine XS.iloadN X10.here hx rfl (hb hby at_94) rfl ?_
    show Steps p.tables e below (T10.setTop (mkF m 95 #[.val (.int p1), .val (.int p2), .val (.int p3), .val (.int p4), .val (.int ((4 : Int32) + (p3 &&& (3 : Int32)))), .val (.ref b5), .unset] [(.int p4), (.ref b10), (.ref b10)])) _
    refine XS.sipush X10.here hx rfl (hb hby at_95) ?_
    show Steps p.tables e below (T10.setTop (mkF m 98 #[.val (.int p1), .val (.int p2), .val (.int p3), .val (.int p4), .val (.int ((4 : Int32) + (p3 &&& (3 : Int32)))), .val (.ref b5), .unset] [(.int (255 : Int32)), (.int p4), (.ref b10), (.ref b10)])) _
    refine XS.iand X10.here hx rfl (hb hby at_98) rfl ?_
    show Steps p.tables e below (T10.setTop (mkF m 99 #[.val (.int p1), .val (.int p2), .val (.int p3), .val (.int p4), .val (.int ((4 : Int32) + (p3 &&& (3 : Int32)))), .val (.ref b5), .unset] [(.int (p4 &&& (255 : Int32))), (.ref b10), (.ref b10)])) _
    refine XS.i2c X10.here hx rfl (hb hby at_99) rfl ?_
    show Steps p.tables e below (T10.setTop (mkF m 100 #[.val (.int p1), .val (.int p2), .val (.int p3), .val (.int p4), .val (.int ((4 : Int32) + (p3 &&& (3 : Int32)))), .val (.ref b5), .unset] [(.int ((p4 &&& (255 : Int32)).toUInt32.toUInt16.toUInt32.toInt32)), (.ref b10), (.ref b10)])) _
    refine XS.aload X10.here hx rfl (hb hby at_100) rfl rfl ?_
    show Steps p.tables e below (T10.setTop (mkF m 102 #[.val (.int p1), .val (.int p2), .val (.int p3), .val (.int p4), .val (.int ((4 : Int32) + (p3 &&& (3 : Int32)))), .val (.ref b5), .unset] [(.ref b5), (.int ((p4 &&& (255 : Int32)).toUInt32.toUInt16.toUInt32.toInt32)), (.ref b10), (.ref b10)])) _
    refine st11.trans ?_
    show Steps p.tables e below (T11.setTop (mkF m 105 #[.val (.int p1), .val (.int p2), .val (.int p3), .val (.int p4), .val (.int ((4 : Int32) + (p3 &&& (3 : Int32)))), .val (.ref b5), .unset] [(.ref b10)])) _
    refine XS.astore X11.here hx rfl (hb hby at_105) rfl rfl (l' := #[.val (.int p1), .val (.int p2), .val (.int p3), .val (.int p4), .val (.int ((4 : Int32) + (p3 &&& (3 : Int32)))), .val (.ref b5), .val (.ref b10)]) rfl ?_
    show Steps p.tables e below (T11.setTop (mkF m 107 #[.val (.int p1), .val (.int p2), .val (.int p3), .val (.int p4), .val (.int ((4 : Int32) + (p3 &&& (3 : Int32)))), .val (.ref b5), .val (.ref b10)] [])) _
    refine XS.aload X11.here hx rfl (hb hby at_107) rfl rfl ?_
    show Steps p.tables e below (T11.setTop (mkF m 109 #[.val (.int p1), .val (.int p2), .val (.int p3), .val (.int p4), .val (.int ((4 : Int32) + (p3 &&& (3 : Int32)))), .val (.ref b5), .val (.ref b10)] [(.ref b10)])) _
    refine st12.trans ?_
    show Steps p.tables e below (T12.setTop (mkF m 112 #[.val (.int p1), .val (.int p2), .val (.int p3), .val (.int p4), .val (.int ((4 : Int32) + (p3 &&& (3 : Int32)))), .val (.ref b5), .val (.ref b10)] [(.int ((((((nar .byte (((p1.toUInt32 >>> ((24 : Int32) &&& 31).toUInt32).toInt32).toInt8.toInt32)) &&& (255 : Int32)) <<< ((24 : Int32) &&& 31)) ||| (((nar .byte (((p1.toUInt32 >>> ((16 : Int32) &&& 31).toUInt32).toInt32).toInt8.toInt32)) &&& (255 : Int32)) <<< ((16 : Int32) &&& 31))) ||| (((nar .byte (((p1.toUInt32 >>> ((8 : Int32) &&& 31).toUInt32).toInt32).toInt8.toInt32)) &&& (255 : Int32)) <<< ((8 : Int32) &&& 31))) ||| ((nar .byte (p1.toInt8.toInt32)) &&& (255 : Int32))))])) _
    refine XS.iloadN X12.here hx rfl (hb hby at_112) rfl ?_
    show Steps p.tables e below (T12.setTop (mkF m 113 #[.val (.int p1), .val (.int p2), .val (.int p3), .val (.int p4), .val (.int ((4 : Int32) + (p3 &&& (3 : Int32)))), .val (.ref b5), .val (.ref b10)] [(.int p1), (.int ((((((nar .byte (((p1.toUInt32 >>> ((24 : Int32) &&& 31).toUInt32).toInt32).toInt8.toInt32)) &&& (255 : Int32)) <<< ((24 : Int32) &&& 31)) ||| (((nar .byte (((p1.toUInt32 >>> ((16 : Int32) &&& 31).toUInt32).toInt32).toInt8.toInt32)) &&& (255 : Int32)) <<< ((16 : Int32) &&& 31))) ||| (((nar .byte (((p1.toUInt32 >>> ((8 : Int32) &&& 31).toUInt32).toInt32).toInt8.toInt32)) &&& (255 : Int32)) <<< ((8 : Int32) &&& 31))) ||| ((nar .byte (p1.toInt8.toInt32)) &&& (255 : Int32))))])) _
    refine XS.icmpNo X12.here hx rfl (hb hby at_113) rfl (teq (own_pack p1 : ((((((nar .byte (((p1.toUInt32 >>> ((24 : Int32) &&& 31).toUInt32).toInt32).toInt8.toInt32)) &&& (255 : Int32)) <<< ((24 : Int32) &&& 31)) ||| (((nar .byte (((p1.toUInt32 >>> ((16 : Int32) &&& 31).toUInt32).toInt32).toInt8.toInt32)) &&& (255 : Int32)) <<< ((16 : Int32) &&& 31))) ||| (((nar .byte (((p1.toUInt32 >>> ((8 : Int32) &&& 31).toUInt32).toInt32).toInt8.toInt32)) &&& (255 : Int32)) <<< ((8 : Int32) &&& 31))) ||| ((nar .byte (p1.toInt8.toInt32)) &&& (255 : Int32))) = p1)).2 ?_
    show Steps p.tables e below (T12.setTop (mkF m 116 #[.val (.int p1), .val (.int p2), .val (.int p3), .val (.int p4), .val (.int ((4 : Int32) + (p3 &&& (3 : Int32)))), .val (.ref b5), .val (.ref b10)] [])) _
    refine XS.iconst X12.here hx rfl (hb hby at_116) ?_
    show Steps p.tables e below (T12.setTop (mkF m 117 #[.val (.int p1), .val (.int p2), .val (.int p3), .val (.int p4), .val (.int ((4 : Int32) + (p3 &&& (3 : Int32)))), .val (.ref b5), .val (.ref b10)] [(.int (1 : Int32))])) _
    refine XS.goto X12.here hx rfl (pc0 := 117) (pc' := 121) rfl (hb hby at_117) (by decide) (by decide) ?_
    show Steps p.tables e below (T12.setTop (mkF m 121 #[.val (.int p1), .val (.int p2), .val (.int p3), .val (.int p4), .val (.int ((4 : Int32) + (p3 &&& (3 : Int32)))), .val (.ref b5), .val (.ref b10)] [(.int (1 : Int32))])) _
    exact retN X12 hx (t := .boolean) Bd.returns (by simp) (hb hby at_121) hr
  · show Q0 Z p1 p2 p3 p4 h0 n0 _ T12.heap _
    exact ⟨rfl, N12⟩
set_option maxRecDepth 65536 in
set_option maxHeartbeats 40000000 in
theorem rm0_ftt (l : Launch) (Z : State) (a0 : Array Value) (hw : ∀ d ∈ tables_1, d.before a0 Z = true) (ws : List Jvm.Cond) (p1 : Int32) (p2 : Int32) (p3 : Int32) (p4 : Int32) (h0 : Heap) (n0 : Nat) (Z0 : n0 ≤ h0.size) (hc49 : (4 : Int32) < ((4 : Int32) + (p3 &&& (3 : Int32)))) (hc61 : ¬ ((5 : Int32) < ((4 : Int32) + (p3 &&& (3 : Int32))))) (hc77 : ¬ ((6 : Int32) < ((4 : Int32) + (p3 &&& (3 : Int32))))) :
    MetFree l x (head1 (Jvm.Cond.code x code maxLocals ret :: ws) room_1) (fun a U => a = #[(.int p1), (.int p2), (.int p3), (.int p4)] ∧ Z.Warmed39 U.vm ∧ U.heap = h0) (fun _ _ _ _ _ => True) (fun _ U o U' => ∃ v L, o = .returned v ∧ Q0 Z p1 p2 p3 p4 h0 n0 v U'.heap L ∧ FrameEnd U o U' L room_1.cells room_1.slots) := by
  refine MetFree.of_bodySF (plainFor_of_name pn_0) hisR ?_
  intro p e s m args below meth c s₁ Bd hml0 hP hK
  obtain ⟨rfl, hZ, hh⟩ := hP
  have hx := Bd.exec
  have hby := Bd.bytes
  have hml : c.maxLocals = 7 := hml0
  have hown : s.vm.findClass "com/example/varuna/varuna/MessageLeadingInt32PinLaw" = some m.cls := findClass_of_methodNamed Bd.named
  have hnm := (name_of_methodNamed Bd.named Bd.method).1
  have X0 : Stand p l e room_1 s m #[(.int p1), (.int p2), (.int p3), (.int p4)] below meth c s₁ [] 0 0 := Stand.of_body Bd
  have e0 : s₁.heap = h0 := by rw [← hh, Bd.state]; rfl
  have N0 := Fr.nil n0
  obtain ⟨Hz0, Hz1, H0, H1, H2, H3, H4⟩ := own_z p3
  have pre0 : ∀ t, Steps p.tables e below (s₁.setTop (mkF m 0 #[.val (.int p1), .val (.int p2), .val (.int p3), .val (.int p4), .unset, .unset, .unset] [])) t → Steps p.tables e below (s₁.setTop (entryFrame m #[(.int p1), (.int p2), (.int p3), (.int p4)] maxLocals)) t := fun t k => castTop (ef_0 m p1 p2 p3 p4) k
  obtain ⟨T5, h5, k5, X5, e5, E5, A5, st5⟩ := newP X0 hx hZ (hw _ (List.mem_of_getElem? (i := 0) rfl)) e0 (g := (mkF m 9 #[.val (.int p1), .val (.int p2), .val (.int p3), .val (.int p4), .val (.int ((4 : Int32) + (p3 &&& (3 : Int32)))), .unset, .unset] [(.int ((4 : Int32) + (p3 &&& (3 : Int32))))])) rfl (hb hby at_9) rfl Hz0 (cap := 7) Hz1 (by decide) (by decide) (by decide)
  obtain ⟨b5, g5⟩ : ∃ z, z = h0.size := ⟨_, rfl⟩
  rw [← g5] at A5 st5
  have V_b5 := Arv.new A5 Hz0
  have V_b5 : Arv Z h5 b5 k5 .byte ((4 : Int32) + (p3 &&& (3 : Int32))) [(.int (0 : Int32)), (.int (0 : Int32)), (.int (0 : Int32)), (.int (0 : Int32)), (.int (0 : Int32)), (.int (0 : Int32)), (.int (0 : Int32))] (.int (0 : Int32)) := V_b5.pad (pad_rep [] (.int (0 : Int32)) 7)
  have g_b5 : n0 ≤ b5 := Nat.le_trans Z0 (Nat.le_of_eq g5.symm)
  have sz_b5 : h0.size ≤ b5 := (Nat.le_trans (Keep.refl h0 []).1 (Nat.le_of_eq g5.symm))
  have K5 : Keep h0 h5 [] := (Keep.refl h0 []).ext E5
  obtain ⟨cl_b5_21, Ar_b5, q_b5, S_b5, N_b5, H_b5, G_b5⟩ := V_b5
  have hin21 : ¬ ((0 : Int32) < 0 ∨ cl_b5_21.slots.size ≤ ((0 : Int32)).toNatClampNeg) := inb_of S_b5 ⟨by decide, H0⟩
  obtain ⟨T6, h6, X6, e6, W6, st6⟩ := stB X5 hx hZ e5 Ar_b5 (j := (0 : Int32)) hin21 (g := (mkF m 21 #[.val (.int p1), .val (.int p2), .val (.int p3), .val (.int p4), .val (.int ((4 : Int32) + (p3 &&& (3 : Int32)))), .val (.ref b5), .unset] [(.int (((p1.toUInt32 >>> ((24 : Int32) &&& 31).toUInt32).toInt32).toInt8.toInt32)), (.int (0 : Int32)), (.ref b5)])) rfl rfl (hb hby at_21)
  have V_b5_6 := Arv.set Ar_b5 q_b5 S_b5 N_b5 H_b5 G_b5 (fits_nar_byte _) W6 0 rfl (Nat.le_of_ble_eq_true rfl)
  have K6 : Keep h0 h6 [] := K5.wr W6 (Or.inr sz_b5)
  have N6 := Fr.snoc X6 N0 g_b5
  obtain ⟨cl_b5_30, Ar_b5, q_b5, S_b5, N_b5, H_b5, G_b5⟩ := V_b5_6
  have hin30 : ¬ ((1 : Int32) < 0 ∨ cl_b5_30.slots.size ≤ ((1 : Int32)).toNatClampNeg) := inb_of S_b5 ⟨by decide, H1⟩
  obtain ⟨T7, h7, X7, e7, W7, st7⟩ := stB X6 hx hZ e6 Ar_b5 (j := (1 : Int32)) hin30 (g := (mkF m 30 #[.val (.int p1), .val (.int p2), .val (.int p3), .val (.int p4), .val (.int ((4 : Int32) + (p3 &&& (3 : Int32)))), .val (.ref b5), .unset] [(.int (((p1.toUInt32 >>> ((16 : Int32) &&& 31).toUInt32).toInt32).toInt8.toInt32)), (.int (1 : Int32)), (.ref b5)])) rfl rfl (hb hby at_30)
  have V_b5_7 := Arv.set Ar_b5 q_b5 S_b5 N_b5 H_b5 G_b5 (fits_nar_byte _) W7 1 rfl (Nat.le_of_ble_eq_true rfl)
  have K7 : Keep h0 h7 [] := K6.wr W7 (Or.inr sz_b5)
  have N7 := Fr.snoc X7 N6 g_b5
  obtain ⟨cl_b5_39, Ar_b5, q_b5, S_b5, N_b5, H_b5, G_b5⟩ := V_b5_7
  have hin39 : ¬ ((2 : Int32) < 0 ∨ cl_b5_39.slots.size ≤ ((2 : Int32)).toNatClampNeg) := inb_of S_b5 ⟨by decide, H2⟩
  obtain ⟨T8, h8, X8, e8, W8, st8⟩ := stB X7 hx hZ e7 Ar_b5 (j := (2 : Int32)) hin39 (g := (mkF m 39 #[.val (.int p1), .val (.int p2), .val (.int p3), .val (.int p4), .val (.int ((4 : Int32) + (p3 &&& (3 : Int32)))), .val (.ref b5), .unset] [(.int (((p1.toUInt32 >>> ((8 : Int32) &&& 31).toUInt32).toInt32).toInt8.toInt32)), (.int (2 : Int32)), (.ref b5)])) rfl rfl (hb hby at_39)
  have V_b5_8 := Arv.set Ar_b5 q_b5 S_b5 N_b5 H_b5 G_b5 (fits_nar_byte _) W8 2 rfl (Nat.le_of_ble_eq_true rfl)
  have K8 : Keep h0 h8 [] := K7.wr W8 (Or.inr sz_b5)
  have N8 := Fr.snoc X8 N7 g_b5
  obtain ⟨cl_b5_45, Ar_b5, q_b5, S_b5, N_b5, H_b5, G_b5⟩ := V_b5_8
  have hin45 : ¬ ((3 : Int32) < 0 ∨ cl_b5_45.slots.size ≤ ((3 : Int32)).toNatClampNeg) := inb_of S_b5 ⟨by decide, H3⟩
  obtain ⟨T9, h9, X9, e9, W9, st9⟩ := stB X8 hx hZ e8 Ar_b5 (j := (3 : Int32)) hin45 (g := (mkF m 45 #[.val (.int p1), .val (.int p2), .val (.int p3), .val (.int p4), .val (.int ((4 : Int32) + (p3 &&& (3 : Int32)))), .val (.ref b5), .unset] [(.int (p1.toInt8.toInt32)), (.int (3 : Int32)), (.ref b5)])) rfl rfl (hb hby at_45)
  have V_b5_9 := Arv.set Ar_b5 q_b5 S_b5 N_b5 H_b5 G_b5 (fits_nar_byte _) W9 3 rfl (Nat.le_of_ble_eq_true rfl)
  have K9 : Keep h0 h9 [] := K8.wr W9 (Or.inr sz_b5)
  have N9 := Fr.snoc X9 N8 g_b5
  obtain ⟨cl_b5_57, Ar_b5, q_b5, S_b5, N_b5, H_b5, G_b5⟩ := V_b5_9
  have hin57 : ¬ ((4 : Int32) < 0 ∨ cl_b5_57.slots.size ≤ ((4 : Int32)).toNatClampNeg) := inb_of S_b5 ⟨by decide, hc49⟩
  obtain ⟨T10, h10, X10, e10, W10, st10⟩ := stB X9 hx hZ e9 Ar_b5 (j := (4 : Int32)) hin57 (g := (mkF m 57 #[.val (.int p1), .val (.int p2), .val (.int p3), .val (.int p4), .val (.int ((4 : Int32) + (p3 &&& (3 : Int32)))), .val (.ref b5), .unset] [(.int (p2.toInt8.toInt32)), (.int (4 : Int32)), (.ref b5)])) rfl rfl (hb hby at_57)
  have V_b5_10 := Arv.set Ar_b5 q_b5 S_b5 N_b5 H_b5 G_b5 (fits_nar_byte _) W10 4 rfl (Nat.le_of_ble_eq_true rfl)
  have K10 : Keep h0 h10 [] := K9.wr W10 (Or.inr sz_b5)
  have N10 := Fr.snoc X10 N9 g_b5
  obtain ⟨T11, h11, X11, e11, E11, A11, D11, -, st11⟩ := newO X10 hx hZ hown (hw _ (List.mem_of_getElem? (i := 1) rfl)) (hw _ (List.mem_of_getElem? (i := 2) rfl)) (hw _ (List.mem_of_getElem? (i := 3) rfl)) e10 (g := (mkF m 90 #[.val (.int p1), .val (.int p2), .val (.int p3), .val (.int p4), .val (.int ((4 : Int32) + (p3 &&& (3 : Int32)))), .val (.ref b5), .unset] [])) rfl (hb hby at_90) (by decide) (by decide)
  obtain ⟨b11, g11⟩ : ∃ z, z = h10.size := ⟨_, rfl⟩
  rw [← g11] at A11 D11 st11
  have F_type_b11 : Fld Z h11 b11 "com/example/varuna/varuna/Message" "type" "C" (.int (0 : Int32)) := D11 (Or.inr (hw _ (List.mem_of_getElem? (i := 11) rfl))) (ty := .char) (by decide)
  have F_body_b11 : Fld Z h11 b11 "com/example/varuna/varuna/Message" "body" "[B" .null := D11 (Or.inr (hw _ (List.mem_of_getElem? (i := 13) rfl))) (ty := (.array .byte)) (by decide)
  have E_b11 := A11
  have g_b11 : n0 ≤ b11 := Nat.le_trans (Nat.le_trans (Nat.le_trans (Nat.le_trans (Nat.le_trans (Nat.le_trans (Nat.le_trans Z0 E5.1) (Keep.of_wr W6).1) (Keep.of_wr W7).1) (Keep.of_wr W8).1) (Keep.of_wr W9).1) (Keep.of_wr W10).1) (Nat.le_of_eq g11.symm)
  have sz_b11 : h0.size ≤ b11 := (Nat.le_trans K10.1 (Nat.le_of_eq g11.symm))
  have K11 : Keep h0 h11 [] := K10.ext E11
  obtain ⟨_, _, ⟨T12, L12, k12, n12⟩, -, X12, ⟨Lc12, hQ12, l12, y12, z12⟩, st12⟩ := X11.specialBack hx (y := (⟨"com/example/varuna/varuna/Message", "<init>", "(C[B)V"⟩ : MethodName)) rfl hown (mvT hZ (hw _ (List.mem_of_getElem? (i := 4) rfl))) (mvT hZ (hw _ (List.mem_of_getElem? (i := 5) rfl))) (mvT hZ (hw _ (List.mem_of_getElem? (i := 6) rfl))) (by decide) (backOf (W := 1) (rm1 l Z a0 hw [] b11 ((p4 &&& (255 : Int32)).toUInt32.toUInt16.toUInt32.toInt32) b5 (.int (0 : Int32)) .null h11 n0 (Nat.le_trans Z0 K11.1) E_b11 F_type_b11 g_b11 F_body_b11) hZ (hw _ (List.mem_of_getElem? (i := 6) rfl)) (hw _ (List.mem_of_getElem? (i := 3) rfl)) (by decide) (by decide)) (g := (mkF m 102 #[.val (.int p1), .val (.int p2), .val (.int p3), .val (.int p4), .val (.int ((4 : Int32) + (p3 &&& (3 : Int32)))), .val (.ref b5), .unset] [(.ref b5), (.int ((p4 &&& (255 : Int32)).toUInt32.toUInt16.toUInt32.toInt32)), (.ref b11), (.ref b11)])) rfl (by rw [hml]; rfl) (Steps.refl _) (a := b11) (argsL := [(.int ((p4 &&& (255 : Int32)).toUInt32.toUInt16.toUInt32.toInt32)), (.ref b5)]) (rest := [(.ref b11)]) (lenOf pd_0_0 rfl) rfl (by show 2 * 0 + _ ≤ _; exact Nat.le_of_eq rfl) (hb hby at_102) (fun _ _ => ⟨rfl, e11, (by decide : 2 + 0 ≤ _), (by decide : 9 + 0 ≤ _)⟩)
  dsimp only [Pt.U, Pt.locs, Pt.cells, Pt.slots] at X12 l12 y12 z12 st12 hQ12
  subst l12 y12 z12
  obtain ⟨rfl, N12q, K12, Ex12, Ft12, Fb12⟩ := hQ12
  have N12 := Fr.app N10 N12q
  have VF := (V_b5_10.ext E11).keep K12 (ninS (Nat.ne_of_lt (by rw [g11]; exact V_b5_10.lt)) nin0)
  obtain ⟨clF, ArF, qF, SF, NF, HF, GF⟩ := VF
  have i0 : ¬ ((0 : Int32) < 0 ∨ clF.slots.size ≤ ((0 : Int32)).toNatClampNeg) := inb_of SF ⟨by decide, H0⟩
  have i1 : ¬ ((1 : Int32) < 0 ∨ clF.slots.size ≤ ((1 : Int32)).toNatClampNeg) := inb_of SF ⟨by decide, H1⟩
  have i2 : ¬ ((2 : Int32) < 0 ∨ clF.slots.size ≤ ((2 : Int32)).toNatClampNeg) := inb_of SF ⟨by decide, H2⟩
  have i3 : ¬ ((3 : Int32) < 0 ∨ clF.slots.size ≤ ((3 : Int32)).toNatClampNeg) := inb_of SF ⟨by decide, H3⟩
  obtain ⟨cq13, kq13, q13a, q13b, q13c⟩ := isOf hZ rfl (E_b11.keep K12)
  obtain ⟨_, _, ⟨T13, L13, k13, n13⟩, -, X13, ⟨Lc13, hQ13, l13, y13, z13⟩, st13⟩ := X12.virtualBack hx (y := (⟨"com/example/varuna/varuna/Message", "leadingInt32", "()I"⟩ : MethodName)) (z := (⟨"com/example/varuna/varuna/Message", "leadingInt32", "()I"⟩ : MethodName)) hown (mvT hZ (hw _ (List.mem_of_getElem? (i := 14) rfl))) (mvT hZ (hw _ (List.mem_of_getElem? (i := 15) rfl))) (notFace_of_selects (args := #[]) (mvT hZ (hw _ (List.mem_of_getElem? (i := 17) rfl)))) (mvT hZ (hw _ (List.mem_of_getElem? (i := 17) rfl))) (mvT hZ (hw _ (List.mem_of_getElem? (i := 16) rfl))) (by decide) (backOf (W := 0) (rm3 l Z a0 hw [] b11 b5 clF ((4 : Int32) + (p3 &&& (3 : Int32))) (nar .byte (((p1.toUInt32 >>> ((24 : Int32) &&& 31).toUInt32).toInt32).toInt8.toInt32)) (nar .byte (((p1.toUInt32 >>> ((16 : Int32) &&& 31).toUInt32).toInt32).toInt8.toInt32)) (nar .byte (((p1.toUInt32 >>> ((8 : Int32) &&& 31).toUInt32).toInt32).toInt8.toInt32)) (nar .byte (p1.toInt8.toInt32)) T12.heap n0 (Nat.le_trans (Nat.le_trans Z0 K11.1) K12.1) Fb12 ArF SF NF i0 (HF.at i0 rfl) i1 (HF.at i1 rfl) i2 (HF.at i2 rfl) i3 (HF.at i3 rfl) H4) hZ (hw _ (List.mem_of_getElem? (i := 18) rfl)) (hw _ (List.mem_of_getElem? (i := 3) rfl)) (by decide) (by decide)) q13a q13c (g := (mkF m 109 #[.val (.int p1), .val (.int p2), .val (.int p3), .val (.int p4), .val (.int ((4 : Int32) + (p3 &&& (3 : Int32)))), .val (.ref b5), .val (.ref b11)] [(.ref b11)])) rfl (by rw [hml]; rfl) (Steps.refl _) (argsL := []) (rest := []) (lenOf pd_0_2 rfl) rfl (by show 2 * 0 + _ ≤ _; exact Nat.le_of_eq rfl) (hb hby at_109) (fun _ _ => ⟨rfl, rfl, (by decide : 2 + 0 ≤ _), (by decide : 9 + 0 ≤ _)⟩)
  dsimp only [Pt.U, Pt.locs, Pt.cells, Pt.slots] at X13 l13 y13 z13 st13 hQ13
  subst l13 y13 z13
  obtain ⟨rfl, N13q, e13⟩ := hQ13
  have N13 := Fr.app N12 N13q
  obtain ⟨fs, hr, hrun, hended, hW, hsame⟩ := X13.leave (v := some (.int (1 : Int32))) (fun h => by rw [Bd.returns] at h; cases h)
  refine ⟨_, _, pre0 _ ?_, hrun, hended, _, _, rfl, ?_, ⟨_, rfl⟩, hW, hsame.mono (by decide) (by decide)⟩
  · show Steps p.tables e below (s₁.setTop (mkF m 0 #[.val (.int p1), .val (.int p2), .val (.int p3), .val (.int p4), .unset, .unset, .unset] [])) _
    refine XS.iconst X0.here hx rfl (hb hby at_0) ?_
    show Steps p.tables e below (s₁.setTop (mkF m 1 #[.val (.int p1), .val (.int p2), .val (.int p3), .val (.int p4), .unset, .unset, .unset] [(.int (4 : Int32))])) _
    refine XS.iloadN X0.here hx rfl (hb hby at_1) rfl ?_
    show Steps p.tables e below (s₁.setTop (mkF m 2 #[.val (.int p1), .val (.int p2), .val (.int p3), .val (.int p4), .unset, .unset, .unset] [(.int p3), (.int (4 : Int32))])) _
    refine XS.iconst X0.here hx rfl (hb hby at_2) ?_
    show Steps p.tables e below (s₁.setTop (mkF m 3 #[.val (.int p1), .val (.int p2), .val (.int p3), .val (.int p4), .unset, .unset, .unset] [(.int (3 : Int32)), (.int p3), (.int (4 : Int32))])) _
    refine XS.iand X0.here hx rfl (hb hby at_3) rfl ?_
    show Steps p.tables e below (s₁.setTop (mkF m 4 #[.val (.int p1), .val (.int p2), .val (.int p3), .val (.int p4), .unset, .unset, .unset] [(.int (p3 &&& (3 : Int32))), (.int (4 : Int32))])) _
    refine XS.iadd X0.here hx rfl (hb hby at_4) rfl ?_
    show Steps p.tables e below (s₁.setTop (mkF m 5 #[.val (.int p1), .val (.int p2), .val (.int p3), .val (.int p4), .unset, .unset, .unset] [(.int ((4 : Int32) + (p3 &&& (3 : Int32))))])) _
    refine XS.istore X0.here hx rfl (hb hby at_5) rfl (l' := #[.val (.int p1), .val (.int p2), .val (.int p3), .val (.int p4), .val (.int ((4 : Int32) + (p3 &&& (3 : Int32)))), .unset, .unset]) rfl ?_
    show Steps p.tables e below (s₁.setTop (mkF m 7 #[.val (.int p1), .val (.int p2), .val (.int p3), .val (.int p4), .val (.int ((4 : Int32) + (p3 &&& (3 : Int32)))), .unset, .unset] [])) _
    refine XS.iload X0.here hx rfl (hb hby at_7) rfl ?_
    show Steps p.tables e below (s₁.setTop (mkF m 9 #[.val (.int p1), .val (.int p2), .val (.int p3), .val (.int p4), .val (.int ((4 : Int32) + (p3 &&& (3 : Int32)))), .unset, .unset] [(.int ((4 : Int32) + (p3 &&& (3 : Int32))))])) _
    refine st5 _ ?_
    show Steps p.tables e below (T5.setTop (mkF m 11 #[.val (.int p1), .val (.int p2), .val (.int p3), .val (.int p4), .val (.int ((4 : Int32) + (p3 &&& (3 : Int32)))), .unset, .unset] [(.ref b5)])) _
    refine XS.astore X5.here hx rfl (hb hby at_11) rfl rfl (l' := #[.val (.int p1), .val (.int p2), .val (.int p3), .val (.int p4), .val (.int ((4 : Int32) + (p3 &&& (3 : Int32)))), .val (.ref b5), .unset]) rfl ?_
    show Steps p.tables e below (T5.setTop (mkF m 13 #[.val (.int p1), .val (.int p2), .val (.int p3), .val (.int p4), .val (.int ((4 : Int32) + (p3 &&& (3 : Int32)))), .val (.ref b5), .unset] [])) _
    refine XS.aload X5.here hx rfl (hb hby at_13) rfl rfl ?_
    show Steps p.tables e below (T5.setTop (mkF m 15 #[.val (.int p1), .val (.int p2), .val (.int p3), .val (.int p4), .val (.int ((4 : Int32) + (p3 &&& (3 : Int32)))), .val (.ref b5), .unset] [(.ref b5)])) _
    refine XS.iconst X5.here hx rfl (hb hby at_15) ?_
    show Steps p.tables e below (T5.setTop (mkF m 16 #[.val (.int p1), .val (.int p2), .val (.int p3), .val (.int p4), .val (.int ((4 : Int32) + (p3 &&& (3 : Int32)))), .val (.ref b5), .unset] [(.int (0 : Int32)), (.ref b5)])) _
    refine XS.iloadN X5.here hx rfl (hb hby at_16) rfl ?_
    show Steps p.tables e below (T5.setTop (mkF m 17 #[.val (.int p1), .val (.int p2), .val (.int p3), .val (.int p4), .val (.int ((4 : Int32) + (p3 &&& (3 : Int32)))), .val (.ref b5), .unset] [(.int p1), (.int (0 : Int32)), (.ref b5)])) _
    refine XS.bipush X5.here hx rfl (hb hby at_17) ?_
    show Steps p.tables e below (T5.setTop (mkF m 19 #[.val (.int p1), .val (.int p2), .val (.int p3), .val (.int p4), .val (.int ((4 : Int32) + (p3 &&& (3 : Int32)))), .val (.ref b5), .unset] [(.int (24 : Int32)), (.int p1), (.int (0 : Int32)), (.ref b5)])) _
    refine XS.iushr X5.here hx rfl (hb hby at_19) rfl ?_
    show Steps p.tables e below (T5.setTop (mkF m 20 #[.val (.int p1), .val (.int p2), .val (.int p3), .val (.int p4), .val (.int ((4 : Int32) + (p3 &&& (3 : Int32)))), .val (.ref b5), .unset] [(.int ((p1.toUInt32 >>> ((24 : Int32) &&& 31).toUInt32).toInt32)), (.int (0 : Int32)), (.ref b5)])) _
    refine XS.i2b X5.here hx rfl (hb hby at_20) rfl ?_
    show Steps p.tables e below (T5.setTop (mkF m 21 #[.val (.int p1), .val (.int p2), .val (.int p3), .val (.int p4), .val (.int ((4 : Int32) + (p3 &&& (3 : Int32)))), .val (.ref b5), .unset] [(.int (((p1.toUInt32 >>> ((24 : Int32) &&& 31).toUInt32).toInt32).toInt8.toInt32)), (.int (0 : Int32)), (.ref b5)])) _
    refine st6 _ ?_
    show Steps p.tables e below (T6.setTop (mkF m 22 #[.val (.int p1), .val (.int p2), .val (.int p3), .val (.int p4), .val (.int ((4 : Int32) + (p3 &&& (3 : Int32)))), .val (.ref b5), .unset] [])) _
    refine XS.aload X6.here hx rfl (hb hby at_22) rfl rfl ?_
    show Steps p.tables e below (T6.setTop (mkF m 24 #[.val (.int p1), .val (.int p2), .val (.int p3), .val (.int p4), .val (.int ((4 : Int32) + (p3 &&& (3 : Int32)))), .val (.ref b5), .unset] [(.ref b5)])) _
    refine XS.iconst X6.here hx rfl (hb hby at_24) ?_
    show Steps p.tables e below (T6.setTop (mkF m 25 #[.val (.int p1), .val (.int p2), .val (.int p3), .val (.int p4), .val (.int ((4 : Int32) + (p3 &&& (3 : Int32)))), .val (.ref b5), .unset] [(.int (1 : Int32)), (.ref b5)])) _
    refine XS.iloadN X6.here hx rfl (hb hby at_25) rfl ?_
    show Steps p.tables e below (T6.setTop (mkF m 26 #[.val (.int p1), .val (.int p2), .val (.int p3), .val (.int p4), .val (.int ((4 : Int32) + (p3 &&& (3 : Int32)))), .val (.ref b5), .unset] [(.int p1), (.int (1 : Int32)), (.ref b5)])) _
    refine XS.bipush X6.here hx rfl (hb hby at_26) ?_
    show Steps p.tables e below (T6.setTop (mkF m 28 #[.val (.int p1), .val (.int p2), .val (.int p3), .val (.int p4), .val (.int ((4 : Int32) + (p3 &&& (3 : Int32)))), .val (.ref b5), .unset] [(.int (16 : Int32)), (.int p1), (.int (1 : Int32)), (.ref b5)])) _
    refine XS.iushr X6.here hx rfl (hb hby at_28) rfl ?_
    show Steps p.tables e below (T6.setTop (mkF m 29 #[.val (.int p1), .val (.int p2), .val (.int p3), .val (.int p4), .val (.int ((4 : Int32) + (p3 &&& (3 : Int32)))), .val (.ref b5), .unset] [(.int ((p1.toUInt32 >>> ((16 : Int32) &&& 31).toUInt32).toInt32)), (.int (1 : Int32)), (.ref b5)])) _
    refine XS.i2b X6.here hx rfl (hb hby at_29) rfl ?_
    show Steps p.tables e below (T6.setTop (mkF m 30 #[.val (.int p1), .val (.int p2), .val (.int p3), .val (.int p4), .val (.int ((4 : Int32) + (p3 &&& (3 : Int32)))), .val (.ref b5), .unset] [(.int (((p1.toUInt32 >>> ((16 : Int32) &&& 31).toUInt32).toInt32).toInt8.toInt32)), (.int (1 : Int32)), (.ref b5)])) _
    refine st7 _ ?_
    show Steps p.tables e below (T7.setTop (mkF m 31 #[.val (.int p1), .val (.int p2), .val (.int p3), .val (.int p4), .val (.int ((4 : Int32) + (p3 &&& (3 : Int32)))), .val (.ref b5), .unset] [])) _
    refine XS.aload X7.here hx rfl (hb hby at_31) rfl rfl ?_
    show Steps p.tables e below (T7.setTop (mkF m 33 #[.val (.int p1), .val (.int p2), .val (.int p3), .val (.int p4), .val (.int ((4 : Int32) + (p3 &&& (3 : Int32)))), .val (.ref b5), .unset] [(.ref b5)])) _
    refine XS.iconst X7.here hx rfl (hb hby at_33) ?_
    show Steps p.tables e below (T7.setTop (mkF m 34 #[.val (.int p1), .val (.int p2), .val (.int p3), .val (.int p4), .val (.int ((4 : Int32) + (p3 &&& (3 : Int32)))), .val (.ref b5), .unset] [(.int (2 : Int32)), (.ref b5)])) _
    refine XS.iloadN X7.here hx rfl (hb hby at_34) rfl ?_
    show Steps p.tables e below (T7.setTop (mkF m 35 #[.val (.int p1), .val (.int p2), .val (.int p3), .val (.int p4), .val (.int ((4 : Int32) + (p3 &&& (3 : Int32)))), .val (.ref b5), .unset] [(.int p1), (.int (2 : Int32)), (.ref b5)])) _
    refine XS.bipush X7.here hx rfl (hb hby at_35) ?_
    show Steps p.tables e below (T7.setTop (mkF m 37 #[.val (.int p1), .val (.int p2), .val (.int p3), .val (.int p4), .val (.int ((4 : Int32) + (p3 &&& (3 : Int32)))), .val (.ref b5), .unset] [(.int (8 : Int32)), (.int p1), (.int (2 : Int32)), (.ref b5)])) _
    refine XS.iushr X7.here hx rfl (hb hby at_37) rfl ?_
    show Steps p.tables e below (T7.setTop (mkF m 38 #[.val (.int p1), .val (.int p2), .val (.int p3), .val (.int p4), .val (.int ((4 : Int32) + (p3 &&& (3 : Int32)))), .val (.ref b5), .unset] [(.int ((p1.toUInt32 >>> ((8 : Int32) &&& 31).toUInt32).toInt32)), (.int (2 : Int32)), (.ref b5)])) _
    refine XS.i2b X7.here hx rfl (hb hby at_38) rfl ?_
    show Steps p.tables e below (T7.setTop (mkF m 39 #[.val (.int p1), .val (.int p2), .val (.int p3), .val (.int p4), .val (.int ((4 : Int32) + (p3 &&& (3 : Int32)))), .val (.ref b5), .unset] [(.int (((p1.toUInt32 >>> ((8 : Int32) &&& 31).toUInt32).toInt32).toInt8.toInt32)), (.int (2 : Int32)), (.ref b5)])) _
    refine st8 _ ?_
    show Steps p.tables e below (T8.setTop (mkF m 40 #[.val (.int p1), .val (.int p2), .val (.int p3), .val (.int p4), .val (.int ((4 : Int32) + (p3 &&& (3 : Int32)))), .val (.ref b5), .unset] [])) _
    refine XS.aload X8.here hx rfl (hb hby at_40) rfl rfl ?_
    show Steps p.tables e below (T8.setTop (mkF m 42 #[.val (.int p1), .val (.int p2), .val (.int p3), .val (.int p4), .val (.int ((4 : Int32) + (p3 &&& (3 : Int32)))), .val (.ref b5), .unset] [(.ref b5)])) _
    refine XS.iconst X8.here hx rfl (hb hby at_42) ?_
    show Steps p.tables e below (T8.setTop (mkF m 43 #[.val (.int p1), .val (.int p2), .val (.int p3), .val (.int p4), .val (.int ((4 : Int32) + (p3 &&& (3 : Int32)))), .val (.ref b5), .unset] [(.int (3 : Int32)), (.ref b5)])) _
    refine XS.iloadN X8.here hx rfl (hb hby at_43) rfl ?_
    show Steps p.tables e below (T8.setTop (mkF m 44 #[.val (.int p1), .val (.int p2), .val (.int p3), .val (.int p4), .val (.int ((4 : Int32) + (p3 &&& (3 : Int32)))), .val (.ref b5), .unset] [(.int p1), (.int (3 : Int32)), (.ref b5)])) _
    refine XS.i2b X8.here hx rfl (hb hby at_44) rfl ?_
    show Steps p.tables e below (T8.setTop (mkF m 45 #[.val (.int p1), .val (.int p2), .val (.int p3), .val (.int p4), .val (.int ((4 : Int32) + (p3 &&& (3 : Int32)))), .val (.ref b5), .unset] [(.int (p1.toInt8.toInt32)), (.int (3 : Int32)), (.ref b5)])) _
    refine st9 _ ?_
    show Steps p.tables e below (T9.setTop (mkF m 46 #[.val (.int p1), .val (.int p2), .val (.int p3), .val (.int p4), .val (.int ((4 : Int32) + (p3 &&& (3 : Int32)))), .val (.ref b5), .unset] [])) _
    refine XS.iload X9.here hx rfl (hb hby at_46) rfl ?_
    show Steps p.tables e below (T9.setTop (mkF m 48 #[.val (.int p1), .val (.int p2), .val (.int p3), .val (.int p4), .val (.int ((4 : Int32) + (p3 &&& (3 : Int32)))), .val (.ref b5), .unset] [(.int ((4 : Int32) + (p3 &&& (3 : Int32))))])) _
    refine XS.iconst X9.here hx rfl (hb hby at_48) ?_
    show Steps p.tables e below (T9.setTop (mkF m 49 #[.val (.int p1), .val (.int p2), .val (.int p3), .val (.int p4), .val (.int ((4 : Int32) + (p3 &&& (3 : Int32)))), .val (.ref b5), .unset] [(.int (4 : Int32)), (.int ((4 : Int32) + (p3 &&& (3 : Int32))))])) _
    refine XS.icmpNo X9.here hx rfl (hb hby at_49) rfl (tlt hc49).2.2.2 ?_
    show Steps p.tables e below (T9.setTop (mkF m 52 #[.val (.int p1), .val (.int p2), .val (.int p3), .val (.int p4), .val (.int ((4 : Int32) + (p3 &&& (3 : Int32)))), .val (.ref b5), .unset] [])) _
    refine XS.aload X9.here hx rfl (hb hby at_52) rfl rfl ?_
    show Steps p.tables e below (T9.setTop (mkF m 54 #[.val (.int p1), .val (.int p2), .val (.int p3), .val (.int p4), .val (.int ((4 : Int32) + (p3 &&& (3 : Int32)))), .val (.ref b5), .unset] [(.ref b5)])) _
    refine XS.iconst X9.here hx rfl (hb hby at_54) ?_
    show Steps p.tables e below (T9.setTop (mkF m 55 #[.val (.int p1), .val (.int p2), .val (.int p3), .val (.int p4), .val (.int ((4 : Int32) + (p3 &&& (3 : Int32)))), .val (.ref b5), .unset] [(.int (4 : Int32)), (.ref b5)])) _
    refine XS.iloadN X9.here hx rfl (hb hby at_55) rfl ?_
    show Steps p.tables e below (T9.setTop (mkF m 56 #[.val (.int p1), .val (.int p2), .val (.int p3), .val (.int p4), .val (.int ((4 : Int32) + (p3 &&& (3 : Int32)))), .val (.ref b5), .unset] [(.int p2), (.int (4 : Int32)), (.ref b5)])) _
    refine XS.i2b X9.here hx rfl (hb hby at_56) rfl ?_
    show Steps p.tables e below (T9.setTop (mkF m 57 #[.val (.int p1), .val (.int p2), .val (.int p3), .val (.int p4), .val (.int ((4 : Int32) + (p3 &&& (3 : Int32)))), .val (.ref b5), .unset] [(.int (p2.toInt8.toInt32)), (.int (4 : Int32)), (.ref b5)])) _
    refine st10 _ ?_
    show Steps p.tables e below (T10.setTop (mkF m 58 #[.val (.int p1), .val (.int p2), .val (.int p3), .val (.int p4), .val (.int ((4 : Int32) + (p3 &&& (3 : Int32)))), .val (.ref b5), .unset] [])) _
    refine XS.iload X10.here hx rfl (hb hby at_58) rfl ?_
    show Steps p.tables e below (T10.setTop (mkF m 60 #[.val (.int p1), .val (.int p2), .val (.int p3), .val (.int p4), .val (.int ((4 : Int32) + (p3 &&& (3 : Int32)))), .val (.ref b5), .unset] [(.int ((4 : Int32) + (p3 &&& (3 : Int32))))])) _
    refine XS.iconst X10.here hx rfl (hb hby at_60) ?_
    show Steps p.tables e below (T10.setTop (mkF m 61 #[.val (.int p1), .val (.int p2), .val (.int p3), .val (.int p4), .val (.int ((4 : Int32) + (p3 &&& (3 : Int32)))), .val (.ref b5), .unset] [(.int (5 : Int32)), (.int ((4 : Int32) + (p3 &&& (3 : Int32))))])) _
    refine XS.icmpYes X10.here hx rfl (pc0 := 61) (pc' := 73) rfl (hb hby at_61) rfl (flt hc61).2.2.2 (by decide) (by decide) ?_
    show Steps p.tables e below (T10.setTop (mkF m 73 #[.val (.int p1), .val (.int p2), .val (.int p3), .val (.int p4), .val (.int ((4 : Int32) + (p3 &&& (3 : Int32)))), .val (.ref b5), .unset] [])) _
    refine XS.iload X10.here hx rfl (hb hby at_73) rfl ?_
    show Steps p.tables e below (T10.setTop (mkF m 75 #[.val (.int p1), .val (.int p2), .val (.int p3), .val (.int p4), .val (.int ((4 : Int32) + (p3 &&& (3 : Int32)))), .val (.ref b5), .unset] [(.int ((4 : Int32) + (p3 &&& (3 : Int32))))])) _
    refine XS.bipush X10.here hx rfl (hb hby at_75) ?_
    show Steps p.tables e below (T10.setTop (mkF m 77 #[.val (.int p1), .val (.int p2), .val (.int p3), .val (.int p4), .val (.int ((4 : Int32) + (p3 &&& (3 : Int32)))), .val (.ref b5), .unset] [(.int (6 : Int32)), (.int ((4 : Int32) + (p3 &&& (3 : Int32))))])) _
    refine XS.icmpYes X10.here hx rfl (pc0 := 77) (pc' := 90) rfl (hb hby at_77) rfl (flt hc77).2.2.2 (by decide) (by decide) ?_
    show Steps p.tables e below (T10.setTop (mkF m 90 #[.val (.int p1), .val (.int p2), .val (.int p3), .val (.int p4), .val (.int ((4 : Int32) + (p3 &&& (3 : Int32)))), .val (.ref b5), .unset] [])) _
    refine st11 _ ?_
    show Steps p.tables e below (T11.setTop (mkF m 93 #[.val (.int p1), .val (.int p2), .val (.int p3), .val (.int p4), .val (.int ((4 : Int32) + (p3 &&& (3 : Int32)))), .val (.ref b5), .unset] [(.ref b11)])) _
    refine XS.dup X11.here hx rfl (hb hby at_93) rfl rfl ?_
    show Steps p.tables e below (T11.setTop (mkF m 94 #[.val (.int p1), .val (.int p2), .val (.int p3), .val (.int p4), .val (.int ((4 : Int32) + (p3 &&& (3 : Int32)))), .val (.ref b5), .unset] [(.ref b11), (.ref b11)])) _
    refine XS.iloadN X11.here hx rfl (hb hby at_94) rfl ?_
    show Steps p.tables e below (T11.setTop (mkF m 95 #[.val (.int p1), .val (.int p2), .val (.int p3), .val (.int p4), .val (.int ((4 : Int32) + (p3 &&& (3 : Int32)))), .val (.ref b5), .unset] [(.int p4), (.ref b11), (.ref b11)])) _
    refine XS.sipush X11.here hx rfl (hb hby at_95) ?_
    show Steps p.tables e below (T11.setTop (mkF m 98 #[.val (.int p1), .val (.int p2), .val (.int p3), .val (.int p4), .val (.int ((4 : Int32) + (p3 &&& (3 : Int32)))), .val (.ref b5), .unset] [(.int (255 : Int32)), (.int p4), (.ref b11), (.ref b11)])) _
    refine XS.iand X11.here hx rfl (hb hby at_98) rfl ?_
    show Steps p.tables e below (T11.setTop (mkF m 99 #[.val (.int p1), .val (.int p2), .val (.int p3), .val (.int p4), .val (.int ((4 : Int32) + (p3 &&& (3 : Int32)))), .val (.ref b5), .unset] [(.int (p4 &&& (255 : Int32))), (.ref b11), (.ref b11)])) _
    refine XS.i2c X11.here hx rfl (hb hby at_99) rfl ?_
    show Steps p.tables e below (T11.setTop (mkF m 100 #[.val (.int p1), .val (.int p2), .val (.int p3), .val (.int p4), .val (.int ((4 : Int32) + (p3 &&& (3 : Int32)))), .val (.ref b5), .unset] [(.int ((p4 &&& (255 : Int32)).toUInt32.toUInt16.toUInt32.toInt32)), (.ref b11), (.ref b11)])) _
    refine XS.aload X11.here hx rfl (hb hby at_100) rfl rfl ?_
    show Steps p.tables e below (T11.setTop (mkF m 102 #[.val (.int p1), .val (.int p2), .val (.int p3), .val (.int p4), .val (.int ((4 : Int32) + (p3 &&& (3 : Int32)))), .val (.ref b5), .unset] [(.ref b5), (.int ((p4 &&& (255 : Int32)).toUInt32.toUInt16.toUInt32.toInt32)), (.ref b11), (.ref b11)])) _
    refine st12.trans ?_
    show Steps p.tables e below (T12.setTop (mkF m 105 #[.val (.int p1), .val (.int p2), .val (.int p3), .val (.int p4), .val (.int ((4 : Int32) + (p3 &&& (3 : Int32)))), .val (.ref b5), .unset] [(.ref b11)])) _
    refine XS.astore X12.here hx rfl (hb hby at_105) rfl rfl (l' := #[.val (.int p1), .val (.int p2), .val (.int p3), .val (.int p4), .val (.int ((4 : Int32) + (p3 &&& (3 : Int32)))), .val (.ref b5), .val (.ref b11)]) rfl ?_
    show Steps p.tables e below (T12.setTop (mkF m 107 #[.val (.int p1), .val (.int p2), .val (.int p3), .val (.int p4), .val (.int ((4 : Int32) + (p3 &&& (3 : Int32)))), .val (.ref b5), .val (.ref b11)] [])) _
    refine XS.aload X12.here hx rfl (hb hby at_107) rfl rfl ?_
    show Steps p.tables e below (T12.setTop (mkF m 109 #[.val (.int p1), .val (.int p2), .val (.int p3), .val (.int p4), .val (.int ((4 : Int32) + (p3 &&& (3 : Int32)))), .val (.ref b5), .val (.ref b11)] [(.ref b11)])) _
    refine st13.trans ?_
    show Steps p.tables e below (T13.setTop (mkF m 112 #[.val (.int p1), .val (.int p2), .val (.int p3), .val (.int p4), .val (.int ((4 : Int32) + (p3 &&& (3 : Int32)))), .val (.ref b5), .val (.ref b11)] [(.int ((((((nar .byte (((p1.toUInt32 >>> ((24 : Int32) &&& 31).toUInt32).toInt32).toInt8.toInt32)) &&& (255 : Int32)) <<< ((24 : Int32) &&& 31)) ||| (((nar .byte (((p1.toUInt32 >>> ((16 : Int32) &&& 31).toUInt32).toInt32).toInt8.toInt32)) &&& (255 : Int32)) <<< ((16 : Int32) &&& 31))) ||| (((nar .byte (((p1.toUInt32 >>> ((8 : Int32) &&& 31).toUInt32).toInt32).toInt8.toInt32)) &&& (255 : Int32)) <<< ((8 : Int32) &&& 31))) ||| ((nar .byte (p1.toInt8.toInt32)) &&& (255 : Int32))))])) _
    refine XS.iloadN X13.here hx rfl (hb hby at_112) rfl ?_
    show Steps p.tables e below (T13.setTop (mkF m 113 #[.val (.int p1), .val (.int p2), .val (.int p3), .val (.int p4), .val (.int ((4 : Int32) + (p3 &&& (3 : Int32)))), .val (.ref b5), .val (.ref b11)] [(.int p1), (.int ((((((nar .byte (((p1.toUInt32 >>> ((24 : Int32) &&& 31).toUInt32).toInt32).toInt8.toInt32)) &&& (255 : Int32)) <<< ((24 : Int32) &&& 31)) ||| (((nar .byte (((p1.toUInt32 >>> ((16 : Int32) &&& 31).toUInt32).toInt32).toInt8.toInt32)) &&& (255 : Int32)) <<< ((16 : Int32) &&& 31))) ||| (((nar .byte (((p1.toUInt32 >>> ((8 : Int32) &&& 31).toUInt32).toInt32).toInt8.toInt32)) &&& (255 : Int32)) <<< ((8 : Int32) &&& 31))) ||| ((nar .byte (p1.toInt8.toInt32)) &&& (255 : Int32))))])) _
    refine XS.icmpNo X13.here hx rfl (hb hby at_113) rfl (teq (own_pack p1 : ((((((nar .byte (((p1.toUInt32 >>> ((24 : Int32) &&& 31).toUInt32).toInt32).toInt8.toInt32)) &&& (255 : Int32)) <<< ((24 : Int32) &&& 31)) ||| (((nar .byte (((p1.toUInt32 >>> ((16 : Int32) &&& 31).toUInt32).toInt32).toInt8.toInt32)) &&& (255 : Int32)) <<< ((16 : Int32) &&& 31))) ||| (((nar .byte (((p1.toUInt32 >>> ((8 : Int32) &&& 31).toUInt32).toInt32).toInt8.toInt32)) &&& (255 : Int32)) <<< ((8 : Int32) &&& 31))) ||| ((nar .byte (p1.toInt8.toInt32)) &&& (255 : Int32))) = p1)).2 ?_
    show Steps p.tables e below (T13.setTop (mkF m 116 #[.val (.int p1), .val (.int p2), .val (.int p3), .val (.int p4), .val (.int ((4 : Int32) + (p3 &&& (3 : Int32)))), .val (.ref b5), .val (.ref b11)] [])) _
    refine XS.iconst X13.here hx rfl (hb hby at_116) ?_
    show Steps p.tables e below (T13.setTop (mkF m 117 #[.val (.int p1), .val (.int p2), .val (.int p3), .val (.int p4), .val (.int ((4 : Int32) + (p3 &&& (3 : Int32)))), .val (.ref b5), .val (.ref b11)] [(.int (1 : Int32))])) _
    refine XS.goto X13.here hx rfl (pc0 := 117) (pc' := 121) rfl (hb hby at_117) (by decide) (by decide) ?_
    show Steps p.tables e below (T13.setTop (mkF m 121 #[.val (.int p1), .val (.int p2), .val (.int p3), .val (.int p4), .val (.int ((4 : Int32) + (p3 &&& (3 : Int32)))), .val (.ref b5), .val (.ref b11)] [(.int (1 : Int32))])) _
    exact retN X13 hx (t := .boolean) Bd.returns (by simp) (hb hby at_121) hr
  · show Q0 Z p1 p2 p3 p4 h0 n0 _ T13.heap _
    exact ⟨rfl, N13⟩
set_option maxRecDepth 65536 in
set_option maxHeartbeats 40000000 in
theorem rm0_fft (l : Launch) (Z : State) (a0 : Array Value) (hw : ∀ d ∈ tables_1, d.before a0 Z = true) (ws : List Jvm.Cond) (p1 : Int32) (p2 : Int32) (p3 : Int32) (p4 : Int32) (h0 : Heap) (n0 : Nat) (Z0 : n0 ≤ h0.size) (hc49 : (4 : Int32) < ((4 : Int32) + (p3 &&& (3 : Int32)))) (hc61 : (5 : Int32) < ((4 : Int32) + (p3 &&& (3 : Int32)))) (hc77 : ¬ ((6 : Int32) < ((4 : Int32) + (p3 &&& (3 : Int32))))) :
    MetFree l x (head1 (Jvm.Cond.code x code maxLocals ret :: ws) room_1) (fun a U => a = #[(.int p1), (.int p2), (.int p3), (.int p4)] ∧ Z.Warmed39 U.vm ∧ U.heap = h0) (fun _ _ _ _ _ => True) (fun _ U o U' => ∃ v L, o = .returned v ∧ Q0 Z p1 p2 p3 p4 h0 n0 v U'.heap L ∧ FrameEnd U o U' L room_1.cells room_1.slots) := by
  refine MetFree.of_bodySF (plainFor_of_name pn_0) hisR ?_
  intro p e s m args below meth c s₁ Bd hml0 hP hK
  obtain ⟨rfl, hZ, hh⟩ := hP
  have hx := Bd.exec
  have hby := Bd.bytes
  have hml : c.maxLocals = 7 := hml0
  have hown : s.vm.findClass "com/example/varuna/varuna/MessageLeadingInt32PinLaw" = some m.cls := findClass_of_methodNamed Bd.named
  have hnm := (name_of_methodNamed Bd.named Bd.method).1
  have X0 : Stand p l e room_1 s m #[(.int p1), (.int p2), (.int p3), (.int p4)] below meth c s₁ [] 0 0 := Stand.of_body Bd
  have e0 : s₁.heap = h0 := by rw [← hh, Bd.state]; rfl
  have N0 := Fr.nil n0
  obtain ⟨Hz0, Hz1, H0, H1, H2, H3, H4⟩ := own_z p3
  have pre0 : ∀ t, Steps p.tables e below (s₁.setTop (mkF m 0 #[.val (.int p1), .val (.int p2), .val (.int p3), .val (.int p4), .unset, .unset, .unset] [])) t → Steps p.tables e below (s₁.setTop (entryFrame m #[(.int p1), (.int p2), (.int p3), (.int p4)] maxLocals)) t := fun t k => castTop (ef_0 m p1 p2 p3 p4) k
  obtain ⟨T5, h5, k5, X5, e5, E5, A5, st5⟩ := newP X0 hx hZ (hw _ (List.mem_of_getElem? (i := 0) rfl)) e0 (g := (mkF m 9 #[.val (.int p1), .val (.int p2), .val (.int p3), .val (.int p4), .val (.int ((4 : Int32) + (p3 &&& (3 : Int32)))), .unset, .unset] [(.int ((4 : Int32) + (p3 &&& (3 : Int32))))])) rfl (hb hby at_9) rfl Hz0 (cap := 7) Hz1 (by decide) (by decide) (by decide)
  obtain ⟨b5, g5⟩ : ∃ z, z = h0.size := ⟨_, rfl⟩
  rw [← g5] at A5 st5
  have V_b5 := Arv.new A5 Hz0
  have V_b5 : Arv Z h5 b5 k5 .byte ((4 : Int32) + (p3 &&& (3 : Int32))) [(.int (0 : Int32)), (.int (0 : Int32)), (.int (0 : Int32)), (.int (0 : Int32)), (.int (0 : Int32)), (.int (0 : Int32)), (.int (0 : Int32))] (.int (0 : Int32)) := V_b5.pad (pad_rep [] (.int (0 : Int32)) 7)
  have g_b5 : n0 ≤ b5 := Nat.le_trans Z0 (Nat.le_of_eq g5.symm)
  have sz_b5 : h0.size ≤ b5 := (Nat.le_trans (Keep.refl h0 []).1 (Nat.le_of_eq g5.symm))
  have K5 : Keep h0 h5 [] := (Keep.refl h0 []).ext E5
  obtain ⟨cl_b5_21, Ar_b5, q_b5, S_b5, N_b5, H_b5, G_b5⟩ := V_b5
  have hin21 : ¬ ((0 : Int32) < 0 ∨ cl_b5_21.slots.size ≤ ((0 : Int32)).toNatClampNeg) := inb_of S_b5 ⟨by decide, H0⟩
  obtain ⟨T6, h6, X6, e6, W6, st6⟩ := stB X5 hx hZ e5 Ar_b5 (j := (0 : Int32)) hin21 (g := (mkF m 21 #[.val (.int p1), .val (.int p2), .val (.int p3), .val (.int p4), .val (.int ((4 : Int32) + (p3 &&& (3 : Int32)))), .val (.ref b5), .unset] [(.int (((p1.toUInt32 >>> ((24 : Int32) &&& 31).toUInt32).toInt32).toInt8.toInt32)), (.int (0 : Int32)), (.ref b5)])) rfl rfl (hb hby at_21)
  have V_b5_6 := Arv.set Ar_b5 q_b5 S_b5 N_b5 H_b5 G_b5 (fits_nar_byte _) W6 0 rfl (Nat.le_of_ble_eq_true rfl)
  have K6 : Keep h0 h6 [] := K5.wr W6 (Or.inr sz_b5)
  have N6 := Fr.snoc X6 N0 g_b5
  obtain ⟨cl_b5_30, Ar_b5, q_b5, S_b5, N_b5, H_b5, G_b5⟩ := V_b5_6
  have hin30 : ¬ ((1 : Int32) < 0 ∨ cl_b5_30.slots.size ≤ ((1 : Int32)).toNatClampNeg) := inb_of S_b5 ⟨by decide, H1⟩
  obtain ⟨T7, h7, X7, e7, W7, st7⟩ := stB X6 hx hZ e6 Ar_b5 (j := (1 : Int32)) hin30 (g := (mkF m 30 #[.val (.int p1), .val (.int p2), .val (.int p3), .val (.int p4), .val (.int ((4 : Int32) + (p3 &&& (3 : Int32)))), .val (.ref b5), .unset] [(.int (((p1.toUInt32 >>> ((16 : Int32) &&& 31).toUInt32).toInt32).toInt8.toInt32)), (.int (1 : Int32)), (.ref b5)])) rfl rfl (hb hby at_30)
  have V_b5_7 := Arv.set Ar_b5 q_b5 S_b5 N_b5 H_b5 G_b5 (fits_nar_byte _) W7 1 rfl (Nat.le_of_ble_eq_true rfl)
  have K7 : Keep h0 h7 [] := K6.wr W7 (Or.inr sz_b5)
  have N7 := Fr.snoc X7 N6 g_b5
  obtain ⟨cl_b5_39, Ar_b5, q_b5, S_b5, N_b5, H_b5, G_b5⟩ := V_b5_7
  have hin39 : ¬ ((2 : Int32) < 0 ∨ cl_b5_39.slots.size ≤ ((2 : Int32)).toNatClampNeg) := inb_of S_b5 ⟨by decide, H2⟩
  obtain ⟨T8, h8, X8, e8, W8, st8⟩ := stB X7 hx hZ e7 Ar_b5 (j := (2 : Int32)) hin39 (g := (mkF m 39 #[.val (.int p1), .val (.int p2), .val (.int p3), .val (.int p4), .val (.int ((4 : Int32) + (p3 &&& (3 : Int32)))), .val (.ref b5), .unset] [(.int (((p1.toUInt32 >>> ((8 : Int32) &&& 31).toUInt32).toInt32).toInt8.toInt32)), (.int (2 : Int32)), (.ref b5)])) rfl rfl (hb hby at_39)
  have V_b5_8 := Arv.set Ar_b5 q_b5 S_b5 N_b5 H_b5 G_b5 (fits_nar_byte _) W8 2 rfl (Nat.le_of_ble_eq_true rfl)
  have K8 : Keep h0 h8 [] := K7.wr W8 (Or.inr sz_b5)
  have N8 := Fr.snoc X8 N7 g_b5
  obtain ⟨cl_b5_45, Ar_b5, q_b5, S_b5, N_b5, H_b5, G_b5⟩ := V_b5_8
  have hin45 : ¬ ((3 : Int32) < 0 ∨ cl_b5_45.slots.size ≤ ((3 : Int32)).toNatClampNeg) := inb_of S_b5 ⟨by decide, H3⟩
  obtain ⟨T9, h9, X9, e9, W9, st9⟩ := stB X8 hx hZ e8 Ar_b5 (j := (3 : Int32)) hin45 (g := (mkF m 45 #[.val (.int p1), .val (.int p2), .val (.int p3), .val (.int p4), .val (.int ((4 : Int32) + (p3 &&& (3 : Int32)))), .val (.ref b5), .unset] [(.int (p1.toInt8.toInt32)), (.int (3 : Int32)), (.ref b5)])) rfl rfl (hb hby at_45)
  have V_b5_9 := Arv.set Ar_b5 q_b5 S_b5 N_b5 H_b5 G_b5 (fits_nar_byte _) W9 3 rfl (Nat.le_of_ble_eq_true rfl)
  have K9 : Keep h0 h9 [] := K8.wr W9 (Or.inr sz_b5)
  have N9 := Fr.snoc X9 N8 g_b5
  obtain ⟨cl_b5_57, Ar_b5, q_b5, S_b5, N_b5, H_b5, G_b5⟩ := V_b5_9
  have hin57 : ¬ ((4 : Int32) < 0 ∨ cl_b5_57.slots.size ≤ ((4 : Int32)).toNatClampNeg) := inb_of S_b5 ⟨by decide, hc49⟩
  obtain ⟨T10, h10, X10, e10, W10, st10⟩ := stB X9 hx hZ e9 Ar_b5 (j := (4 : Int32)) hin57 (g := (mkF m 57 #[.val (.int p1), .val (.int p2), .val (.int p3), .val (.int p4), .val (.int ((4 : Int32) + (p3 &&& (3 : Int32)))), .val (.ref b5), .unset] [(.int (p2.toInt8.toInt32)), (.int (4 : Int32)), (.ref b5)])) rfl rfl (hb hby at_57)
  have V_b5_10 := Arv.set Ar_b5 q_b5 S_b5 N_b5 H_b5 G_b5 (fits_nar_byte _) W10 4 rfl (Nat.le_of_ble_eq_true rfl)
  have K10 : Keep h0 h10 [] := K9.wr W10 (Or.inr sz_b5)
  have N10 := Fr.snoc X10 N9 g_b5
  obtain ⟨cl_b5_72, Ar_b5, q_b5, S_b5, N_b5, H_b5, G_b5⟩ := V_b5_10
  have hin72 : ¬ ((5 : Int32) < 0 ∨ cl_b5_72.slots.size ≤ ((5 : Int32)).toNatClampNeg) := inb_of S_b5 ⟨by decide, hc61⟩
  obtain ⟨T11, h11, X11, e11, W11, st11⟩ := stB X10 hx hZ e10 Ar_b5 (j := (5 : Int32)) hin72 (g := (mkF m 72 #[.val (.int p1), .val (.int p2), .val (.int p3), .val (.int p4), .val (.int ((4 : Int32) + (p3 &&& (3 : Int32)))), .val (.ref b5), .unset] [(.int (((p2.toUInt32 >>> ((8 : Int32) &&& 31).toUInt32).toInt32).toInt8.toInt32)), (.int (5 : Int32)), (.ref b5)])) rfl rfl (hb hby at_72)
  have V_b5_11 := Arv.set Ar_b5 q_b5 S_b5 N_b5 H_b5 G_b5 (fits_nar_byte _) W11 5 rfl (Nat.le_of_ble_eq_true rfl)
  have K11 : Keep h0 h11 [] := K10.wr W11 (Or.inr sz_b5)
  have N11 := Fr.snoc X11 N10 g_b5
  obtain ⟨T12, h12, X12, e12, E12, A12, D12, -, st12⟩ := newO X11 hx hZ hown (hw _ (List.mem_of_getElem? (i := 1) rfl)) (hw _ (List.mem_of_getElem? (i := 2) rfl)) (hw _ (List.mem_of_getElem? (i := 3) rfl)) e11 (g := (mkF m 90 #[.val (.int p1), .val (.int p2), .val (.int p3), .val (.int p4), .val (.int ((4 : Int32) + (p3 &&& (3 : Int32)))), .val (.ref b5), .unset] [])) rfl (hb hby at_90) (by decide) (by decide)
  obtain ⟨b12, g12⟩ : ∃ z, z = h11.size := ⟨_, rfl⟩
  rw [← g12] at A12 D12 st12
  have F_type_b12 : Fld Z h12 b12 "com/example/varuna/varuna/Message" "type" "C" (.int (0 : Int32)) := D12 (Or.inr (hw _ (List.mem_of_getElem? (i := 11) rfl))) (ty := .char) (by decide)
  have F_body_b12 : Fld Z h12 b12 "com/example/varuna/varuna/Message" "body" "[B" .null := D12 (Or.inr (hw _ (List.mem_of_getElem? (i := 13) rfl))) (ty := (.array .byte)) (by decide)
  have E_b12 := A12
  have g_b12 : n0 ≤ b12 := Nat.le_trans (Nat.le_trans (Nat.le_trans (Nat.le_trans (Nat.le_trans (Nat.le_trans (Nat.le_trans (Nat.le_trans Z0 E5.1) (Keep.of_wr W6).1) (Keep.of_wr W7).1) (Keep.of_wr W8).1) (Keep.of_wr W9).1) (Keep.of_wr W10).1) (Keep.of_wr W11).1) (Nat.le_of_eq g12.symm)
  have sz_b12 : h0.size ≤ b12 := (Nat.le_trans K11.1 (Nat.le_of_eq g12.symm))
  have K12 : Keep h0 h12 [] := K11.ext E12
  obtain ⟨_, _, ⟨T13, L13, k13, n13⟩, -, X13, ⟨Lc13, hQ13, l13, y13, z13⟩, st13⟩ := X12.specialBack hx (y := (⟨"com/example/varuna/varuna/Message", "<init>", "(C[B)V"⟩ : MethodName)) rfl hown (mvT hZ (hw _ (List.mem_of_getElem? (i := 4) rfl))) (mvT hZ (hw _ (List.mem_of_getElem? (i := 5) rfl))) (mvT hZ (hw _ (List.mem_of_getElem? (i := 6) rfl))) (by decide) (backOf (W := 1) (rm1 l Z a0 hw [] b12 ((p4 &&& (255 : Int32)).toUInt32.toUInt16.toUInt32.toInt32) b5 (.int (0 : Int32)) .null h12 n0 (Nat.le_trans Z0 K12.1) E_b12 F_type_b12 g_b12 F_body_b12) hZ (hw _ (List.mem_of_getElem? (i := 6) rfl)) (hw _ (List.mem_of_getElem? (i := 3) rfl)) (by decide) (by decide)) (g := (mkF m 102 #[.val (.int p1), .val (.int p2), .val (.int p3), .val (.int p4), .val (.int ((4 : Int32) + (p3 &&& (3 : Int32)))), .val (.ref b5), .unset] [(.ref b5), (.int ((p4 &&& (255 : Int32)).toUInt32.toUInt16.toUInt32.toInt32)), (.ref b12), (.ref b12)])) rfl (by rw [hml]; rfl) (Steps.refl _) (a := b12) (argsL := [(.int ((p4 &&& (255 : Int32)).toUInt32.toUInt16.toUInt32.toInt32)), (.ref b5)]) (rest := [(.ref b12)]) (lenOf pd_0_0 rfl) rfl (by show 2 * 0 + _ ≤ _; exact Nat.le_of_eq rfl) (hb hby at_102) (fun _ _ => ⟨rfl, e12, (by decide : 2 + 0 ≤ _), (by decide : 9 + 0 ≤ _)⟩)
  dsimp only [Pt.U, Pt.locs, Pt.cells, Pt.slots] at X13 l13 y13 z13 st13 hQ13
  subst l13 y13 z13
  obtain ⟨rfl, N13q, K13, Ex13, Ft13, Fb13⟩ := hQ13
  have N13 := Fr.app N11 N13q
  have VF := (V_b5_11.ext E12).keep K13 (ninS (Nat.ne_of_lt (by rw [g12]; exact V_b5_11.lt)) nin0)
  obtain ⟨clF, ArF, qF, SF, NF, HF, GF⟩ := VF
  have i0 : ¬ ((0 : Int32) < 0 ∨ clF.slots.size ≤ ((0 : Int32)).toNatClampNeg) := inb_of SF ⟨by decide, H0⟩
  have i1 : ¬ ((1 : Int32) < 0 ∨ clF.slots.size ≤ ((1 : Int32)).toNatClampNeg) := inb_of SF ⟨by decide, H1⟩
  have i2 : ¬ ((2 : Int32) < 0 ∨ clF.slots.size ≤ ((2 : Int32)).toNatClampNeg) := inb_of SF ⟨by decide, H2⟩
  have i3 : ¬ ((3 : Int32) < 0 ∨ clF.slots.size ≤ ((3 : Int32)).toNatClampNeg) := inb_of SF ⟨by decide, H3⟩
  obtain ⟨cq14, kq14, q14a, q14b, q14c⟩ := isOf hZ rfl (E_b12.keep K13)
  obtain ⟨_, _, ⟨T14, L14, k14, n14⟩, -, X14, ⟨Lc14, hQ14, l14, y14, z14⟩, st14⟩ := X13.virtualBack hx (y := (⟨"com/example/varuna/varuna/Message", "leadingInt32", "()I"⟩ : MethodName)) (z := (⟨"com/example/varuna/varuna/Message", "leadingInt32", "()I"⟩ : MethodName)) hown (mvT hZ (hw _ (List.mem_of_getElem? (i := 14) rfl))) (mvT hZ (hw _ (List.mem_of_getElem? (i := 15) rfl))) (notFace_of_selects (args := #[]) (mvT hZ (hw _ (List.mem_of_getElem? (i := 17) rfl)))) (mvT hZ (hw _ (List.mem_of_getElem? (i := 17) rfl))) (mvT hZ (hw _ (List.mem_of_getElem? (i := 16) rfl))) (by decide) (backOf (W := 0) (rm3 l Z a0 hw [] b12 b5 clF ((4 : Int32) + (p3 &&& (3 : Int32))) (nar .byte (((p1.toUInt32 >>> ((24 : Int32) &&& 31).toUInt32).toInt32).toInt8.toInt32)) (nar .byte (((p1.toUInt32 >>> ((16 : Int32) &&& 31).toUInt32).toInt32).toInt8.toInt32)) (nar .byte (((p1.toUInt32 >>> ((8 : Int32) &&& 31).toUInt32).toInt32).toInt8.toInt32)) (nar .byte (p1.toInt8.toInt32)) T13.heap n0 (Nat.le_trans (Nat.le_trans Z0 K12.1) K13.1) Fb13 ArF SF NF i0 (HF.at i0 rfl) i1 (HF.at i1 rfl) i2 (HF.at i2 rfl) i3 (HF.at i3 rfl) H4) hZ (hw _ (List.mem_of_getElem? (i := 18) rfl)) (hw _ (List.mem_of_getElem? (i := 3) rfl)) (by decide) (by decide)) q14a q14c (g := (mkF m 109 #[.val (.int p1), .val (.int p2), .val (.int p3), .val (.int p4), .val (.int ((4 : Int32) + (p3 &&& (3 : Int32)))), .val (.ref b5), .val (.ref b12)] [(.ref b12)])) rfl (by rw [hml]; rfl) (Steps.refl _) (argsL := []) (rest := []) (lenOf pd_0_2 rfl) rfl (by show 2 * 0 + _ ≤ _; exact Nat.le_of_eq rfl) (hb hby at_109) (fun _ _ => ⟨rfl, rfl, (by decide : 2 + 0 ≤ _), (by decide : 9 + 0 ≤ _)⟩)
  dsimp only [Pt.U, Pt.locs, Pt.cells, Pt.slots] at X14 l14 y14 z14 st14 hQ14
  subst l14 y14 z14
  obtain ⟨rfl, N14q, e14⟩ := hQ14
  have N14 := Fr.app N13 N14q
  obtain ⟨fs, hr, hrun, hended, hW, hsame⟩ := X14.leave (v := some (.int (1 : Int32))) (fun h => by rw [Bd.returns] at h; cases h)
  refine ⟨_, _, pre0 _ ?_, hrun, hended, _, _, rfl, ?_, ⟨_, rfl⟩, hW, hsame.mono (by decide) (by decide)⟩
  · show Steps p.tables e below (s₁.setTop (mkF m 0 #[.val (.int p1), .val (.int p2), .val (.int p3), .val (.int p4), .unset, .unset, .unset] [])) _
    refine XS.iconst X0.here hx rfl (hb hby at_0) ?_
    show Steps p.tables e below (s₁.setTop (mkF m 1 #[.val (.int p1), .val (.int p2), .val (.int p3), .val (.int p4), .unset, .unset, .unset] [(.int (4 : Int32))])) _
    refine XS.iloadN X0.here hx rfl (hb hby at_1) rfl ?_
    show Steps p.tables e below (s₁.setTop (mkF m 2 #[.val (.int p1), .val (.int p2), .val (.int p3), .val (.int p4), .unset, .unset, .unset] [(.int p3), (.int (4 : Int32))])) _
    refine XS.iconst X0.here hx rfl (hb hby at_2) ?_
    show Steps p.tables e below (s₁.setTop (mkF m 3 #[.val (.int p1), .val (.int p2), .val (.int p3), .val (.int p4), .unset, .unset, .unset] [(.int (3 : Int32)), (.int p3), (.int (4 : Int32))])) _
    refine XS.iand X0.here hx rfl (hb hby at_3) rfl ?_
    show Steps p.tables e below (s₁.setTop (mkF m 4 #[.val (.int p1), .val (.int p2), .val (.int p3), .val (.int p4), .unset, .unset, .unset] [(.int (p3 &&& (3 : Int32))), (.int (4 : Int32))])) _
    refine XS.iadd X0.here hx rfl (hb hby at_4) rfl ?_
    show Steps p.tables e below (s₁.setTop (mkF m 5 #[.val (.int p1), .val (.int p2), .val (.int p3), .val (.int p4), .unset, .unset, .unset] [(.int ((4 : Int32) + (p3 &&& (3 : Int32))))])) _
    refine XS.istore X0.here hx rfl (hb hby at_5) rfl (l' := #[.val (.int p1), .val (.int p2), .val (.int p3), .val (.int p4), .val (.int ((4 : Int32) + (p3 &&& (3 : Int32)))), .unset, .unset]) rfl ?_
    show Steps p.tables e below (s₁.setTop (mkF m 7 #[.val (.int p1), .val (.int p2), .val (.int p3), .val (.int p4), .val (.int ((4 : Int32) + (p3 &&& (3 : Int32)))), .unset, .unset] [])) _
    refine XS.iload X0.here hx rfl (hb hby at_7) rfl ?_
    show Steps p.tables e below (s₁.setTop (mkF m 9 #[.val (.int p1), .val (.int p2), .val (.int p3), .val (.int p4), .val (.int ((4 : Int32) + (p3 &&& (3 : Int32)))), .unset, .unset] [(.int ((4 : Int32) + (p3 &&& (3 : Int32))))])) _
    refine st5 _ ?_
    show Steps p.tables e below (T5.setTop (mkF m 11 #[.val (.int p1), .val (.int p2), .val (.int p3), .val (.int p4), .val (.int ((4 : Int32) + (p3 &&& (3 : Int32)))), .unset, .unset] [(.ref b5)])) _
    refine XS.astore X5.here hx rfl (hb hby at_11) rfl rfl (l' := #[.val (.int p1), .val (.int p2), .val (.int p3), .val (.int p4), .val (.int ((4 : Int32) + (p3 &&& (3 : Int32)))), .val (.ref b5), .unset]) rfl ?_
    show Steps p.tables e below (T5.setTop (mkF m 13 #[.val (.int p1), .val (.int p2), .val (.int p3), .val (.int p4), .val (.int ((4 : Int32) + (p3 &&& (3 : Int32)))), .val (.ref b5), .unset] [])) _
    refine XS.aload X5.here hx rfl (hb hby at_13) rfl rfl ?_
    show Steps p.tables e below (T5.setTop (mkF m 15 #[.val (.int p1), .val (.int p2), .val (.int p3), .val (.int p4), .val (.int ((4 : Int32) + (p3 &&& (3 : Int32)))), .val (.ref b5), .unset] [(.ref b5)])) _
    refine XS.iconst X5.here hx rfl (hb hby at_15) ?_
    show Steps p.tables e below (T5.setTop (mkF m 16 #[.val (.int p1), .val (.int p2), .val (.int p3), .val (.int p4), .val (.int ((4 : Int32) + (p3 &&& (3 : Int32)))), .val (.ref b5), .unset] [(.int (0 : Int32)), (.ref b5)])) _
    refine XS.iloadN X5.here hx rfl (hb hby at_16) rfl ?_
    show Steps p.tables e below (T5.setTop (mkF m 17 #[.val (.int p1), .val (.int p2), .val (.int p3), .val (.int p4), .val (.int ((4 : Int32) + (p3 &&& (3 : Int32)))), .val (.ref b5), .unset] [(.int p1), (.int (0 : Int32)), (.ref b5)])) _
    refine XS.bipush X5.here hx rfl (hb hby at_17) ?_
    show Steps p.tables e below (T5.setTop (mkF m 19 #[.val (.int p1), .val (.int p2), .val (.int p3), .val (.int p4), .val (.int ((4 : Int32) + (p3 &&& (3 : Int32)))), .val (.ref b5), .unset] [(.int (24 : Int32)), (.int p1), (.int (0 : Int32)), (.ref b5)])) _
    refine XS.iushr X5.here hx rfl (hb hby at_19) rfl ?_
    show Steps p.tables e below (T5.setTop (mkF m 20 #[.val (.int p1), .val (.int p2), .val (.int p3), .val (.int p4), .val (.int ((4 : Int32) + (p3 &&& (3 : Int32)))), .val (.ref b5), .unset] [(.int ((p1.toUInt32 >>> ((24 : Int32) &&& 31).toUInt32).toInt32)), (.int (0 : Int32)), (.ref b5)])) _
    refine XS.i2b X5.here hx rfl (hb hby at_20) rfl ?_
    show Steps p.tables e below (T5.setTop (mkF m 21 #[.val (.int p1), .val (.int p2), .val (.int p3), .val (.int p4), .val (.int ((4 : Int32) + (p3 &&& (3 : Int32)))), .val (.ref b5), .unset] [(.int (((p1.toUInt32 >>> ((24 : Int32) &&& 31).toUInt32).toInt32).toInt8.toInt32)), (.int (0 : Int32)), (.ref b5)])) _
    refine st6 _ ?_
    show Steps p.tables e below (T6.setTop (mkF m 22 #[.val (.int p1), .val (.int p2), .val (.int p3), .val (.int p4), .val (.int ((4 : Int32) + (p3 &&& (3 : Int32)))), .val (.ref b5), .unset] [])) _
    refine XS.aload X6.here hx rfl (hb hby at_22) rfl rfl ?_
    show Steps p.tables e below (T6.setTop (mkF m 24 #[.val (.int p1), .val (.int p2), .val (.int p3), .val (.int p4), .val (.int ((4 : Int32) + (p3 &&& (3 : Int32)))), .val (.ref b5), .unset] [(.ref b5)])) _
    refine XS.iconst X6.here hx rfl (hb hby at_24) ?_
    show Steps p.tables e below (T6.setTop (mkF m 25 #[.val (.int p1), .val (.int p2), .val (.int p3), .val (.int p4), .val (.int ((4 : Int32) + (p3 &&& (3 : Int32)))), .val (.ref b5), .unset] [(.int (1 : Int32)), (.ref b5)])) _
    refine XS.iloadN X6.here hx rfl (hb hby at_25) rfl ?_
    show Steps p.tables e below (T6.setTop (mkF m 26 #[.val (.int p1), .val (.int p2), .val (.int p3), .val (.int p4), .val (.int ((4 : Int32) + (p3 &&& (3 : Int32)))), .val (.ref b5), .unset] [(.int p1), (.int (1 : Int32)), (.ref b5)])) _
    refine XS.bipush X6.here hx rfl (hb hby at_26) ?_
    show Steps p.tables e below (T6.setTop (mkF m 28 #[.val (.int p1), .val (.int p2), .val (.int p3), .val (.int p4), .val (.int ((4 : Int32) + (p3 &&& (3 : Int32)))), .val (.ref b5), .unset] [(.int (16 : Int32)), (.int p1), (.int (1 : Int32)), (.ref b5)])) _
    refine XS.iushr X6.here hx rfl (hb hby at_28) rfl ?_
    show Steps p.tables e below (T6.setTop (mkF m 29 #[.val (.int p1), .val (.int p2), .val (.int p3), .val (.int p4), .val (.int ((4 : Int32) + (p3 &&& (3 : Int32)))), .val (.ref b5), .unset] [(.int ((p1.toUInt32 >>> ((16 : Int32) &&& 31).toUInt32).toInt32)), (.int (1 : Int32)), (.ref b5)])) _
    refine XS.i2b X6.here hx rfl (hb hby at_29) rfl ?_
    show Steps p.tables e below (T6.setTop (mkF m 30 #[.val (.int p1), .val (.int p2), .val (.int p3), .val (.int p4), .val (.int ((4 : Int32) + (p3 &&& (3 : Int32)))), .val (.ref b5), .unset] [(.int (((p1.toUInt32 >>> ((16 : Int32) &&& 31).toUInt32).toInt32).toInt8.toInt32)), (.int (1 : Int32)), (.ref b5)])) _
    refine st7 _ ?_
    show Steps p.tables e below (T7.setTop (mkF m 31 #[.val (.int p1), .val (.int p2), .val (.int p3), .val (.int p4), .val (.int ((4 : Int32) + (p3 &&& (3 : Int32)))), .val (.ref b5), .unset] [])) _
    refine XS.aload X7.here hx rfl (hb hby at_31) rfl rfl ?_
    show Steps p.tables e below (T7.setTop (mkF m 33 #[.val (.int p1), .val (.int p2), .val (.int p3), .val (.int p4), .val (.int ((4 : Int32) + (p3 &&& (3 : Int32)))), .val (.ref b5), .unset] [(.ref b5)])) _
    refine XS.iconst X7.here hx rfl (hb hby at_33) ?_
    show Steps p.tables e below (T7.setTop (mkF m 34 #[.val (.int p1), .val (.int p2), .val (.int p3), .val (.int p4), .val (.int ((4 : Int32) + (p3 &&& (3 : Int32)))), .val (.ref b5), .unset] [(.int (2 : Int32)), (.ref b5)])) _
    refine XS.iloadN X7.here hx rfl (hb hby at_34) rfl ?_
    show Steps p.tables e below (T7.setTop (mkF m 35 #[.val (.int p1), .val (.int p2), .val (.int p3), .val (.int p4), .val (.int ((4 : Int32) + (p3 &&& (3 : Int32)))), .val (.ref b5), .unset] [(.int p1), (.int (2 : Int32)), (.ref b5)])) _
    refine XS.bipush X7.here hx rfl (hb hby at_35) ?_
    show Steps p.tables e below (T7.setTop (mkF m 37 #[.val (.int p1), .val (.int p2), .val (.int p3), .val (.int p4), .val (.int ((4 : Int32) + (p3 &&& (3 : Int32)))), .val (.ref b5), .unset] [(.int (8 : Int32)), (.int p1), (.int (2 : Int32)), (.ref b5)])) _
    refine XS.iushr X7.here hx rfl (hb hby at_37) rfl ?_
    show Steps p.tables e below (T7.setTop (mkF m 38 #[.val (.int p1), .val (.int p2), .val (.int p3), .val (.int p4), .val (.int ((4 : Int32) + (p3 &&& (3 : Int32)))), .val (.ref b5), .unset] [(.int ((p1.toUInt32 >>> ((8 : Int32) &&& 31).toUInt32).toInt32)), (.int (2 : Int32)), (.ref b5)])) _
    refine XS.i2b X7.here hx rfl (hb hby at_38) rfl ?_
    show Steps p.tables e below (T7.setTop (mkF m 39 #[.val (.int p1), .val (.int p2), .val (.int p3), .val (.int p4), .val (.int ((4 : Int32) + (p3 &&& (3 : Int32)))), .val (.ref b5), .unset] [(.int (((p1.toUInt32 >>> ((8 : Int32) &&& 31).toUInt32).toInt32).toInt8.toInt32)), (.int (2 : Int32)), (.ref b5)])) _
    refine st8 _ ?_
    show Steps p.tables e below (T8.setTop (mkF m 40 #[.val (.int p1), .val (.int p2), .val (.int p3), .val (.int p4), .val (.int ((4 : Int32) + (p3 &&& (3 : Int32)))), .val (.ref b5), .unset] [])) _
    refine XS.aload X8.here hx rfl (hb hby at_40) rfl rfl ?_
    show Steps p.tables e below (T8.setTop (mkF m 42 #[.val (.int p1), .val (.int p2), .val (.int p3), .val (.int p4), .val (.int ((4 : Int32) + (p3 &&& (3 : Int32)))), .val (.ref b5), .unset] [(.ref b5)])) _
    refine XS.iconst X8.here hx rfl (hb hby at_42) ?_
    show Steps p.tables e below (T8.setTop (mkF m 43 #[.val (.int p1), .val (.int p2), .val (.int p3), .val (.int p4), .val (.int ((4 : Int32) + (p3 &&& (3 : Int32)))), .val (.ref b5), .unset] [(.int (3 : Int32)), (.ref b5)])) _
    refine XS.iloadN X8.here hx rfl (hb hby at_43) rfl ?_
    show Steps p.tables e below (T8.setTop (mkF m 44 #[.val (.int p1), .val (.int p2), .val (.int p3), .val (.int p4), .val (.int ((4 : Int32) + (p3 &&& (3 : Int32)))), .val (.ref b5), .unset] [(.int p1), (.int (3 : Int32)), (.ref b5)])) _
    refine XS.i2b X8.here hx rfl (hb hby at_44) rfl ?_
    show Steps p.tables e below (T8.setTop (mkF m 45 #[.val (.int p1), .val (.int p2), .val (.int p3), .val (.int p4), .val (.int ((4 : Int32) + (p3 &&& (3 : Int32)))), .val (.ref b5), .unset] [(.int (p1.toInt8.toInt32)), (.int (3 : Int32)), (.ref b5)])) _
    refine st9 _ ?_
    show Steps p.tables e below (T9.setTop (mkF m 46 #[.val (.int p1), .val (.int p2), .val (.int p3), .val (.int p4), .val (.int ((4 : Int32) + (p3 &&& (3 : Int32)))), .val (.ref b5), .unset] [])) _
    refine XS.iload X9.here hx rfl (hb hby at_46) rfl ?_
    show Steps p.tables e below (T9.setTop (mkF m 48 #[.val (.int p1), .val (.int p2), .val (.int p3), .val (.int p4), .val (.int ((4 : Int32) + (p3 &&& (3 : Int32)))), .val (.ref b5), .unset] [(.int ((4 : Int32) + (p3 &&& (3 : Int32))))])) _
    refine XS.iconst X9.here hx rfl (hb hby at_48) ?_
    show Steps p.tables e below (T9.setTop (mkF m 49 #[.val (.int p1), .val (.int p2), .val (.int p3), .val (.int p4), .val (.int ((4 : Int32) + (p3 &&& (3 : Int32)))), .val (.ref b5), .unset] [(.int (4 : Int32)), (.int ((4 : Int32) + (p3 &&& (3 : Int32))))])) _
    refine XS.icmpNo X9.here hx rfl (hb hby at_49) rfl (tlt hc49).2.2.2 ?_
    show Steps p.tables e below (T9.setTop (mkF m 52 #[.val (.int p1), .val (.int p2), .val (.int p3), .val (.int p4), .val (.int ((4 : Int32) + (p3 &&& (3 : Int32)))), .val (.ref b5), .unset] [])) _
    refine XS.aload X9.here hx rfl (hb hby at_52) rfl rfl ?_
    show Steps p.tables e below (T9.setTop (mkF m 54 #[.val (.int p1), .val (.int p2), .val (.int p3), .val (.int p4), .val (.int ((4 : Int32) + (p3 &&& (3 : Int32)))), .val (.ref b5), .unset] [(.ref b5)])) _
    refine XS.iconst X9.here hx rfl (hb hby at_54) ?_
    show Steps p.tables e below (T9.setTop (mkF m 55 #[.val (.int p1), .val (.int p2), .val (.int p3), .val (.int p4), .val (.int ((4 : Int32) + (p3 &&& (3 : Int32)))), .val (.ref b5), .unset] [(.int (4 : Int32)), (.ref b5)])) _
    refine XS.iloadN X9.here hx rfl (hb hby at_55) rfl ?_
    show Steps p.tables e below (T9.setTop (mkF m 56 #[.val (.int p1), .val (.int p2), .val (.int p3), .val (.int p4), .val (.int ((4 : Int32) + (p3 &&& (3 : Int32)))), .val (.ref b5), .unset] [(.int p2), (.int (4 : Int32)), (.ref b5)])) _
    refine XS.i2b X9.here hx rfl (hb hby at_56) rfl ?_
    show Steps p.tables e below (T9.setTop (mkF m 57 #[.val (.int p1), .val (.int p2), .val (.int p3), .val (.int p4), .val (.int ((4 : Int32) + (p3 &&& (3 : Int32)))), .val (.ref b5), .unset] [(.int (p2.toInt8.toInt32)), (.int (4 : Int32)), (.ref b5)])) _
    refine st10 _ ?_
    show Steps p.tables e below (T10.setTop (mkF m 58 #[.val (.int p1), .val (.int p2), .val (.int p3), .val (.int p4), .val (.int ((4 : Int32) + (p3 &&& (3 : Int32)))), .val (.ref b5), .unset] [])) _
    refine XS.iload X10.here hx rfl (hb hby at_58) rfl ?_
    show Steps p.tables e below (T10.setTop (mkF m 60 #[.val (.int p1), .val (.int p2), .val (.int p3), .val (.int p4), .val (.int ((4 : Int32) + (p3 &&& (3 : Int32)))), .val (.ref b5), .unset] [(.int ((4 : Int32) + (p3 &&& (3 : Int32))))])) _
    refine XS.iconst X10.here hx rfl (hb hby at_60) ?_
    show Steps p.tables e below (T10.setTop (mkF m 61 #[.val (.int p1), .val (.int p2), .val (.int p3), .val (.int p4), .val (.int ((4 : Int32) + (p3 &&& (3 : Int32)))), .val (.ref b5), .unset] [(.int (5 : Int32)), (.int ((4 : Int32) + (p3 &&& (3 : Int32))))])) _
    refine XS.icmpNo X10.here hx rfl (hb hby at_61) rfl (tlt hc61).2.2.2 ?_
    show Steps p.tables e below (T10.setTop (mkF m 64 #[.val (.int p1), .val (.int p2), .val (.int p3), .val (.int p4), .val (.int ((4 : Int32) + (p3 &&& (3 : Int32)))), .val (.ref b5), .unset] [])) _
    refine XS.aload X10.here hx rfl (hb hby at_64) rfl rfl ?_
    show Steps p.tables e below (T10.setTop (mkF m 66 #[.val (.int p1), .val (.int p2), .val (.int p3), .val (.int p4), .val (.int ((4 : Int32) + (p3 &&& (3 : Int32)))), .val (.ref b5), .unset] [(.ref b5)])) _
    refine XS.iconst X10.here hx rfl (hb hby at_66) ?_
    show Steps p.tables e below (T10.setTop (mkF m 67 #[.val (.int p1), .val (.int p2), .val (.int p3), .val (.int p4), .val (.int ((4 : Int32) + (p3 &&& (3 : Int32)))), .val (.ref b5), .unset] [(.int (5 : Int32)), (.ref b5)])) _
    refine XS.iloadN X10.here hx rfl (hb hby at_67) rfl ?_
    show Steps p.tables e below (T10.setTop (mkF m 68 #[.val (.int p1), .val (.int p2), .val (.int p3), .val (.int p4), .val (.int ((4 : Int32) + (p3 &&& (3 : Int32)))), .val (.ref b5), .unset] [(.int p2), (.int (5 : Int32)), (.ref b5)])) _
    refine XS.bipush X10.here hx rfl (hb hby at_68) ?_
    show Steps p.tables e below (T10.setTop (mkF m 70 #[.val (.int p1), .val (.int p2), .val (.int p3), .val (.int p4), .val (.int ((4 : Int32) + (p3 &&& (3 : Int32)))), .val (.ref b5), .unset] [(.int (8 : Int32)), (.int p2), (.int (5 : Int32)), (.ref b5)])) _
    refine XS.iushr X10.here hx rfl (hb hby at_70) rfl ?_
    show Steps p.tables e below (T10.setTop (mkF m 71 #[.val (.int p1), .val (.int p2), .val (.int p3), .val (.int p4), .val (.int ((4 : Int32) + (p3 &&& (3 : Int32)))), .val (.ref b5), .unset] [(.int ((p2.toUInt32 >>> ((8 : Int32) &&& 31).toUInt32).toInt32)), (.int (5 : Int32)), (.ref b5)])) _
    refine XS.i2b X10.here hx rfl (hb hby at_71) rfl ?_
    show Steps p.tables e below (T10.setTop (mkF m 72 #[.val (.int p1), .val (.int p2), .val (.int p3), .val (.int p4), .val (.int ((4 : Int32) + (p3 &&& (3 : Int32)))), .val (.ref b5), .unset] [(.int (((p2.toUInt32 >>> ((8 : Int32) &&& 31).toUInt32).toInt32).toInt8.toInt32)), (.int (5 : Int32)), (.ref b5)])) _
    refine st11 _ ?_
    show Steps p.tables e below (T11.setTop (mkF m 73 #[.val (.int p1), .val (.int p2), .val (.int p3), .val (.int p4), .val (.int ((4 : Int32) + (p3 &&& (3 : Int32)))), .val (.ref b5), .unset] [])) _
    refine XS.iload X11.here hx rfl (hb hby at_73) rfl ?_
    show Steps p.tables e below (T11.setTop (mkF m 75 #[.val (.int p1), .val (.int p2), .val (.int p3), .val (.int p4), .val (.int ((4 : Int32) + (p3 &&& (3 : Int32)))), .val (.ref b5), .unset] [(.int ((4 : Int32) + (p3 &&& (3 : Int32))))])) _
    refine XS.bipush X11.here hx rfl (hb hby at_75) ?_
    show Steps p.tables e below (T11.setTop (mkF m 77 #[.val (.int p1), .val (.int p2), .val (.int p3), .val (.int p4), .val (.int ((4 : Int32) + (p3 &&& (3 : Int32)))), .val (.ref b5), .unset] [(.int (6 : Int32)), (.int ((4 : Int32) + (p3 &&& (3 : Int32))))])) _
    refine XS.icmpYes X11.here hx rfl (pc0 := 77) (pc' := 90) rfl (hb hby at_77) rfl (flt hc77).2.2.2 (by decide) (by decide) ?_
    show Steps p.tables e below (T11.setTop (mkF m 90 #[.val (.int p1), .val (.int p2), .val (.int p3), .val (.int p4), .val (.int ((4 : Int32) + (p3 &&& (3 : Int32)))), .val (.ref b5), .unset] [])) _
    refine st12 _ ?_
    show Steps p.tables e below (T12.setTop (mkF m 93 #[.val (.int p1), .val (.int p2), .val (.int p3), .val (.int p4), .val (.int ((4 : Int32) + (p3 &&& (3 : Int32)))), .val (.ref b5), .unset] [(.ref b12)])) _
    refine XS.dup X12.here hx rfl (hb hby at_93) rfl rfl ?_
    show Steps p.tables e below (T12.setTop (mkF m 94 #[.val (.int p1), .val (.int p2), .val (.int p3), .val (.int p4), .val (.int ((4 : Int32) + (p3 &&& (3 : Int32)))), .val (.ref b5), .unset] [(.ref b12), (.ref b12)])) _
    refine XS.iloadN X12.here hx rfl (hb hby at_94) rfl ?_
    show Steps p.tables e below (T12.setTop (mkF m 95 #[.val (.int p1), .val (.int p2), .val (.int p3), .val (.int p4), .val (.int ((4 : Int32) + (p3 &&& (3 : Int32)))), .val (.ref b5), .unset] [(.int p4), (.ref b12), (.ref b12)])) _
    refine XS.sipush X12.here hx rfl (hb hby at_95) ?_
    show Steps p.tables e below (T12.setTop (mkF m 98 #[.val (.int p1), .val (.int p2), .val (.int p3), .val (.int p4), .val (.int ((4 : Int32) + (p3 &&& (3 : Int32)))), .val (.ref b5), .unset] [(.int (255 : Int32)), (.int p4), (.ref b12), (.ref b12)])) _
    refine XS.iand X12.here hx rfl (hb hby at_98) rfl ?_
    show Steps p.tables e below (T12.setTop (mkF m 99 #[.val (.int p1), .val (.int p2), .val (.int p3), .val (.int p4), .val (.int ((4 : Int32) + (p3 &&& (3 : Int32)))), .val (.ref b5), .unset] [(.int (p4 &&& (255 : Int32))), (.ref b12), (.ref b12)])) _
    refine XS.i2c X12.here hx rfl (hb hby at_99) rfl ?_
    show Steps p.tables e below (T12.setTop (mkF m 100 #[.val (.int p1), .val (.int p2), .val (.int p3), .val (.int p4), .val (.int ((4 : Int32) + (p3 &&& (3 : Int32)))), .val (.ref b5), .unset] [(.int ((p4 &&& (255 : Int32)).toUInt32.toUInt16.toUInt32.toInt32)), (.ref b12), (.ref b12)])) _
    refine XS.aload X12.here hx rfl (hb hby at_100) rfl rfl ?_
    show Steps p.tables e below (T12.setTop (mkF m 102 #[.val (.int p1), .val (.int p2), .val (.int p3), .val (.int p4), .val (.int ((4 : Int32) + (p3 &&& (3 : Int32)))), .val (.ref b5), .unset] [(.ref b5), (.int ((p4 &&& (255 : Int32)).toUInt32.toUInt16.toUInt32.toInt32)), (.ref b12), (.ref b12)])) _
    refine st13.trans ?_
    show Steps p.tables e below (T13.setTop (mkF m 105 #[.val (.int p1), .val (.int p2), .val (.int p3), .val (.int p4), .val (.int ((4 : Int32) + (p3 &&& (3 : Int32)))), .val (.ref b5), .unset] [(.ref b12)])) _
    refine XS.astore X13.here hx rfl (hb hby at_105) rfl rfl (l' := #[.val (.int p1), .val (.int p2), .val (.int p3), .val (.int p4), .val (.int ((4 : Int32) + (p3 &&& (3 : Int32)))), .val (.ref b5), .val (.ref b12)]) rfl ?_
    show Steps p.tables e below (T13.setTop (mkF m 107 #[.val (.int p1), .val (.int p2), .val (.int p3), .val (.int p4), .val (.int ((4 : Int32) + (p3 &&& (3 : Int32)))), .val (.ref b5), .val (.ref b12)] [])) _
    refine XS.aload X13.here hx rfl (hb hby at_107) rfl rfl ?_
    show Steps p.tables e below (T13.setTop (mkF m 109 #[.val (.int p1), .val (.int p2), .val (.int p3), .val (.int p4), .val (.int ((4 : Int32) + (p3 &&& (3 : Int32)))), .val (.ref b5), .val (.ref b12)] [(.ref b12)])) _
    refine st14.trans ?_
    show Steps p.tables e below (T14.setTop (mkF m 112 #[.val (.int p1), .val (.int p2), .val (.int p3), .val (.int p4), .val (.int ((4 : Int32) + (p3 &&& (3 : Int32)))), .val (.ref b5), .val (.ref b12)] [(.int ((((((nar .byte (((p1.toUInt32 >>> ((24 : Int32) &&& 31).toUInt32).toInt32).toInt8.toInt32)) &&& (255 : Int32)) <<< ((24 : Int32) &&& 31)) ||| (((nar .byte (((p1.toUInt32 >>> ((16 : Int32) &&& 31).toUInt32).toInt32).toInt8.toInt32)) &&& (255 : Int32)) <<< ((16 : Int32) &&& 31))) ||| (((nar .byte (((p1.toUInt32 >>> ((8 : Int32) &&& 31).toUInt32).toInt32).toInt8.toInt32)) &&& (255 : Int32)) <<< ((8 : Int32) &&& 31))) ||| ((nar .byte (p1.toInt8.toInt32)) &&& (255 : Int32))))])) _
    refine XS.iloadN X14.here hx rfl (hb hby at_112) rfl ?_
    show Steps p.tables e below (T14.setTop (mkF m 113 #[.val (.int p1), .val (.int p2), .val (.int p3), .val (.int p4), .val (.int ((4 : Int32) + (p3 &&& (3 : Int32)))), .val (.ref b5), .val (.ref b12)] [(.int p1), (.int ((((((nar .byte (((p1.toUInt32 >>> ((24 : Int32) &&& 31).toUInt32).toInt32).toInt8.toInt32)) &&& (255 : Int32)) <<< ((24 : Int32) &&& 31)) ||| (((nar .byte (((p1.toUInt32 >>> ((16 : Int32) &&& 31).toUInt32).toInt32).toInt8.toInt32)) &&& (255 : Int32)) <<< ((16 : Int32) &&& 31))) ||| (((nar .byte (((p1.toUInt32 >>> ((8 : Int32) &&& 31).toUInt32).toInt32).toInt8.toInt32)) &&& (255 : Int32)) <<< ((8 : Int32) &&& 31))) ||| ((nar .byte (p1.toInt8.toInt32)) &&& (255 : Int32))))])) _
    refine XS.icmpNo X14.here hx rfl (hb hby at_113) rfl (teq (own_pack p1 : ((((((nar .byte (((p1.toUInt32 >>> ((24 : Int32) &&& 31).toUInt32).toInt32).toInt8.toInt32)) &&& (255 : Int32)) <<< ((24 : Int32) &&& 31)) ||| (((nar .byte (((p1.toUInt32 >>> ((16 : Int32) &&& 31).toUInt32).toInt32).toInt8.toInt32)) &&& (255 : Int32)) <<< ((16 : Int32) &&& 31))) ||| (((nar .byte (((p1.toUInt32 >>> ((8 : Int32) &&& 31).toUInt32).toInt32).toInt8.toInt32)) &&& (255 : Int32)) <<< ((8 : Int32) &&& 31))) ||| ((nar .byte (p1.toInt8.toInt32)) &&& (255 : Int32))) = p1)).2 ?_
    show Steps p.tables e below (T14.setTop (mkF m 116 #[.val (.int p1), .val (.int p2), .val (.int p3), .val (.int p4), .val (.int ((4 : Int32) + (p3 &&& (3 : Int32)))), .val (.ref b5), .val (.ref b12)] [])) _
    refine XS.iconst X14.here hx rfl (hb hby at_116) ?_
    show Steps p.tables e below (T14.setTop (mkF m 117 #[.val (.int p1), .val (.int p2), .val (.int p3), .val (.int p4), .val (.int ((4 : Int32) + (p3 &&& (3 : Int32)))), .val (.ref b5), .val (.ref b12)] [(.int (1 : Int32))])) _
    refine XS.goto X14.here hx rfl (pc0 := 117) (pc' := 121) rfl (hb hby at_117) (by decide) (by decide) ?_
    show Steps p.tables e below (T14.setTop (mkF m 121 #[.val (.int p1), .val (.int p2), .val (.int p3), .val (.int p4), .val (.int ((4 : Int32) + (p3 &&& (3 : Int32)))), .val (.ref b5), .val (.ref b12)] [(.int (1 : Int32))])) _
    exact retN X14 hx (t := .boolean) Bd.returns (by simp) (hb hby at_121) hr
  · show Q0 Z p1 p2 p3 p4 h0 n0 _ T14.heap _
    exact ⟨rfl, N14⟩
set_option maxRecDepth 65536 in
set_option maxHeartbeats 40000000 in
theorem rm0_fff (l : Launch) (Z : State) (a0 : Array Value) (hw : ∀ d ∈ tables_1, d.before a0 Z = true) (ws : List Jvm.Cond) (p1 : Int32) (p2 : Int32) (p3 : Int32) (p4 : Int32) (h0 : Heap) (n0 : Nat) (Z0 : n0 ≤ h0.size) (hc49 : (4 : Int32) < ((4 : Int32) + (p3 &&& (3 : Int32)))) (hc61 : (5 : Int32) < ((4 : Int32) + (p3 &&& (3 : Int32)))) (hc77 : (6 : Int32) < ((4 : Int32) + (p3 &&& (3 : Int32)))) :
    MetFree l x (head1 (Jvm.Cond.code x code maxLocals ret :: ws) room_1) (fun a U => a = #[(.int p1), (.int p2), (.int p3), (.int p4)] ∧ Z.Warmed39 U.vm ∧ U.heap = h0) (fun _ _ _ _ _ => True) (fun _ U o U' => ∃ v L, o = .returned v ∧ Q0 Z p1 p2 p3 p4 h0 n0 v U'.heap L ∧ FrameEnd U o U' L room_1.cells room_1.slots) := by
  refine MetFree.of_bodySF (plainFor_of_name pn_0) hisR ?_
  intro p e s m args below meth c s₁ Bd hml0 hP hK
  obtain ⟨rfl, hZ, hh⟩ := hP
  have hx := Bd.exec
  have hby := Bd.bytes
  have hml : c.maxLocals = 7 := hml0
  have hown : s.vm.findClass "com/example/varuna/varuna/MessageLeadingInt32PinLaw" = some m.cls := findClass_of_methodNamed Bd.named
  have hnm := (name_of_methodNamed Bd.named Bd.method).1
  have X0 : Stand p l e room_1 s m #[(.int p1), (.int p2), (.int p3), (.int p4)] below meth c s₁ [] 0 0 := Stand.of_body Bd
  have e0 : s₁.heap = h0 := by rw [← hh, Bd.state]; rfl
  have N0 := Fr.nil n0
  obtain ⟨Hz0, Hz1, H0, H1, H2, H3, H4⟩ := own_z p3
  have pre0 : ∀ t, Steps p.tables e below (s₁.setTop (mkF m 0 #[.val (.int p1), .val (.int p2), .val (.int p3), .val (.int p4), .unset, .unset, .unset] [])) t → Steps p.tables e below (s₁.setTop (entryFrame m #[(.int p1), (.int p2), (.int p3), (.int p4)] maxLocals)) t := fun t k => castTop (ef_0 m p1 p2 p3 p4) k
  obtain ⟨T5, h5, k5, X5, e5, E5, A5, st5⟩ := newP X0 hx hZ (hw _ (List.mem_of_getElem? (i := 0) rfl)) e0 (g := (mkF m 9 #[.val (.int p1), .val (.int p2), .val (.int p3), .val (.int p4), .val (.int ((4 : Int32) + (p3 &&& (3 : Int32)))), .unset, .unset] [(.int ((4 : Int32) + (p3 &&& (3 : Int32))))])) rfl (hb hby at_9) rfl Hz0 (cap := 7) Hz1 (by decide) (by decide) (by decide)
  obtain ⟨b5, g5⟩ : ∃ z, z = h0.size := ⟨_, rfl⟩
  rw [← g5] at A5 st5
  have V_b5 := Arv.new A5 Hz0
  have V_b5 : Arv Z h5 b5 k5 .byte ((4 : Int32) + (p3 &&& (3 : Int32))) [(.int (0 : Int32)), (.int (0 : Int32)), (.int (0 : Int32)), (.int (0 : Int32)), (.int (0 : Int32)), (.int (0 : Int32)), (.int (0 : Int32))] (.int (0 : Int32)) := V_b5.pad (pad_rep [] (.int (0 : Int32)) 7)
  have g_b5 : n0 ≤ b5 := Nat.le_trans Z0 (Nat.le_of_eq g5.symm)
  have sz_b5 : h0.size ≤ b5 := (Nat.le_trans (Keep.refl h0 []).1 (Nat.le_of_eq g5.symm))
  have K5 : Keep h0 h5 [] := (Keep.refl h0 []).ext E5
  obtain ⟨cl_b5_21, Ar_b5, q_b5, S_b5, N_b5, H_b5, G_b5⟩ := V_b5
  have hin21 : ¬ ((0 : Int32) < 0 ∨ cl_b5_21.slots.size ≤ ((0 : Int32)).toNatClampNeg) := inb_of S_b5 ⟨by decide, H0⟩
  obtain ⟨T6, h6, X6, e6, W6, st6⟩ := stB X5 hx hZ e5 Ar_b5 (j := (0 : Int32)) hin21 (g := (mkF m 21 #[.val (.int p1), .val (.int p2), .val (.int p3), .val (.int p4), .val (.int ((4 : Int32) + (p3 &&& (3 : Int32)))), .val (.ref b5), .unset] [(.int (((p1.toUInt32 >>> ((24 : Int32) &&& 31).toUInt32).toInt32).toInt8.toInt32)), (.int (0 : Int32)), (.ref b5)])) rfl rfl (hb hby at_21)
  have V_b5_6 := Arv.set Ar_b5 q_b5 S_b5 N_b5 H_b5 G_b5 (fits_nar_byte _) W6 0 rfl (Nat.le_of_ble_eq_true rfl)
  have K6 : Keep h0 h6 [] := K5.wr W6 (Or.inr sz_b5)
  have N6 := Fr.snoc X6 N0 g_b5
  obtain ⟨cl_b5_30, Ar_b5, q_b5, S_b5, N_b5, H_b5, G_b5⟩ := V_b5_6
  have hin30 : ¬ ((1 : Int32) < 0 ∨ cl_b5_30.slots.size ≤ ((1 : Int32)).toNatClampNeg) := inb_of S_b5 ⟨by decide, H1⟩
  obtain ⟨T7, h7, X7, e7, W7, st7⟩ := stB X6 hx hZ e6 Ar_b5 (j := (1 : Int32)) hin30 (g := (mkF m 30 #[.val (.int p1), .val (.int p2), .val (.int p3), .val (.int p4), .val (.int ((4 : Int32) + (p3 &&& (3 : Int32)))), .val (.ref b5), .unset] [(.int (((p1.toUInt32 >>> ((16 : Int32) &&& 31).toUInt32).toInt32).toInt8.toInt32)), (.int (1 : Int32)), (.ref b5)])) rfl rfl (hb hby at_30)
  have V_b5_7 := Arv.set Ar_b5 q_b5 S_b5 N_b5 H_b5 G_b5 (fits_nar_byte _) W7 1 rfl (Nat.le_of_ble_eq_true rfl)
  have K7 : Keep h0 h7 [] := K6.wr W7 (Or.inr sz_b5)
  have N7 := Fr.snoc X7 N6 g_b5
  obtain ⟨cl_b5_39, Ar_b5, q_b5, S_b5, N_b5, H_b5, G_b5⟩ := V_b5_7
  have hin39 : ¬ ((2 : Int32) < 0 ∨ cl_b5_39.slots.size ≤ ((2 : Int32)).toNatClampNeg) := inb_of S_b5 ⟨by decide, H2⟩
  obtain ⟨T8, h8, X8, e8, W8, st8⟩ := stB X7 hx hZ e7 Ar_b5 (j := (2 : Int32)) hin39 (g := (mkF m 39 #[.val (.int p1), .val (.int p2), .val (.int p3), .val (.int p4), .val (.int ((4 : Int32) + (p3 &&& (3 : Int32)))), .val (.ref b5), .unset] [(.int (((p1.toUInt32 >>> ((8 : Int32) &&& 31).toUInt32).toInt32).toInt8.toInt32)), (.int (2 : Int32)), (.ref b5)])) rfl rfl (hb hby at_39)
  have V_b5_8 := Arv.set Ar_b5 q_b5 S_b5 N_b5 H_b5 G_b5 (fits_nar_byte _) W8 2 rfl (Nat.le_of_ble_eq_true rfl)
  have K8 : Keep h0 h8 [] := K7.wr W8 (Or.inr sz_b5)
  have N8 := Fr.snoc X8 N7 g_b5
  obtain ⟨cl_b5_45, Ar_b5, q_b5, S_b5, N_b5, H_b5, G_b5⟩ := V_b5_8
  have hin45 : ¬ ((3 : Int32) < 0 ∨ cl_b5_45.slots.size ≤ ((3 : Int32)).toNatClampNeg) := inb_of S_b5 ⟨by decide, H3⟩
  obtain ⟨T9, h9, X9, e9, W9, st9⟩ := stB X8 hx hZ e8 Ar_b5 (j := (3 : Int32)) hin45 (g := (mkF m 45 #[.val (.int p1), .val (.int p2), .val (.int p3), .val (.int p4), .val (.int ((4 : Int32) + (p3 &&& (3 : Int32)))), .val (.ref b5), .unset] [(.int (p1.toInt8.toInt32)), (.int (3 : Int32)), (.ref b5)])) rfl rfl (hb hby at_45)
  have V_b5_9 := Arv.set Ar_b5 q_b5 S_b5 N_b5 H_b5 G_b5 (fits_nar_byte _) W9 3 rfl (Nat.le_of_ble_eq_true rfl)
  have K9 : Keep h0 h9 [] := K8.wr W9 (Or.inr sz_b5)
  have N9 := Fr.snoc X9 N8 g_b5
  obtain ⟨cl_b5_57, Ar_b5, q_b5, S_b5, N_b5, H_b5, G_b5⟩ := V_b5_9
  have hin57 : ¬ ((4 : Int32) < 0 ∨ cl_b5_57.slots.size ≤ ((4 : Int32)).toNatClampNeg) := inb_of S_b5 ⟨by decide, hc49⟩
  obtain ⟨T10, h10, X10, e10, W10, st10⟩ := stB X9 hx hZ e9 Ar_b5 (j := (4 : Int32)) hin57 (g := (mkF m 57 #[.val (.int p1), .val (.int p2), .val (.int p3), .val (.int p4), .val (.int ((4 : Int32) + (p3 &&& (3 : Int32)))), .val (.ref b5), .unset] [(.int (p2.toInt8.toInt32)), (.int (4 : Int32)), (.ref b5)])) rfl rfl (hb hby at_57)
  have V_b5_10 := Arv.set Ar_b5 q_b5 S_b5 N_b5 H_b5 G_b5 (fits_nar_byte _) W10 4 rfl (Nat.le_of_ble_eq_true rfl)
  have K10 : Keep h0 h10 [] := K9.wr W10 (Or.inr sz_b5)
  have N10 := Fr.snoc X10 N9 g_b5
  obtain ⟨cl_b5_72, Ar_b5, q_b5, S_b5, N_b5, H_b5, G_b5⟩ := V_b5_10
  have hin72 : ¬ ((5 : Int32) < 0 ∨ cl_b5_72.slots.size ≤ ((5 : Int32)).toNatClampNeg) := inb_of S_b5 ⟨by decide, hc61⟩
  obtain ⟨T11, h11, X11, e11, W11, st11⟩ := stB X10 hx hZ e10 Ar_b5 (j := (5 : Int32)) hin72 (g := (mkF m 72 #[.val (.int p1), .val (.int p2), .val (.int p3), .val (.int p4), .val (.int ((4 : Int32) + (p3 &&& (3 : Int32)))), .val (.ref b5), .unset] [(.int (((p2.toUInt32 >>> ((8 : Int32) &&& 31).toUInt32).toInt32).toInt8.toInt32)), (.int (5 : Int32)), (.ref b5)])) rfl rfl (hb hby at_72)
  have V_b5_11 := Arv.set Ar_b5 q_b5 S_b5 N_b5 H_b5 G_b5 (fits_nar_byte _) W11 5 rfl (Nat.le_of_ble_eq_true rfl)
  have K11 : Keep h0 h11 [] := K10.wr W11 (Or.inr sz_b5)
  have N11 := Fr.snoc X11 N10 g_b5
  obtain ⟨cl_b5_89, Ar_b5, q_b5, S_b5, N_b5, H_b5, G_b5⟩ := V_b5_11
  have hin89 : ¬ ((6 : Int32) < 0 ∨ cl_b5_89.slots.size ≤ ((6 : Int32)).toNatClampNeg) := inb_of S_b5 ⟨by decide, hc77⟩
  obtain ⟨T12, h12, X12, e12, W12, st12⟩ := stB X11 hx hZ e11 Ar_b5 (j := (6 : Int32)) hin89 (g := (mkF m 89 #[.val (.int p1), .val (.int p2), .val (.int p3), .val (.int p4), .val (.int ((4 : Int32) + (p3 &&& (3 : Int32)))), .val (.ref b5), .unset] [(.int (((p2.toUInt32 >>> ((16 : Int32) &&& 31).toUInt32).toInt32).toInt8.toInt32)), (.int (6 : Int32)), (.ref b5)])) rfl rfl (hb hby at_89)
  have V_b5_12 := Arv.set Ar_b5 q_b5 S_b5 N_b5 H_b5 G_b5 (fits_nar_byte _) W12 6 rfl (Nat.le_of_ble_eq_true rfl)
  have K12 : Keep h0 h12 [] := K11.wr W12 (Or.inr sz_b5)
  have N12 := Fr.snoc X12 N11 g_b5
  obtain ⟨T13, h13, X13, e13, E13, A13, D13, -, st13⟩ := newO X12 hx hZ hown (hw _ (List.mem_of_getElem? (i := 1) rfl)) (hw _ (List.mem_of_getElem? (i := 2) rfl)) (hw _ (List.mem_of_getElem? (i := 3) rfl)) e12 (g := (mkF m 90 #[.val (.int p1), .val (.int p2), .val (.int p3), .val (.int p4), .val (.int ((4 : Int32) + (p3 &&& (3 : Int32)))), .val (.ref b5), .unset] [])) rfl (hb hby at_90) (by decide) (by decide)
  obtain ⟨b13, g13⟩ : ∃ z, z = h12.size := ⟨_, rfl⟩
  rw [← g13] at A13 D13 st13
  have F_type_b13 : Fld Z h13 b13 "com/example/varuna/varuna/Message" "type" "C" (.int (0 : Int32)) := D13 (Or.inr (hw _ (List.mem_of_getElem? (i := 11) rfl))) (ty := .char) (by decide)
  have F_body_b13 : Fld Z h13 b13 "com/example/varuna/varuna/Message" "body" "[B" .null := D13 (Or.inr (hw _ (List.mem_of_getElem? (i := 13) rfl))) (ty := (.array .byte)) (by decide)
  have E_b13 := A13
  have g_b13 : n0 ≤ b13 := Nat.le_trans (Nat.le_trans (Nat.le_trans (Nat.le_trans (Nat.le_trans (Nat.le_trans (Nat.le_trans (Nat.le_trans (Nat.le_trans Z0 E5.1) (Keep.of_wr W6).1) (Keep.of_wr W7).1) (Keep.of_wr W8).1) (Keep.of_wr W9).1) (Keep.of_wr W10).1) (Keep.of_wr W11).1) (Keep.of_wr W12).1) (Nat.le_of_eq g13.symm)
  have sz_b13 : h0.size ≤ b13 := (Nat.le_trans K12.1 (Nat.le_of_eq g13.symm))
  have K13 : Keep h0 h13 [] := K12.ext E13
  obtain ⟨_, _, ⟨T14, L14, k14, n14⟩, -, X14, ⟨Lc14, hQ14, l14, y14, z14⟩, st14⟩ := X13.specialBack hx (y := (⟨"com/example/varuna/varuna/Message", "<init>", "(C[B)V"⟩ : MethodName)) rfl hown (mvT hZ (hw _ (List.mem_of_getElem? (i := 4) rfl))) (mvT hZ (hw _ (List.mem_of_getElem? (i := 5) rfl))) (mvT hZ (hw _ (List.mem_of_getElem? (i := 6) rfl))) (by decide) (backOf (W := 1) (rm1 l Z a0 hw [] b13 ((p4 &&& (255 : Int32)).toUInt32.toUInt16.toUInt32.toInt32) b5 (.int (0 : Int32)) .null h13 n0 (Nat.le_trans Z0 K13.1) E_b13 F_type_b13 g_b13 F_body_b13) hZ (hw _ (List.mem_of_getElem? (i := 6) rfl)) (hw _ (List.mem_of_getElem? (i := 3) rfl)) (by decide) (by decide)) (g := (mkF m 102 #[.val (.int p1), .val (.int p2), .val (.int p3), .val (.int p4), .val (.int ((4 : Int32) + (p3 &&& (3 : Int32)))), .val (.ref b5), .unset] [(.ref b5), (.int ((p4 &&& (255 : Int32)).toUInt32.toUInt16.toUInt32.toInt32)), (.ref b13), (.ref b13)])) rfl (by rw [hml]; rfl) (Steps.refl _) (a := b13) (argsL := [(.int ((p4 &&& (255 : Int32)).toUInt32.toUInt16.toUInt32.toInt32)), (.ref b5)]) (rest := [(.ref b13)]) (lenOf pd_0_0 rfl) rfl (by show 2 * 0 + _ ≤ _; exact Nat.le_of_eq rfl) (hb hby at_102) (fun _ _ => ⟨rfl, e13, (by decide : 2 + 0 ≤ _), (by decide : 9 + 0 ≤ _)⟩)
  dsimp only [Pt.U, Pt.locs, Pt.cells, Pt.slots] at X14 l14 y14 z14 st14 hQ14
  subst l14 y14 z14
  obtain ⟨rfl, N14q, K14, Ex14, Ft14, Fb14⟩ := hQ14
  have N14 := Fr.app N12 N14q
  have VF := (V_b5_12.ext E13).keep K14 (ninS (Nat.ne_of_lt (by rw [g13]; exact V_b5_12.lt)) nin0)
  obtain ⟨clF, ArF, qF, SF, NF, HF, GF⟩ := VF
  have i0 : ¬ ((0 : Int32) < 0 ∨ clF.slots.size ≤ ((0 : Int32)).toNatClampNeg) := inb_of SF ⟨by decide, H0⟩
  have i1 : ¬ ((1 : Int32) < 0 ∨ clF.slots.size ≤ ((1 : Int32)).toNatClampNeg) := inb_of SF ⟨by decide, H1⟩
  have i2 : ¬ ((2 : Int32) < 0 ∨ clF.slots.size ≤ ((2 : Int32)).toNatClampNeg) := inb_of SF ⟨by decide, H2⟩
  have i3 : ¬ ((3 : Int32) < 0 ∨ clF.slots.size ≤ ((3 : Int32)).toNatClampNeg) := inb_of SF ⟨by decide, H3⟩
  obtain ⟨cq15, kq15, q15a, q15b, q15c⟩ := isOf hZ rfl (E_b13.keep K14)
  obtain ⟨_, _, ⟨T15, L15, k15, n15⟩, -, X15, ⟨Lc15, hQ15, l15, y15, z15⟩, st15⟩ := X14.virtualBack hx (y := (⟨"com/example/varuna/varuna/Message", "leadingInt32", "()I"⟩ : MethodName)) (z := (⟨"com/example/varuna/varuna/Message", "leadingInt32", "()I"⟩ : MethodName)) hown (mvT hZ (hw _ (List.mem_of_getElem? (i := 14) rfl))) (mvT hZ (hw _ (List.mem_of_getElem? (i := 15) rfl))) (notFace_of_selects (args := #[]) (mvT hZ (hw _ (List.mem_of_getElem? (i := 17) rfl)))) (mvT hZ (hw _ (List.mem_of_getElem? (i := 17) rfl))) (mvT hZ (hw _ (List.mem_of_getElem? (i := 16) rfl))) (by decide) (backOf (W := 0) (rm3 l Z a0 hw [] b13 b5 clF ((4 : Int32) + (p3 &&& (3 : Int32))) (nar .byte (((p1.toUInt32 >>> ((24 : Int32) &&& 31).toUInt32).toInt32).toInt8.toInt32)) (nar .byte (((p1.toUInt32 >>> ((16 : Int32) &&& 31).toUInt32).toInt32).toInt8.toInt32)) (nar .byte (((p1.toUInt32 >>> ((8 : Int32) &&& 31).toUInt32).toInt32).toInt8.toInt32)) (nar .byte (p1.toInt8.toInt32)) T14.heap n0 (Nat.le_trans (Nat.le_trans Z0 K13.1) K14.1) Fb14 ArF SF NF i0 (HF.at i0 rfl) i1 (HF.at i1 rfl) i2 (HF.at i2 rfl) i3 (HF.at i3 rfl) H4) hZ (hw _ (List.mem_of_getElem? (i := 18) rfl)) (hw _ (List.mem_of_getElem? (i := 3) rfl)) (by decide) (by decide)) q15a q15c (g := (mkF m 109 #[.val (.int p1), .val (.int p2), .val (.int p3), .val (.int p4), .val (.int ((4 : Int32) + (p3 &&& (3 : Int32)))), .val (.ref b5), .val (.ref b13)] [(.ref b13)])) rfl (by rw [hml]; rfl) (Steps.refl _) (argsL := []) (rest := []) (lenOf pd_0_2 rfl) rfl (by show 2 * 0 + _ ≤ _; exact Nat.le_of_eq rfl) (hb hby at_109) (fun _ _ => ⟨rfl, rfl, (by decide : 2 + 0 ≤ _), (by decide : 9 + 0 ≤ _)⟩)
  dsimp only [Pt.U, Pt.locs, Pt.cells, Pt.slots] at X15 l15 y15 z15 st15 hQ15
  subst l15 y15 z15
  obtain ⟨rfl, N15q, e15⟩ := hQ15
  have N15 := Fr.app N14 N15q
  obtain ⟨fs, hr, hrun, hended, hW, hsame⟩ := X15.leave (v := some (.int (1 : Int32))) (fun h => by rw [Bd.returns] at h; cases h)
  refine ⟨_, _, pre0 _ ?_, hrun, hended, _, _, rfl, ?_, ⟨_, rfl⟩, hW, hsame.mono (by decide) (by decide)⟩
  · show Steps p.tables e below (s₁.setTop (mkF m 0 #[.val (.int p1), .val (.int p2), .val (.int p3), .val (.int p4), .unset, .unset, .unset] [])) _
    refine XS.iconst X0.here hx rfl (hb hby at_0) ?_
    show Steps p.tables e below (s₁.setTop (mkF m 1 #[.val (.int p1), .val (.int p2), .val (.int p3), .val (.int p4), .unset, .unset, .unset] [(.int (4 : Int32))])) _
    refine XS.iloadN X0.here hx rfl (hb hby at_1) rfl ?_
    show Steps p.tables e below (s₁.setTop (mkF m 2 #[.val (.int p1), .val (.int p2), .val (.int p3), .val (.int p4), .unset, .unset, .unset] [(.int p3), (.int (4 : Int32))])) _
    refine XS.iconst X0.here hx rfl (hb hby at_2) ?_
    show Steps p.tables e below (s₁.setTop (mkF m 3 #[.val (.int p1), .val (.int p2), .val (.int p3), .val (.int p4), .unset, .unset, .unset] [(.int (3 : Int32)), (.int p3), (.int (4 : Int32))])) _
    refine XS.iand X0.here hx rfl (hb hby at_3) rfl ?_
    show Steps p.tables e below (s₁.setTop (mkF m 4 #[.val (.int p1), .val (.int p2), .val (.int p3), .val (.int p4), .unset, .unset, .unset] [(.int (p3 &&& (3 : Int32))), (.int (4 : Int32))])) _
    refine XS.iadd X0.here hx rfl (hb hby at_4) rfl ?_
    show Steps p.tables e below (s₁.setTop (mkF m 5 #[.val (.int p1), .val (.int p2), .val (.int p3), .val (.int p4), .unset, .unset, .unset] [(.int ((4 : Int32) + (p3 &&& (3 : Int32))))])) _
    refine XS.istore X0.here hx rfl (hb hby at_5) rfl (l' := #[.val (.int p1), .val (.int p2), .val (.int p3), .val (.int p4), .val (.int ((4 : Int32) + (p3 &&& (3 : Int32)))), .unset, .unset]) rfl ?_
    show Steps p.tables e below (s₁.setTop (mkF m 7 #[.val (.int p1), .val (.int p2), .val (.int p3), .val (.int p4), .val (.int ((4 : Int32) + (p3 &&& (3 : Int32)))), .unset, .unset] [])) _
    refine XS.iload X0.here hx rfl (hb hby at_7) rfl ?_
    show Steps p.tables e below (s₁.setTop (mkF m 9 #[.val (.int p1), .val (.int p2), .val (.int p3), .val (.int p4), .val (.int ((4 : Int32) + (p3 &&& (3 : Int32)))), .unset, .unset] [(.int ((4 : Int32) + (p3 &&& (3 : Int32))))])) _
    refine st5 _ ?_
    show Steps p.tables e below (T5.setTop (mkF m 11 #[.val (.int p1), .val (.int p2), .val (.int p3), .val (.int p4), .val (.int ((4 : Int32) + (p3 &&& (3 : Int32)))), .unset, .unset] [(.ref b5)])) _
    refine XS.astore X5.here hx rfl (hb hby at_11) rfl rfl (l' := #[.val (.int p1), .val (.int p2), .val (.int p3), .val (.int p4), .val (.int ((4 : Int32) + (p3 &&& (3 : Int32)))), .val (.ref b5), .unset]) rfl ?_
    show Steps p.tables e below (T5.setTop (mkF m 13 #[.val (.int p1), .val (.int p2), .val (.int p3), .val (.int p4), .val (.int ((4 : Int32) + (p3 &&& (3 : Int32)))), .val (.ref b5), .unset] [])) _
    refine XS.aload X5.here hx rfl (hb hby at_13) rfl rfl ?_
    show Steps p.tables e below (T5.setTop (mkF m 15 #[.val (.int p1), .val (.int p2), .val (.int p3), .val (.int p4), .val (.int ((4 : Int32) + (p3 &&& (3 : Int32)))), .val (.ref b5), .unset] [(.ref b5)])) _
    refine XS.iconst X5.here hx rfl (hb hby at_15) ?_
    show Steps p.tables e below (T5.setTop (mkF m 16 #[.val (.int p1), .val (.int p2), .val (.int p3), .val (.int p4), .val (.int ((4 : Int32) + (p3 &&& (3 : Int32)))), .val (.ref b5), .unset] [(.int (0 : Int32)), (.ref b5)])) _
    refine XS.iloadN X5.here hx rfl (hb hby at_16) rfl ?_
    show Steps p.tables e below (T5.setTop (mkF m 17 #[.val (.int p1), .val (.int p2), .val (.int p3), .val (.int p4), .val (.int ((4 : Int32) + (p3 &&& (3 : Int32)))), .val (.ref b5), .unset] [(.int p1), (.int (0 : Int32)), (.ref b5)])) _
    refine XS.bipush X5.here hx rfl (hb hby at_17) ?_
    show Steps p.tables e below (T5.setTop (mkF m 19 #[.val (.int p1), .val (.int p2), .val (.int p3), .val (.int p4), .val (.int ((4 : Int32) + (p3 &&& (3 : Int32)))), .val (.ref b5), .unset] [(.int (24 : Int32)), (.int p1), (.int (0 : Int32)), (.ref b5)])) _
    refine XS.iushr X5.here hx rfl (hb hby at_19) rfl ?_
    show Steps p.tables e below (T5.setTop (mkF m 20 #[.val (.int p1), .val (.int p2), .val (.int p3), .val (.int p4), .val (.int ((4 : Int32) + (p3 &&& (3 : Int32)))), .val (.ref b5), .unset] [(.int ((p1.toUInt32 >>> ((24 : Int32) &&& 31).toUInt32).toInt32)), (.int (0 : Int32)), (.ref b5)])) _
    refine XS.i2b X5.here hx rfl (hb hby at_20) rfl ?_
    show Steps p.tables e below (T5.setTop (mkF m 21 #[.val (.int p1), .val (.int p2), .val (.int p3), .val (.int p4), .val (.int ((4 : Int32) + (p3 &&& (3 : Int32)))), .val (.ref b5), .unset] [(.int (((p1.toUInt32 >>> ((24 : Int32) &&& 31).toUInt32).toInt32).toInt8.toInt32)), (.int (0 : Int32)), (.ref b5)])) _
    refine st6 _ ?_
    show Steps p.tables e below (T6.setTop (mkF m 22 #[.val (.int p1), .val (.int p2), .val (.int p3), .val (.int p4), .val (.int ((4 : Int32) + (p3 &&& (3 : Int32)))), .val (.ref b5), .unset] [])) _
    refine XS.aload X6.here hx rfl (hb hby at_22) rfl rfl ?_
    show Steps p.tables e below (T6.setTop (mkF m 24 #[.val (.int p1), .val (.int p2), .val (.int p3), .val (.int p4), .val (.int ((4 : Int32) + (p3 &&& (3 : Int32)))), .val (.ref b5), .unset] [(.ref b5)])) _
    refine XS.iconst X6.here hx rfl (hb hby at_24) ?_
    show Steps p.tables e below (T6.setTop (mkF m 25 #[.val (.int p1), .val (.int p2), .val (.int p3), .val (.int p4), .val (.int ((4 : Int32) + (p3 &&& (3 : Int32)))), .val (.ref b5), .unset] [(.int (1 : Int32)), (.ref b5)])) _
    refine XS.iloadN X6.here hx rfl (hb hby at_25) rfl ?_
    show Steps p.tables e below (T6.setTop (mkF m 26 #[.val (.int p1), .val (.int p2), .val (.int p3), .val (.int p4), .val (.int ((4 : Int32) + (p3 &&& (3 : Int32)))), .val (.ref b5), .unset] [(.int p1), (.int (1 : Int32)), (.ref b5)])) _
    refine XS.bipush X6.here hx rfl (hb hby at_26) ?_
    show Steps p.tables e below (T6.setTop (mkF m 28 #[.val (.int p1), .val (.int p2), .val (.int p3), .val (.int p4), .val (.int ((4 : Int32) + (p3 &&& (3 : Int32)))), .val (.ref b5), .unset] [(.int (16 : Int32)), (.int p1), (.int (1 : Int32)), (.ref b5)])) _
    refine XS.iushr X6.here hx rfl (hb hby at_28) rfl ?_
    show Steps p.tables e below (T6.setTop (mkF m 29 #[.val (.int p1), .val (.int p2), .val (.int p3), .val (.int p4), .val (.int ((4 : Int32) + (p3 &&& (3 : Int32)))), .val (.ref b5), .unset] [(.int ((p1.toUInt32 >>> ((16 : Int32) &&& 31).toUInt32).toInt32)), (.int (1 : Int32)), (.ref b5)])) _
    refine XS.i2b X6.here hx rfl (hb hby at_29) rfl ?_
    show Steps p.tables e below (T6.setTop (mkF m 30 #[.val (.int p1), .val (.int p2), .val (.int p3), .val (.int p4), .val (.int ((4 : Int32) + (p3 &&& (3 : Int32)))), .val (.ref b5), .unset] [(.int (((p1.toUInt32 >>> ((16 : Int32) &&& 31).toUInt32).toInt32).toInt8.toInt32)), (.int (1 : Int32)), (.ref b5)])) _
    refine st7 _ ?_
    show Steps p.tables e below (T7.setTop (mkF m 31 #[.val (.int p1), .val (.int p2), .val (.int p3), .val (.int p4), .val (.int ((4 : Int32) + (p3 &&& (3 : Int32)))), .val (.ref b5), .unset] [])) _
    refine XS.aload X7.here hx rfl (hb hby at_31) rfl rfl ?_
    show Steps p.tables e below (T7.setTop (mkF m 33 #[.val (.int p1), .val (.int p2), .val (.int p3), .val (.int p4), .val (.int ((4 : Int32) + (p3 &&& (3 : Int32)))), .val (.ref b5), .unset] [(.ref b5)])) _
    refine XS.iconst X7.here hx rfl (hb hby at_33) ?_
    show Steps p.tables e below (T7.setTop (mkF m 34 #[.val (.int p1), .val (.int p2), .val (.int p3), .val (.int p4), .val (.int ((4 : Int32) + (p3 &&& (3 : Int32)))), .val (.ref b5), .unset] [(.int (2 : Int32)), (.ref b5)])) _
    refine XS.iloadN X7.here hx rfl (hb hby at_34) rfl ?_
    show Steps p.tables e below (T7.setTop (mkF m 35 #[.val (.int p1), .val (.int p2), .val (.int p3), .val (.int p4), .val (.int ((4 : Int32) + (p3 &&& (3 : Int32)))), .val (.ref b5), .unset] [(.int p1), (.int (2 : Int32)), (.ref b5)])) _
    refine XS.bipush X7.here hx rfl (hb hby at_35) ?_
    show Steps p.tables e below (T7.setTop (mkF m 37 #[.val (.int p1), .val (.int p2), .val (.int p3), .val (.int p4), .val (.int ((4 : Int32) + (p3 &&& (3 : Int32)))), .val (.ref b5), .unset] [(.int (8 : Int32)), (.int p1), (.int (2 : Int32)), (.ref b5)])) _
    refine XS.iushr X7.here hx rfl (hb hby at_37) rfl ?_
    show Steps p.tables e below (T7.setTop (mkF m 38 #[.val (.int p1), .val (.int p2), .val (.int p3), .val (.int p4), .val (.int ((4 : Int32) + (p3 &&& (3 : Int32)))), .val (.ref b5), .unset] [(.int ((p1.toUInt32 >>> ((8 : Int32) &&& 31).toUInt32).toInt32)), (.int (2 : Int32)), (.ref b5)])) _
    refine XS.i2b X7.here hx rfl (hb hby at_38) rfl ?_
    show Steps p.tables e below (T7.setTop (mkF m 39 #[.val (.int p1), .val (.int p2), .val (.int p3), .val (.int p4), .val (.int ((4 : Int32) + (p3 &&& (3 : Int32)))), .val (.ref b5), .unset] [(.int (((p1.toUInt32 >>> ((8 : Int32) &&& 31).toUInt32).toInt32).toInt8.toInt32)), (.int (2 : Int32)), (.ref b5)])) _
    refine st8 _ ?_
    show Steps p.tables e below (T8.setTop (mkF m 40 #[.val (.int p1), .val (.int p2), .val (.int p3), .val (.int p4), .val (.int ((4 : Int32) + (p3 &&& (3 : Int32)))), .val (.ref b5), .unset] [])) _
    refine XS.aload X8.here hx rfl (hb hby at_40) rfl rfl ?_
    show Steps p.tables e below (T8.setTop (mkF m 42 #[.val (.int p1), .val (.int p2), .val (.int p3), .val (.int p4), .val (.int ((4 : Int32) + (p3 &&& (3 : Int32)))), .val (.ref b5), .unset] [(.ref b5)])) _
    refine XS.iconst X8.here hx rfl (hb hby at_42) ?_
    show Steps p.tables e below (T8.setTop (mkF m 43 #[.val (.int p1), .val (.int p2), .val (.int p3), .val (.int p4), .val (.int ((4 : Int32) + (p3 &&& (3 : Int32)))), .val (.ref b5), .unset] [(.int (3 : Int32)), (.ref b5)])) _
    refine XS.iloadN X8.here hx rfl (hb hby at_43) rfl ?_
    show Steps p.tables e below (T8.setTop (mkF m 44 #[.val (.int p1), .val (.int p2), .val (.int p3), .val (.int p4), .val (.int ((4 : Int32) + (p3 &&& (3 : Int32)))), .val (.ref b5), .unset] [(.int p1), (.int (3 : Int32)), (.ref b5)])) _
    refine XS.i2b X8.here hx rfl (hb hby at_44) rfl ?_
    show Steps p.tables e below (T8.setTop (mkF m 45 #[.val (.int p1), .val (.int p2), .val (.int p3), .val (.int p4), .val (.int ((4 : Int32) + (p3 &&& (3 : Int32)))), .val (.ref b5), .unset] [(.int (p1.toInt8.toInt32)), (.int (3 : Int32)), (.ref b5)])) _
    refine st9 _ ?_
    show Steps p.tables e below (T9.setTop (mkF m 46 #[.val (.int p1), .val (.int p2), .val (.int p3), .val (.int p4), .val (.int ((4 : Int32) + (p3 &&& (3 : Int32)))), .val (.ref b5), .unset] [])) _
    refine XS.iload X9.here hx rfl (hb hby at_46) rfl ?_
    show Steps p.tables e below (T9.setTop (mkF m 48 #[.val (.int p1), .val (.int p2), .val (.int p3), .val (.int p4), .val (.int ((4 : Int32) + (p3 &&& (3 : Int32)))), .val (.ref b5), .unset] [(.int ((4 : Int32) + (p3 &&& (3 : Int32))))])) _
    refine XS.iconst X9.here hx rfl (hb hby at_48) ?_
    show Steps p.tables e below (T9.setTop (mkF m 49 #[.val (.int p1), .val (.int p2), .val (.int p3), .val (.int p4), .val (.int ((4 : Int32) + (p3 &&& (3 : Int32)))), .val (.ref b5), .unset] [(.int (4 : Int32)), (.int ((4 : Int32) + (p3 &&& (3 : Int32))))])) _
    refine XS.icmpNo X9.here hx rfl (hb hby at_49) rfl (tlt hc49).2.2.2 ?_
    show Steps p.tables e below (T9.setTop (mkF m 52 #[.val (.int p1), .val (.int p2), .val (.int p3), .val (.int p4), .val (.int ((4 : Int32) + (p3 &&& (3 : Int32)))), .val (.ref b5), .unset] [])) _
    refine XS.aload X9.here hx rfl (hb hby at_52) rfl rfl ?_
    show Steps p.tables e below (T9.setTop (mkF m 54 #[.val (.int p1), .val (.int p2), .val (.int p3), .val (.int p4), .val (.int ((4 : Int32) + (p3 &&& (3 : Int32)))), .val (.ref b5), .unset] [(.ref b5)])) _
    refine XS.iconst X9.here hx rfl (hb hby at_54) ?_
    show Steps p.tables e below (T9.setTop (mkF m 55 #[.val (.int p1), .val (.int p2), .val (.int p3), .val (.int p4), .val (.int ((4 : Int32) + (p3 &&& (3 : Int32)))), .val (.ref b5), .unset] [(.int (4 : Int32)), (.ref b5)])) _
    refine XS.iloadN X9.here hx rfl (hb hby at_55) rfl ?_
    show Steps p.tables e below (T9.setTop (mkF m 56 #[.val (.int p1), .val (.int p2), .val (.int p3), .val (.int p4), .val (.int ((4 : Int32) + (p3 &&& (3 : Int32)))), .val (.ref b5), .unset] [(.int p2), (.int (4 : Int32)), (.ref b5)])) _
    refine XS.i2b X9.here hx rfl (hb hby at_56) rfl ?_
    show Steps p.tables e below (T9.setTop (mkF m 57 #[.val (.int p1), .val (.int p2), .val (.int p3), .val (.int p4), .val (.int ((4 : Int32) + (p3 &&& (3 : Int32)))), .val (.ref b5), .unset] [(.int (p2.toInt8.toInt32)), (.int (4 : Int32)), (.ref b5)])) _
    refine st10 _ ?_
    show Steps p.tables e below (T10.setTop (mkF m 58 #[.val (.int p1), .val (.int p2), .val (.int p3), .val (.int p4), .val (.int ((4 : Int32) + (p3 &&& (3 : Int32)))), .val (.ref b5), .unset] [])) _
    refine XS.iload X10.here hx rfl (hb hby at_58) rfl ?_
    show Steps p.tables e below (T10.setTop (mkF m 60 #[.val (.int p1), .val (.int p2), .val (.int p3), .val (.int p4), .val (.int ((4 : Int32) + (p3 &&& (3 : Int32)))), .val (.ref b5), .unset] [(.int ((4 : Int32) + (p3 &&& (3 : Int32))))])) _
    refine XS.iconst X10.here hx rfl (hb hby at_60) ?_
    show Steps p.tables e below (T10.setTop (mkF m 61 #[.val (.int p1), .val (.int p2), .val (.int p3), .val (.int p4), .val (.int ((4 : Int32) + (p3 &&& (3 : Int32)))), .val (.ref b5), .unset] [(.int (5 : Int32)), (.int ((4 : Int32) + (p3 &&& (3 : Int32))))])) _
    refine XS.icmpNo X10.here hx rfl (hb hby at_61) rfl (tlt hc61).2.2.2 ?_
    show Steps p.tables e below (T10.setTop (mkF m 64 #[.val (.int p1), .val (.int p2), .val (.int p3), .val (.int p4), .val (.int ((4 : Int32) + (p3 &&& (3 : Int32)))), .val (.ref b5), .unset] [])) _
    refine XS.aload X10.here hx rfl (hb hby at_64) rfl rfl ?_
    show Steps p.tables e below (T10.setTop (mkF m 66 #[.val (.int p1), .val (.int p2), .val (.int p3), .val (.int p4), .val (.int ((4 : Int32) + (p3 &&& (3 : Int32)))), .val (.ref b5), .unset] [(.ref b5)])) _
    refine XS.iconst X10.here hx rfl (hb hby at_66) ?_
    show Steps p.tables e below (T10.setTop (mkF m 67 #[.val (.int p1), .val (.int p2), .val (.int p3), .val (.int p4), .val (.int ((4 : Int32) + (p3 &&& (3 : Int32)))), .val (.ref b5), .unset] [(.int (5 : Int32)), (.ref b5)])) _
    refine XS.iloadN X10.here hx rfl (hb hby at_67) rfl ?_
    show Steps p.tables e below (T10.setTop (mkF m 68 #[.val (.int p1), .val (.int p2), .val (.int p3), .val (.int p4), .val (.int ((4 : Int32) + (p3 &&& (3 : Int32)))), .val (.ref b5), .unset] [(.int p2), (.int (5 : Int32)), (.ref b5)])) _
    refine XS.bipush X10.here hx rfl (hb hby at_68) ?_
    show Steps p.tables e below (T10.setTop (mkF m 70 #[.val (.int p1), .val (.int p2), .val (.int p3), .val (.int p4), .val (.int ((4 : Int32) + (p3 &&& (3 : Int32)))), .val (.ref b5), .unset] [(.int (8 : Int32)), (.int p2), (.int (5 : Int32)), (.ref b5)])) _
    refine XS.iushr X10.here hx rfl (hb hby at_70) rfl ?_
    show Steps p.tables e below (T10.setTop (mkF m 71 #[.val (.int p1), .val (.int p2), .val (.int p3), .val (.int p4), .val (.int ((4 : Int32) + (p3 &&& (3 : Int32)))), .val (.ref b5), .unset] [(.int ((p2.toUInt32 >>> ((8 : Int32) &&& 31).toUInt32).toInt32)), (.int (5 : Int32)), (.ref b5)])) _
    refine XS.i2b X10.here hx rfl (hb hby at_71) rfl ?_
    show Steps p.tables e below (T10.setTop (mkF m 72 #[.val (.int p1), .val (.int p2), .val (.int p3), .val (.int p4), .val (.int ((4 : Int32) + (p3 &&& (3 : Int32)))), .val (.ref b5), .unset] [(.int (((p2.toUInt32 >>> ((8 : Int32) &&& 31).toUInt32).toInt32).toInt8.toInt32)), (.int (5 : Int32)), (.ref b5)])) _
    refine st11 _ ?_
    show Steps p.tables e below (T11.setTop (mkF m 73 #[.val (.int p1), .val (.int p2), .val (.int p3), .val (.int p4), .val (.int ((4 : Int32) + (p3 &&& (3 : Int32)))), .val (.ref b5), .unset] [])) _
    refine XS.iload X11.here hx rfl (hb hby at_73) rfl ?_
    show Steps p.tables e below (T11.setTop (mkF m 75 #[.val (.int p1), .val (.int p2), .val (.int p3), .val (.int p4), .val (.int ((4 : Int32) + (p3 &&& (3 : Int32)))), .val (.ref b5), .unset] [(.int ((4 : Int32) + (p3 &&& (3 : Int32))))])) _
    refine XS.bipush X11.here hx rfl (hb hby at_75) ?_
    show Steps p.tables e below (T11.setTop (mkF m 77 #[.val (.int p1), .val (.int p2), .val (.int p3), .val (.int p4), .val (.int ((4 : Int32) + (p3 &&& (3 : Int32)))), .val (.ref b5), .unset] [(.int (6 : Int32)), (.int ((4 : Int32) + (p3 &&& (3 : Int32))))])) _
    refine XS.icmpNo X11.here hx rfl (hb hby at_77) rfl (tlt hc77).2.2.2 ?_
    show Steps p.tables e below (T11.setTop (mkF m 80 #[.val (.int p1), .val (.int p2), .val (.int p3), .val (.int p4), .val (.int ((4 : Int32) + (p3 &&& (3 : Int32)))), .val (.ref b5), .unset] [])) _
    refine XS.aload X11.here hx rfl (hb hby at_80) rfl rfl ?_
    show Steps p.tables e below (T11.setTop (mkF m 82 #[.val (.int p1), .val (.int p2), .val (.int p3), .val (.int p4), .val (.int ((4 : Int32) + (p3 &&& (3 : Int32)))), .val (.ref b5), .unset] [(.ref b5)])) _
    refine XS.bipush X11.here hx rfl (hb hby at_82) ?_
    show Steps p.tables e below (T11.setTop (mkF m 84 #[.val (.int p1), .val (.int p2), .val (.int p3), .val (.int p4), .val (.int ((4 : Int32) + (p3 &&& (3 : Int32)))), .val (.ref b5), .unset] [(.int (6 : Int32)), (.ref b5)])) _
    refine XS.iloadN X11.here hx rfl (hb hby at_84) rfl ?_
    show Steps p.tables e below (T11.setTop (mkF m 85 #[.val (.int p1), .val (.int p2), .val (.int p3), .val (.int p4), .val (.int ((4 : Int32) + (p3 &&& (3 : Int32)))), .val (.ref b5), .unset] [(.int p2), (.int (6 : Int32)), (.ref b5)])) _
    refine XS.bipush X11.here hx rfl (hb hby at_85) ?_
    show Steps p.tables e below (T11.setTop (mkF m 87 #[.val (.int p1), .val (.int p2), .val (.int p3), .val (.int p4), .val (.int ((4 : Int32) + (p3 &&& (3 : Int32)))), .val (.ref b5), .unset] [(.int (16 : Int32)), (.int p2), (.int (6 : Int32)), (.ref b5)])) _
    refine XS.iushr X11.here hx rfl (hb hby at_87) rfl ?_
    show Steps p.tables e below (T11.setTop (mkF m 88 #[.val (.int p1), .val (.int p2), .val (.int p3), .val (.int p4), .val (.int ((4 : Int32) + (p3 &&& (3 : Int32)))), .val (.ref b5), .unset] [(.int ((p2.toUInt32 >>> ((16 : Int32) &&& 31).toUInt32).toInt32)), (.int (6 : Int32)), (.ref b5)])) _
    refine XS.i2b X11.here hx rfl (hb hby at_88) rfl ?_
    show Steps p.tables e below (T11.setTop (mkF m 89 #[.val (.int p1), .val (.int p2), .val (.int p3), .val (.int p4), .val (.int ((4 : Int32) + (p3 &&& (3 : Int32)))), .val (.ref b5), .unset] [(.int (((p2.toUInt32 >>> ((16 : Int32) &&& 31).toUInt32).toInt32).toInt8.toInt32)), (.int (6 : Int32)), (.ref b5)])) _
    refine st12 _ ?_
    show Steps p.tables e below (T12.setTop (mkF m 90 #[.val (.int p1), .val (.int p2), .val (.int p3), .val (.int p4), .val (.int ((4 : Int32) + (p3 &&& (3 : Int32)))), .val (.ref b5), .unset] [])) _
    refine st13 _ ?_
    show Steps p.tables e below (T13.setTop (mkF m 93 #[.val (.int p1), .val (.int p2), .val (.int p3), .val (.int p4), .val (.int ((4 : Int32) + (p3 &&& (3 : Int32)))), .val (.ref b5), .unset] [(.ref b13)])) _
    refine XS.dup X13.here hx rfl (hb hby at_93) rfl rfl ?_
    show Steps p.tables e below (T13.setTop (mkF m 94 #[.val (.int p1), .val (.int p2), .val (.int p3), .val (.int p4), .val (.int ((4 : Int32) + (p3 &&& (3 : Int32)))), .val (.ref b5), .unset] [(.ref b13), (.ref b13)])) _
    refine XS.iloadN X13.here hx rfl (hb hby at_94) rfl ?_
    show Steps p.tables e below (T13.setTop (mkF m 95 #[.val (.int p1), .val (.int p2), .val (.int p3), .val (.int p4), .val (.int ((4 : Int32) + (p3 &&& (3 : Int32)))), .val (.ref b5), .unset] [(.int p4), (.ref b13), (.ref b13)])) _
    refine XS.sipush X13.here hx rfl (hb hby at_95) ?_
    show Steps p.tables e below (T13.setTop (mkF m 98 #[.val (.int p1), .val (.int p2), .val (.int p3), .val (.int p4), .val (.int ((4 : Int32) + (p3 &&& (3 : Int32)))), .val (.ref b5), .unset] [(.int (255 : Int32)), (.int p4), (.ref b13), (.ref b13)])) _
    refine XS.iand X13.here hx rfl (hb hby at_98) rfl ?_
    show Steps p.tables e below (T13.setTop (mkF m 99 #[.val (.int p1), .val (.int p2), .val (.int p3), .val (.int p4), .val (.int ((4 : Int32) + (p3 &&& (3 : Int32)))), .val (.ref b5), .unset] [(.int (p4 &&& (255 : Int32))), (.ref b13), (.ref b13)])) _
    refine XS.i2c X13.here hx rfl (hb hby at_99) rfl ?_
    show Steps p.tables e below (T13.setTop (mkF m 100 #[.val (.int p1), .val (.int p2), .val (.int p3), .val (.int p4), .val (.int ((4 : Int32) + (p3 &&& (3 : Int32)))), .val (.ref b5), .unset] [(.int ((p4 &&& (255 : Int32)).toUInt32.toUInt16.toUInt32.toInt32)), (.ref b13), (.ref b13)])) _
    refine XS.aload X13.here hx rfl (hb hby at_100) rfl rfl ?_
    show Steps p.tables e below (T13.setTop (mkF m 102 #[.val (.int p1), .val (.int p2), .val (.int p3), .val (.int p4), .val (.int ((4 : Int32) + (p3 &&& (3 : Int32)))), .val (.ref b5), .unset] [(.ref b5), (.int ((p4 &&& (255 : Int32)).toUInt32.toUInt16.toUInt32.toInt32)), (.ref b13), (.ref b13)])) _
    refine st14.trans ?_
    show Steps p.tables e below (T14.setTop (mkF m 105 #[.val (.int p1), .val (.int p2), .val (.int p3), .val (.int p4), .val (.int ((4 : Int32) + (p3 &&& (3 : Int32)))), .val (.ref b5), .unset] [(.ref b13)])) _
    refine XS.astore X14.here hx rfl (hb hby at_105) rfl rfl (l' := #[.val (.int p1), .val (.int p2), .val (.int p3), .val (.int p4), .val (.int ((4 : Int32) + (p3 &&& (3 : Int32)))), .val (.ref b5), .val (.ref b13)]) rfl ?_
    show Steps p.tables e below (T14.setTop (mkF m 107 #[.val (.int p1), .val (.int p2), .val (.int p3), .val (.int p4), .val (.int ((4 : Int32) + (p3 &&& (3 : Int32)))), .val (.ref b5), .val (.ref b13)] [])) _
    refine XS.aload X14.here hx rfl (hb hby at_107) rfl rfl ?_
    show Steps p.tables e below (T14.setTop (mkF m 109 #[.val (.int p1), .val (.int p2), .val (.int p3), .val (.int p4), .val (.int ((4 : Int32) + (p3 &&& (3 : Int32)))), .val (.ref b5), .val (.ref b13)] [(.ref b13)])) _
    refine st15.trans ?_
    show Steps p.tables e below (T15.setTop (mkF m 112 #[.val (.int p1), .val (.int p2), .val (.int p3), .val (.int p4), .val (.int ((4 : Int32) + (p3 &&& (3 : Int32)))), .val (.ref b5), .val (.ref b13)] [(.int ((((((nar .byte (((p1.toUInt32 >>> ((24 : Int32) &&& 31).toUInt32).toInt32).toInt8.toInt32)) &&& (255 : Int32)) <<< ((24 : Int32) &&& 31)) ||| (((nar .byte (((p1.toUInt32 >>> ((16 : Int32) &&& 31).toUInt32).toInt32).toInt8.toInt32)) &&& (255 : Int32)) <<< ((16 : Int32) &&& 31))) ||| (((nar .byte (((p1.toUInt32 >>> ((8 : Int32) &&& 31).toUInt32).toInt32).toInt8.toInt32)) &&& (255 : Int32)) <<< ((8 : Int32) &&& 31))) ||| ((nar .byte (p1.toInt8.toInt32)) &&& (255 : Int32))))])) _
    refine XS.iloadN X15.here hx rfl (hb hby at_112) rfl ?_
    show Steps p.tables e below (T15.setTop (mkF m 113 #[.val (.int p1), .val (.int p2), .val (.int p3), .val (.int p4), .val (.int ((4 : Int32) + (p3 &&& (3 : Int32)))), .val (.ref b5), .val (.ref b13)] [(.int p1), (.int ((((((nar .byte (((p1.toUInt32 >>> ((24 : Int32) &&& 31).toUInt32).toInt32).toInt8.toInt32)) &&& (255 : Int32)) <<< ((24 : Int32) &&& 31)) ||| (((nar .byte (((p1.toUInt32 >>> ((16 : Int32) &&& 31).toUInt32).toInt32).toInt8.toInt32)) &&& (255 : Int32)) <<< ((16 : Int32) &&& 31))) ||| (((nar .byte (((p1.toUInt32 >>> ((8 : Int32) &&& 31).toUInt32).toInt32).toInt8.toInt32)) &&& (255 : Int32)) <<< ((8 : Int32) &&& 31))) ||| ((nar .byte (p1.toInt8.toInt32)) &&& (255 : Int32))))])) _
    refine XS.icmpNo X15.here hx rfl (hb hby at_113) rfl (teq (own_pack p1 : ((((((nar .byte (((p1.toUInt32 >>> ((24 : Int32) &&& 31).toUInt32).toInt32).toInt8.toInt32)) &&& (255 : Int32)) <<< ((24 : Int32) &&& 31)) ||| (((nar .byte (((p1.toUInt32 >>> ((16 : Int32) &&& 31).toUInt32).toInt32).toInt8.toInt32)) &&& (255 : Int32)) <<< ((16 : Int32) &&& 31))) ||| (((nar .byte (((p1.toUInt32 >>> ((8 : Int32) &&& 31).toUInt32).toInt32).toInt8.toInt32)) &&& (255 : Int32)) <<< ((8 : Int32) &&& 31))) ||| ((nar .byte (p1.toInt8.toInt32)) &&& (255 : Int32))) = p1)).2 ?_
    show Steps p.tables e below (T15.setTop (mkF m 116 #[.val (.int p1), .val (.int p2), .val (.int p3), .val (.int p4), .val (.int ((4 : Int32) + (p3 &&& (3 : Int32)))), .val (.ref b5), .val (.ref b13)] [])) _
    refine XS.iconst X15.here hx rfl (hb hby at_116) ?_
    show Steps p.tables e below (T15.setTop (mkF m 117 #[.val (.int p1), .val (.int p2), .val (.int p3), .val (.int p4), .val (.int ((4 : Int32) + (p3 &&& (3 : Int32)))), .val (.ref b5), .val (.ref b13)] [(.int (1 : Int32))])) _
    refine XS.goto X15.here hx rfl (pc0 := 117) (pc' := 121) rfl (hb hby at_117) (by decide) (by decide) ?_
    show Steps p.tables e below (T15.setTop (mkF m 121 #[.val (.int p1), .val (.int p2), .val (.int p3), .val (.int p4), .val (.int ((4 : Int32) + (p3 &&& (3 : Int32)))), .val (.ref b5), .val (.ref b13)] [(.int (1 : Int32))])) _
    exact retN X15 hx (t := .boolean) Bd.returns (by simp) (hb hby at_121) hr
  · show Q0 Z p1 p2 p3 p4 h0 n0 _ T15.heap _
    exact ⟨rfl, N15⟩
theorem rm0 (l : Launch) (Z : State) (a0 : Array Value) (hw : ∀ d ∈ tables_1, d.before a0 Z = true) (ws : List Jvm.Cond) (p1 : Int32) (p2 : Int32) (p3 : Int32) (p4 : Int32) (h0 : Heap) (n0 : Nat) (Z0 : n0 ≤ h0.size) :
    MetFree l x (head1 (Jvm.Cond.code x code maxLocals ret :: ws) room_1) (fun a U => a = #[(.int p1), (.int p2), (.int p3), (.int p4)] ∧ Z.Warmed39 U.vm ∧ U.heap = h0) (fun _ _ _ _ _ => True) (fun _ U o U' => ∃ v L, o = .returned v ∧ Q0 Z p1 p2 p3 p4 h0 n0 v U'.heap L ∧ FrameEnd U o U' L room_1.cells room_1.slots) := by
  rcases own_m3 p3 with h | h | h | h
  · exact rm0_ttt l Z a0 hw ws p1 p2 p3 p4 h0 n0 Z0 (by rw [h]; decide) (by rw [h]; decide) (by rw [h]; decide)
  · exact rm0_ftt l Z a0 hw ws p1 p2 p3 p4 h0 n0 Z0 (by rw [h]; decide) (by rw [h]; decide) (by rw [h]; decide)
  · exact rm0_fft l Z a0 hw ws p1 p2 p3 p4 h0 n0 Z0 (by rw [h]; decide) (by rw [h]; decide) (by rw [h]; decide)
  · exact rm0_fff l Z a0 hw ws p1 p2 p3 p4 h0 n0 Z0 (by rw [h]; decide) (by rw [h]; decide) (by rw [h]; decide)
set_option maxRecDepth 65536 in
set_option maxHeartbeats 40000000 in
theorem comes_1 {Post : Tables → Env → Array Value → State → Outcome → State → Prop} (hpost : ∀ tb e args s v u, (limb_1_1.after args s (.returned v) u = true ∧ limb_1_2.after args s (.returned v) u = true ∧ True) → FrameEnd s (.returned v) u (Jvm.fieldLocs frame_1_writes args s ++ Jvm.arrayLocs frame_1_arrays args s ++ Jvm.staticLocs frame_1_statics s) 16 128 → Post tb e args s (.returned v) u) :
    ArmFor flags0 classFile x code maxLocals ret World_1 tables_1 room_1 Calls_1 rest_1 Pre_1 Post := by
  intro l hfl _ _ p e ha hc hk s m args below hf hA hF happ hP
  obtain ⟨hcalls, hrest, hpre⟩ := hP
  obtain ⟨-, -, -, hnamed, -, -, -, hat⟩ := (Spec.applies_iff hf).mp happ
  obtain ⟨hg, hn⟩ := and_e (Cond.before_iff.mp (show (Jvm.Cond.and given_1 narrow_1).before args s = true from hpre))
  obtain ⟨g16, g17⟩ := and_e hg
  obtain ⟨g18, g19⟩ := and_e g17
  obtain ⟨g20, g21⟩ := and_e g19
  obtain ⟨g22, g23⟩ := and_e g21
  obtain ⟨w0, w1, w2, w3, rfl⟩ : ∃ w0 w1 w2 w3 : Value, args = #[w0, w1, w2, w3] := by
    have hs : args.size = 4 := by simpa [Cond.value, given_1] using g16
    obtain ⟨L⟩ := args
    match L, hs with
    | [w0, w1, w2, w3], _ => exact ⟨w0, w1, w2, w3, rfl⟩
  have hw := fun d (hd : d ∈ tables_1) => atoms_spec (ws := Jvm.Cond.code x code maxLocals ret :: tables_1) hat d (List.mem_cons_of_mem _ hd)
  have hfit : Fit s := fun {y c} hc i hi => by
    obtain ⟨ha, rfl⟩ := Array.getElem?_eq_some_iff.mp hc
    have q := List.all_eq_true.mp ((Array.all_eq_true_iff_forall_mem.mp hF) _ (Array.getElem_mem ha)) i (List.mem_range.mpr hi)
    simpa [Array.getElem?_eq_getElem hi] using q
  obtain ⟨i0, ei0⟩ := is_v g18
  obtain rfl : w0 = (.int i0) := Option.some.inj ei0
  obtain ⟨i1, ei1⟩ := is_v g20
  obtain rfl : w1 = (.int i1) := Option.some.inj ei1
  obtain ⟨i2, ei2⟩ := is_v g22
  obtain rfl : w2 = (.int i2) := Option.some.inj ei2
  obtain ⟨i3, ei3⟩ := is_v g23
  obtain rfl : w3 = (.int i3) := Option.some.inj ei3
  obtain ⟨n, o, h1, h2, h3, _, L, rfl, ⟨rfl, N⟩, hq⟩ := rm0 l s _ hw tables_1 i0 i1 i2 i3 s.heap s.heap.size (Nat.le_refl _) p e ha hc hk s m _ below hf ((Spec.applies_iff_loose hf).mp happ).1 ⟨rfl, State.Warmed39.refl s, rfl⟩ trivial
  refine ⟨n, _, h1, h2, h3, hpost _ _ _ _ _ _ ⟨Cond.after_iff.mpr rfl, Cond.after_iff.mpr (eq_i res_at (Term.int_eval (1)) rfl), trivial⟩ ⟨hq.1, hq.2.1, (hq.2.2.sift fun y hy => Or.inr (N y hy)).mono (by decide) (by decide)⟩⟩
theorem main_1_1 : Claimed_1_1 := comes_1 fun _ _ _ _ _ _ h hF => ⟨h.1, hF⟩
theorem main_1_2 : Claimed_1_2 := comes_1 fun _ _ _ _ _ _ h hF => ⟨h.2.1, hF⟩
end Jvm.Pilot.@@N@@
namespace Jvm.Pilot.@@N@@
open Jvm Jvm.ClassFile Sem Op Lib Jvm.Free Jvm.Stand Jvm.Pilot.@@N@@.Jvm.D
/-! MADE BY PROGRAM (witnessworld.py) out of the Statement's table words and the real class files: 9 classes; the members and pool entries that the words name. The judged class is class 1, her method 1. -/
namespace start1
open Jvm.ClassFile
def u (s : String) : CpInfo := .utf8 (stringToUtf16 s)
/-- a pool by its gaps: so many unusable entries, then the entry; so many at the end -/
def gap : Nat → List CpInfo → List CpInfo
  | 0, r => r
  | n + 1, r => .unusable :: gap n r
def poolList (es : List (Nat × CpInfo)) (last : Nat) : List CpInfo := es.foldr (fun e r => gap e.1 (e.2 :: r)) (gap last [])
def pool (es : List (Nat × CpInfo)) (last : Nat) : Array CpInfo := ⟨poolList es last⟩
def fileOf (pool : Array CpInfo) (this : Nat) (attrs : Array Attribute := #[]) (ms : Array MethodInfo := #[]) (fl : Nat := 33) (sup : Nat := 0) (ifs : Array Nat := #[]) (fds : Array FieldInfo := #[]) : ClassFile where
  minorVersion := 0
  majorVersion := 65
  constantPool := pool
  accessFlags := fl
  thisClass := this
  superClass := sup
  interfaces := ifs
  fields := fds
  methods := ms
  attributes := attrs
def plain (name : String) (sup : Option ClassId) : Class where
  name := name
  kind := .ordinary
  loader := none
  accessFlags := 33
  super := sup
  interfaces := #[]
  cf := none
  fields := #[]
  methods := #[]
  instanceTypes := #[]
  staticTypes := #[]
  resolved := #[]
  callSites := []
  init := .initialized
  statics := none
  mirror := none

def pool0 : Array CpInfo := pool [(5, u "<init>"), (0, u "()V"), (1, .class_ 10), (1, u "java/lang/Object")] 113

def k0c0 : Code := { maxStack := 0, maxLocals := 1, code := object_method_1_code, exceptionTable := #[], attributes := #[] }
def k0m0 : Method := { name := "<init>", desc := "()V", sig := { parameters := [], returnType := none }, accessFlags := 1, code := some k0c0 }
/-- java/lang/Object -/
def k0 : Class := { plain "java/lang/Object" none with
  accessFlags := 33
  interfaces := #[]
  cf := some (fileOf pool0 8 #[] #[{ accessFlags := 1, nameIndex := 5, descriptorIndex := 6, attributes := #[] }] 33 0 #[] #[])
  fields := #[]
  methods := #[k0m0]
  instanceTypes := #[]
  staticTypes := #[]
  resolved := Array.replicate 124 none
  statics := none }

def pool1 : Array CpInfo := pool [(2, .class_ 4), (1, u "java/lang/Object"), (0, u "<init>"), (0, u "()V"), (0, .class_ 8), (0, u "com/example/varuna/varuna/Message"), (0, .methodref 7 10), (0, .nameAndType 5 11), (0, u "(C[B)V"), (0, .methodref 7 13), (0, .nameAndType 14 15), (0, u "leadingInt32"), (0, u "()I"), (0, .class_ 17), (0, u "com/example/varuna/varuna/MessageLeadingInt32PinLaw"), (2, u "law"), (0, u "(IIII)Z")] 8

def k1m0 : Method := { name := "<init>", desc := "()V", sig := { parameters := [], returnType := none }, accessFlags := 1, code := none }
def k1c1 : Code := { maxStack := 4, maxLocals := 7, code := code, exceptionTable := #[], attributes := #[] }
def k1m1 : Method := { name := "law", desc := "(IIII)Z", sig := { parameters := [.int, .int, .int, .int], returnType := some .boolean }, accessFlags := 9, code := some k1c1 }
/-- com/example/varuna/varuna/MessageLeadingInt32PinLaw -/
def k1 : Class := { plain "com/example/varuna/varuna/MessageLeadingInt32PinLaw" (some 0) with
  accessFlags := 49
  interfaces := #[]
  cf := some (fileOf pool1 16 #[] #[{ accessFlags := 1, nameIndex := 5, descriptorIndex := 6, attributes := #[] }, { accessFlags := 9, nameIndex := 20, descriptorIndex := 21, attributes := #[] }] 49 2 #[] #[])
  fields := #[]
  methods := #[k1m0, k1m1]
  instanceTypes := #[]
  staticTypes := #[]
  resolved := Array.replicate 30 none
  statics := none }

def pool2 : Array CpInfo := pool [(1, .methodref 2 3), (0, .class_ 4), (0, .nameAndType 5 6), (0, u "java/lang/Object"), (0, u "<init>"), (0, u "()V"), (0, .fieldref 8 9), (0, .class_ 10), (0, .nameAndType 11 12), (0, u "com/example/varuna/varuna/Message"), (0, u "type"), (0, u "C"), (0, .fieldref 8 14), (0, .nameAndType 15 16), (0, u "body"), (0, u "[B"), (24, u "(C[B)V"), (6, u "leadingInt32"), (0, u "()I")] 4

def k2c0 : Code := { maxStack := 2, maxLocals := 3, code := prog_10_method_1_code, exceptionTable := #[], attributes := #[] }
def k2m0 : Method := { name := "<init>", desc := "(C[B)V", sig := { parameters := [.char, (.array .byte)], returnType := none }, accessFlags := 0, code := some k2c0 }
def k2c1 : Code := { maxStack := 7, maxLocals := 1, code := prog_10_method_4_code, exceptionTable := #[], attributes := #[] }
def k2m1 : Method := { name := "leadingInt32", desc := "()I", sig := { parameters := [], returnType := some .int }, accessFlags := 0, code := some k2c1 }
/-- com/example/varuna/varuna/Message -/
def k2 : Class := { plain "com/example/varuna/varuna/Message" (some 0) with
  accessFlags := 32
  interfaces := #[]
  cf := some (fileOf pool2 8 #[] #[{ accessFlags := 0, nameIndex := 5, descriptorIndex := 41, attributes := #[] }, { accessFlags := 0, nameIndex := 48, descriptorIndex := 49, attributes := #[] }] 32 2 #[] #[{ accessFlags := 18, nameIndex := 11, descriptorIndex := 12, attributes := #[] }, { accessFlags := 18, nameIndex := 15, descriptorIndex := 16, attributes := #[] }])
  fields := #[{ name := "type", type := .char, accessFlags := 18, slot := 0, constantValue := 0 }, { name := "body", type := (.array .byte), accessFlags := 18, slot := 1, constantValue := 0 }]
  methods := #[k2m0, k2m1]
  instanceTypes := #[.char, (.array .byte)]
  staticTypes := #[]
  resolved := Array.replicate 54 none
  statics := none }

def pool3 : Array CpInfo := pool [(1, u "java/lang/Cloneable"), (0, .class_ 1), (0, u "java/lang/Object"), (0, .class_ 3)] 3

/-- java/lang/Cloneable -/
def k3 : Class := { plain "java/lang/Cloneable" (some 0) with
  accessFlags := 1537
  interfaces := #[]
  cf := some (fileOf pool3 2 #[] #[] 1537 4 #[] #[])
  fields := #[]
  methods := #[]
  instanceTypes := #[]
  staticTypes := #[]
  resolved := Array.replicate 8 none
  statics := none }

def pool4 : Array CpInfo := pool [(1, u "java/io/Serializable"), (0, .class_ 1), (0, u "java/lang/Object"), (0, .class_ 3)] 3

/-- java/io/Serializable -/
def k4 : Class := { plain "java/io/Serializable" (some 0) with
  accessFlags := 1537
  interfaces := #[]
  cf := some (fileOf pool4 2 #[] #[] 1537 4 #[] #[])
  fields := #[]
  methods := #[]
  instanceTypes := #[]
  staticTypes := #[]
  resolved := Array.replicate 8 none
  statics := none }

/-- the primitive byte -/
def k5 : Class := { plain "byte" none with kind := .primitive 'B', accessFlags := 0x411 }
/-- [B -/
def k6 : Class := { plain "[B" (some 0) with kind := .array 5 .byte, interfaces := #[3, 4], accessFlags := 1041 }

/-- the primitive int -/
def k7 : Class := { plain "int" none with kind := .primitive 'I', accessFlags := 0x411 }
/-- [I -/
def k8 : Class := { plain "[I" (some 0) with kind := .array 7 .int, interfaces := #[3, 4], accessFlags := 1041 }

def heap : Heap := #[]
def classes : Array Class := #[k0, k1, k2, k3, k4, k5, k6, k7, k8]
def interned : List (Array UInt16 × Addr) := []
def slotsUsed : Nat := 0
def theMethod : MethodId := ⟨1, 1⟩
def args0 : Array Value := #[.int 5, .int 5, .int 5, .int 5]
def aboutOver (below : List Frame) : State where
  vm := { classes := classes, interned := interned.toArray }
  heap := heap
  slotsUsed := slotsUsed
  threads := #[{ frames := .invoking theMethod args0 :: below }]
def below0 : List Frame := [.native { method := ⟨0, 0⟩, args := #[] }]
def about1 : State := aboutOver below0
def p0 : Program := .bare "" "" ""
def e0 : Env := launch0.env 0 0 0
theorem w_frames : about1.frames = Frame.invoking theMethod args0 :: below0 := rfl
set_option maxRecDepth 65536 in
theorem w_args : argsFit about1.vm theMethod args0 = true := by decide +kernel
set_option maxRecDepth 65536 in
theorem w_heap : heapFits about1 = true := by decide +kernel
set_option maxRecDepth 65536 in
theorem w_runnable : about1.curStatus? = some .runnable := by decide +kernel
set_option maxRecDepth 65536 in
theorem w_alone : about1.alone = true := by decide +kernel
set_option maxRecDepth 65536 in
theorem w_named : about1.methodNamed? x = some theMethod := by decide +kernel
set_option maxRecDepth 65536 in
theorem w_hears : about1.hears theMethod below0 = true := by decide +kernel
set_option maxRecDepth 65536 in
theorem w_ripe : about1.ripe theMethod args0 below0 = true := by decide +kernel
theorem w_running : about1.status = .running := rfl
set_option maxRecDepth 65536 in
theorem w_room : about1.hasRoom e0.platform room_1 = true :=
  launch0.hasRoom_least _ room_1 (by decide +kernel) (by decide +kernel) (by decide +kernel) (by decide +kernel) (by decide +kernel) (by decide +kernel)
theorem allAtoms_all (ts : List Jvm.Cond) (a : Array Jvm.Value) (st : Jvm.State) : (allAtoms ts).before a st = ts.all (fun c => c.before a st) := by
  induction ts with
  | nil => rfl
  | cons c t ih =>
    show (Jvm.Cond.and c (allAtoms t)).before a st = _
    rw [Jvm.Cond.before_and, ih, List.all_cons]
def words1 : List Jvm.Cond := Jvm.Cond.code x code maxLocals ret :: tables_1
/-- a 'code' word, met by the world's own term for the bytes: nothing is compared byte by byte -/
theorem code_word {y : MethodName} {bytes : ByteArray} {mx : Nat} {rt : Option FieldType} {a : Array Value} {s : State} {m : MethodId} {meth : Method} {c : Code} (h1 : s.methodNamed? y = some m) (h2 : s.vm.method? m = some meth) (h3 : meth.code = some c) (h4 : c.code = bytes)
    (h5 : (c.maxLocals == mx && c.exceptionTable.isEmpty && decide (c.maxStack ≤ mostOperands) && decide (meth.sig.returnType = rt) && !meth.locks && decide (parseMethodDescriptor y.desc = some meth.sig)) = true) : (Jvm.Cond.code y bytes mx rt).before a s = true := by
  simp only [Bool.and_eq_true, beq_iff_eq, Bool.not_eq_true', decide_eq_true_eq] at h5
  obtain ⟨⟨⟨⟨⟨g1, g2⟩, g3⟩, g4⟩, g5⟩, g6⟩ := h5
  simp [Cond.before, Cond.holds, Cond.value, h1, h2, h3, h4, g1, g2, g3, g4, g5, g6]
def isCode : Jvm.Cond → Bool
  | .code _ _ _ _ => true
  | _ => false
theorem all_split {L : List Jvm.Cond} {P : Jvm.Cond → Bool} (h1 : L.all (fun c => isCode c || P c) = true) (h2 : ∀ c ∈ L.filter isCode, P c = true) : L.all P = true := by
  refine List.all_eq_true.mpr fun c hc => ?_
  have h := List.all_eq_true.mp h1 c hc
  rcases Bool.eq_false_or_eq_true (isCode c) with hi | hi
  · exact h2 c (List.mem_filter.mpr ⟨hc, hi⟩)
  · simpa [hi] using h
set_option maxRecDepth 65536 in
theorem w_c0 : (Jvm.Cond.code x code maxLocals ret).before args0 about1 = true := code_word (m := ⟨1, 1⟩) (meth := k1m1) (c := k1c1) (by decide +kernel) rfl rfl rfl (by decide +kernel)
set_option maxRecDepth 65536 in
theorem w_c1 : (Jvm.Cond.code ({ cls := "com/example/varuna/varuna/Message", name := "<init>", desc := "(C[B)V" } : Jvm.MethodName) prog_10_method_1_code (3 : Nat) (Option.none : Option Jvm.ClassFile.FieldType)).before args0 about1 = true := code_word (m := ⟨2, 0⟩) (meth := k2m0) (c := k2c0) (by decide +kernel) rfl rfl rfl (by decide +kernel)
set_option maxRecDepth 65536 in
theorem w_c2 : (Jvm.Cond.code ({ cls := "java/lang/Object", name := "<init>", desc := "()V" } : Jvm.MethodName) object_method_1_code (1 : Nat) (Option.none : Option Jvm.ClassFile.FieldType)).before args0 about1 = true := code_word (m := ⟨0, 0⟩) (meth := k0m0) (c := k0c0) (by decide +kernel) rfl rfl rfl (by decide +kernel)
set_option maxRecDepth 65536 in
theorem w_c3 : (Jvm.Cond.code ({ cls := "com/example/varuna/varuna/Message", name := "leadingInt32", desc := "()I" } : Jvm.MethodName) prog_10_method_4_code (1 : Nat) (Option.some Jvm.ClassFile.FieldType.int)).before args0 about1 = true := code_word (m := ⟨2, 1⟩) (meth := k2m1) (c := k2c1) (by decide +kernel) rfl rfl rfl (by decide +kernel)
def codes1 : List Jvm.Cond := [Jvm.Cond.code x code maxLocals ret, Jvm.Cond.code ({ cls := "com/example/varuna/varuna/Message", name := "<init>", desc := "(C[B)V" } : Jvm.MethodName) prog_10_method_1_code (3 : Nat) (Option.none : Option Jvm.ClassFile.FieldType), Jvm.Cond.code ({ cls := "java/lang/Object", name := "<init>", desc := "()V" } : Jvm.MethodName) object_method_1_code (1 : Nat) (Option.none : Option Jvm.ClassFile.FieldType), Jvm.Cond.code ({ cls := "com/example/varuna/varuna/Message", name := "leadingInt32", desc := "()I" } : Jvm.MethodName) prog_10_method_4_code (1 : Nat) (Option.some Jvm.ClassFile.FieldType.int)]
set_option maxRecDepth 65536 in
theorem codes_eq : words1.filter isCode = codes1 := rfl
theorem w_codes : ∀ c ∈ words1.filter isCode, c.before args0 about1 = true := by
  rw [codes_eq]
  intro c hc
  simp only [codes1, List.mem_cons, List.not_mem_nil, or_false] at hc
  rcases hc with rfl | rfl | rfl | rfl
  · exact w_c0
  · exact w_c1
  · exact w_c2
  · exact w_c3
set_option maxRecDepth 65536 in
theorem w_t1 : words1.all (fun c => isCode c || c.before args0 about1) = true := by decide +kernel
theorem w_tables : (allAtoms (Jvm.Cond.code x code maxLocals ret :: tables_1)).before args0 about1 = true := by
  rw [allAtoms_all]
  show words1.all (fun c => c.before args0 about1) = true
  refine all_split ?_ w_codes
  rw [w_t1]
set_option maxRecDepth 65536 in
theorem w_case : (Jvm.Cond.and given_1 narrow_1).before args0 about1 = true := by decide +kernel
theorem w_applies : (headSpec (Jvm.Cond.code x code maxLocals ret :: tables_1) room_1).applies x e0.platform about1 = true :=
  (Spec.applies_iff w_frames).mpr ⟨w_running, w_runnable, w_alone, w_named, w_hears, w_ripe, w_room, w_tables⟩
theorem atStart : AtStart classFile x code maxLocals ret World_1 tables_1 room_1 Calls_1 rest_1 Pre_1 launch0 p0 e0 about1 theMethod args0 below0 :=
  ⟨lists_1, trivial, launch0.admits_env _ _ _, launch0.least_env, fairChoices_fair.cas, fairChoices_fair.clock, w_frames, w_args, w_heap, w_applies, trivial, trivial, w_case⟩
end start1
theorem witness_1 : WitnessClaimed_1 := ⟨start1.p0, start1.e0, start1.about1, start1.theMethod, start1.args0, start1.below0, start1.atStart⟩
end Jvm.Pilot.@@N@@
