import JvmDerived
import JvmDerived.Pilot.@@N@@Statement
import JvmDerived.Pilot.@@N@@Code
set_option linter.unusedVariables false
set_option linter.unusedSimpArgs false
namespace Jvm.RoadKit
open Sem ClassFile Op Lib Jvm.Stand Jvm.Free Jvm.LawKit
section New
variable {p : Program} {l : Launch} {e : Env} {R : Room} {s : State} {m : MethodId} {args : Array Value} {below : List Frame} {meth : Method} {c : Code} {T : State} {locs : List Loc} {cells slots : Nat}
theorem retI (X : Stand p l e R s m args below meth c T locs cells slots) (hx : p.tables.exec = Jvm.exec) {pc : Nat} {Ls : Array Slot} {z : Int32} {rest : List Value} (hret : meth.sig.returnType = some .int) (hd : decode c.code pc = .ok (.ireturn, 1)) {fs : List Frame}
    (hl : ∀ (f : JFrame) (acts : List Action), f.method = m → f.locked = none → f.entered = [] → (doReturn e (T.setTop f) acts (some (.int z))).1 = T.setFrames fs) : Steps p.tables e below (T.setTop (mkF m pc Ls (.int z :: rest))) (T.setFrames fs) := by
  have hm' : T.vm.method? m = some meth := X.method'
  have hn : narrow .int (.int z) = .int z := rfl
  show Steps p.tables e below (T.setTop { method := m, pc := pc, locals := Ls, stack := _ :: rest, locked := none }) _
  jvm_step X.here [X.here.top, hx, hd, hm', hret, hn]
  first | (intro acts; rw [hl _ acts rfl rfl rfl]) | rw [hl _ _ rfl rfl rfl]
  exact Steps.refl _
end New
end Jvm.RoadKit
/- laws to paste: Road.chN, Road.codOf (cut by pick.py; bodies as the Statement names them) -/
namespace Jvm.Pilot.@@N@@
namespace StrChars
open Jvm Sem ClassFile Op Lib Jvm.Stand Jvm.Free.XT Jvm.Free.ALB Jvm.Free.JM Jvm.Free
open Jvm.Lib.Cold (StaticIs)
def lo8 (x : Int32) : Int32 := x.toInt8.toInt32
theorem lo8_mask {x : Int32} (h0 : ¬ x < 0) (h1 : ¬ 255 < x) : lo8 x &&& 255 = x := by
  have t : ∀ k : Fin 256, lo8 (Int32.ofNat k.val) &&& 255 = Int32.ofNat k.val := by decide +kernel
  rw [Int32.lt_iff_toInt_lt] at h0 h1
  have e0 : (0 : Int32).toInt = 0 := rfl
  have e1 : (255 : Int32).toInt = 255 := rfl
  obtain ⟨k, hk⟩ : ∃ k : Nat, x.toInt = k := ⟨x.toInt.toNat, by omega⟩
  have hx : x = Int32.ofNat k := Int32.toInt_inj.mp (by rw [hk, Int32.toInt_ofNat_small (by omega)])
  rw [hx]
  exact t ⟨k, by omega⟩
end StrChars
namespace StrChars.Road
open Jvm Sem ClassFile Op Lib Jvm.Stand Jvm.Free Jvm.Free.XT
open Jvm.Lib.Cold (StaticIs)
abbrev ST : String := "java/lang/String"
end StrChars.Road
namespace StrChars
open Jvm Sem ClassFile Op Lib Jvm.Stand Jvm.Free.XT Jvm.Free.ALB Jvm.Free.JM Jvm.Free
open Jvm.Lib.Cold (StaticIs)
def hi8 (x : Int32) : Int32 := lo8 (x >>> ((8 : Int32) &&& 31))
def pairCh (u v : Int32) : Int32 := (((u &&& 255) <<< ((0 : Int32) &&& 31)) ||| ((v &&& 255) <<< ((8 : Int32) &&& 31))).toUInt32.toUInt16.toUInt32.toInt32
theorem lo8_and (x : Int32) : (lo8 x &&& 255).toBitVec.toNat = x.toBitVec.toNat % 256 := by
  have h : (lo8 x).toBitVec = (x.toBitVec.signExtend 8).signExtend 32 := by rw [lo8, Int8.toBitVec_toInt32, Int32.toBitVec_toInt8]
  rw [Int32.toBitVec_and, BitVec.toNat_and, h]
  have e : ((x.toBitVec.signExtend 8).signExtend 32).toNat % 256 = x.toBitVec.toNat % 256 := by
    rw [BitVec.toNat_signExtend]
    have hlt := x.toBitVec.isLt
    simp only [BitVec.toNat_setWidth, BitVec.toNat_signExtend]
    split <;> split <;> omega
  rw [← e]
  exact Nat.and_two_pow_sub_one_eq_mod _ 8
theorem pair_says {c : Int32} (h0 : ¬ c < 0) (h1 : ¬ 65535 < c) : pairCh (lo8 c) (hi8 c) = c := by
  rw [Int32.lt_iff_toInt_lt] at h0 h1
  have e0 : (0 : Int32).toInt = 0 := rfl
  have e1 : (65535 : Int32).toInt = 65535 := rfl
  have hc : c.toInt = c.toBitVec.toNat := by
    have := c.toBitVec.isLt
    have e : c.toInt = c.toBitVec.toInt := rfl
    rw [e] at h0 h1
    rw [e]
    rw [BitVec.toInt_eq_toNat_cond] at h0 h1 ⊢
    split at h0 <;> split <;> omega
  have hn : c.toBitVec.toNat < 65536 := by omega
  have a1 := lo8_and c
  have a2 : (hi8 c &&& 255).toBitVec.toNat = c.toBitVec.toNat / 256 := by
    rw [hi8, lo8_and]
    have e : ((8 : Int32) &&& 31) = 8 := by decide
    rw [e, Int32.toBitVec_shiftRight]
    have e2 : ((8 : Int32).toBitVec.smod 32) = 8#32 := by decide
    rw [e2, BitVec.sshiftRight_eq', BitVec.toNat_sshiftRight_of_msb_false (by rw [BitVec.msb_eq_false_iff_two_mul_lt]; omega)]
    show c.toBitVec.toNat >>> 8 % 256 = _
    rw [Nat.shiftRight_eq_div_pow]
    omega
  unfold pairCh
  apply Int32.toBitVec_inj.mp
  apply BitVec.eq_of_toNat_eq
  have f0 : ((0 : Int32) &&& 31) = 0 := by decide
  have f8 : ((8 : Int32) &&& 31) = 8 := by decide
  rw [f0, f8]
  have g : (((lo8 c &&& 255) <<< (0 : Int32)) ||| ((hi8 c &&& 255) <<< (8 : Int32))).toBitVec.toNat = c.toBitVec.toNat := by
    rw [Int32.toBitVec_or, Int32.toBitVec_shiftLeft, Int32.toBitVec_shiftLeft]
    have s0 : ((0 : Int32).toBitVec.smod 32) = 0#32 := by decide
    have s8 : ((8 : Int32).toBitVec.smod 32) = 8#32 := by decide
    rw [s0, s8, BitVec.toNat_or]
    simp only [BitVec.shiftLeft_eq', BitVec.toNat_shiftLeft, a1, a2]
    show (c.toBitVec.toNat % 256) <<< 0 % 2 ^ 32 ||| (c.toBitVec.toNat / 256) <<< 8 % 2 ^ 32 = _
    rw [Nat.shiftLeft_zero, Nat.mod_eq_of_lt (show c.toBitVec.toNat % 256 < 2 ^ 32 by omega), Nat.mod_eq_of_lt (show (c.toBitVec.toNat / 256) <<< 8 < 2 ^ 32 by rw [Nat.shiftLeft_eq]; omega), Nat.or_comm, ← Nat.shiftLeft_add_eq_or_of_lt (by omega), Nat.shiftLeft_eq]
    omega
  show BitVec.toNat (((((lo8 c &&& 255) <<< (0 : Int32)) ||| ((hi8 c &&& 255) <<< (8 : Int32))).toBitVec.setWidth 16).setWidth 32) = _
  rw [BitVec.toNat_setWidth, BitVec.toNat_setWidth, g]
  omega
end StrChars
namespace StrChars
open Jvm Sem ClassFile Op Lib Jvm.Stand Jvm.Free.XT Jvm.Free.ALB Jvm.Free.JM Jvm.Free
open Jvm.Lib.Cold (StaticIs)
def chr8 (u : Int32) : Int32 := (u &&& 255).toUInt32.toUInt16.toUInt32.toInt32
theorem chr8_lo8 {c : Int32} (h0 : ¬ c < 0) (h1 : ¬ 255 < c) : chr8 (lo8 c) = c := by
  have t : ∀ k : Fin 256, (Int32.ofNat k.val).toUInt32.toUInt16.toUInt32.toInt32 = Int32.ofNat k.val := by decide +kernel
  unfold chr8
  rw [lo8_mask h0 h1]
  rw [Int32.lt_iff_toInt_lt] at h0 h1
  have e0 : (0 : Int32).toInt = 0 := rfl
  have e1 : (255 : Int32).toInt = 255 := rfl
  obtain ⟨k, hk⟩ : ∃ k : Nat, c.toInt = k := ⟨c.toInt.toNat, by omega⟩
  have hx : c = Int32.ofNat k := Int32.toInt_inj.mp (by rw [hk, Int32.toInt_ofNat_small (by omega)])
  rw [hx]
  exact t ⟨k, by omega⟩
theorem narrow_ch {c : Int32} (h0 : ¬ c < 0) (h1 : ¬ 65535 < c) : narrow .char (.int c) = .int c := by
  have q : narrow .char (.int (pairCh (lo8 c) (hi8 c))) = .int (pairCh (lo8 c) (hi8 c)) := narrow_c _
  rwa [pair_says h0 h1] at q
def Cod (cd : Int32) (n : Nat) (f : Nat → Int32) (V : Cell) : Prop := (cd = 0 ∧ V.slots.size = n ∧ ∀ j, j < n → V.slots[j]? = some (.int (lo8 (f j))) ∧ ¬ 255 < f j) ∨ (cd = 1 ∧ V.slots.size = 2 * n ∧ (∀ j, j < n → V.slots[2 * j]? = some (.int (lo8 (f j))) ∧ V.slots[2 * j + 1]? = some (.int (hi8 (f j)))) ∧ ∃ j, j < n ∧ 255 < f j)
theorem Cod.cd {cd : Int32} {n : Nat} {f : Nat → Int32} {V : Cell} (h : Cod cd n f V) : cd = 0 ∨ cd = 1 := h.imp (fun q => q.1) fun q => q.1
def Txt (x t : Addr) (V : Cell) (cd : Int32) (n : Nat) (f : Nat → Int32) (U : State) : Prop := Exact "java/lang/String" x U ∧ Has x "java/lang/String" "value" "[B" (.ref t) U ∧ Has x "java/lang/String" "coder" "B" (.int cd) U ∧ XT.Arr .byte t V U ∧ Cod cd n f V ∧ ∀ j, j < n → ¬ f j < 0 ∧ ¬ 65535 < f j
theorem Txt.mv {x t : Addr} {V : Cell} {cd : Int32} {n : Nat} {f : Nat → Int32} {U U' : State} (h : Txt x t V cd n f U) (hal : U.vm.Alike U'.vm) (hh : U'.heap = U.heap) : Txt x t V cd n f U' := ⟨h.1.mv hal hh, h.2.1.mv hal hh, h.2.2.1.mv hal hh, h.2.2.2.1.mv hal hh, h.2.2.2.2⟩
namespace IsL
def yN : MethodName := ⟨"java/lang/String", "isLatin1", "()Z"⟩
abbrev yB : ByteArray := jdk_42_method_154_code
theorem d0 : decode yB 0 = .ok (.getstatic 38, 3) := by decide +kernel
theorem d3 : decode yB 3 = .ok (.ifCond (.eq) 14, 3) := by decide +kernel
theorem d6 : decode yB 6 = .ok (.aload_n 0, 1) := by decide +kernel
theorem d7 : decode yB 7 = .ok (.getfield 15, 3) := by decide +kernel
theorem d10 : decode yB 10 = .ok (.ifCond (.ne) 7, 3) := by decide +kernel
theorem d13 : decode yB 13 = .ok (.iconst 1, 1) := by decide +kernel
theorem d14 : decode yB 14 = .ok (.goto 4, 3) := by decide +kernel
theorem d17 : decode yB 17 = .ok (.iconst 0, 1) := by decide +kernel
theorem d18 : decode yB 18 = .ok (.ireturn, 1) := by decide +kernel
def site : List Cond := [.fieldLink "java/lang/String" 38 "java/lang/String" "COMPACT_STRINGS" "Z", .fieldLink "java/lang/String" 15 "java/lang/String" "coder" "B"]
def tab : Cond := tabOf yN yB 1 (some .boolean) site
def P (x : Addr) (cd z : Int32) (args : Array Value) (s : State) : Prop := args = #[.ref x] ∧ Has x "java/lang/String" "coder" "B" (.int cd) s ∧ (cd = 0 ∨ cd = 1) ∧ StaticIs s "java/lang/String" "COMPACT_STRINGS" "Z" (.int z) ∧ ¬ z = 0
def E (cd : Int32) (r : Option Value) (s u : State) : Prop := XT.PureE (some (.int (1 - cd))) r s u
theorem law (l : Launch) (x : Addr) (cd z : Int32) : Law l yN 1 0 0 0 yB 1 (some .boolean) site (P x cd z) (E cd) [] 0 0 := by
  refine Law.of_walk (plainFor_of_name (by decide +kernel)) (by decide +kernel) (by decide +kernel) (by decide) (fun _ _ h => by rw [h.1]; rfl) (fun _ U U' hal hh h => ⟨h.1, h.2.1.mv hal hh, h.2.2.1, h.2.2.2.1.there hal hh, h.2.2.2.2⟩) (fun r U U' V V' h1 hal h2 h => XT.PureE.mv r U U' V V' h1 hal h2 h) ?_
  intro p e s m args below meth c s₁ X0 hexec hbytes hml hret hlk hnm hown hh0 W hP
  obtain ⟨rfl, hx, hc, s1, hz⟩ := hP
  have c1 : Steps p.tables e below (s₁.setTop (entryFrame m #[.ref x] 1)) (s₁.setTop (mkF m 0 #[.val (.ref x)] [])) := entry rfl
  obtain ⟨T2, X2, q2, st2⟩ := X0.sget hexec hown (wk W (.fieldLink "java/lang/String" 38 "java/lang/String" "COMPACT_STRINGS" "Z")) s1 (fun _ _ h => by rw [hh0]; exact h) (g := (mkF m 0 #[.val (.ref x)] [])) rfl (hb hbytes d0)
  have hh2 := q2.trans hh0
  have c3 : Steps p.tables e below (s₁.setTop (entryFrame m #[.ref x] 1)) (T2.setTop (mkF m 7 #[.val (.ref x)] [.ref x])) := (c1.trans (st2 _ (Steps.refl _))).trans (by
    refine XS.ifNo X2.here hexec rfl (hb hbytes d3) rfl (i0_eq_f hz) ?_
    refine XS.aloadN X2.here hexec rfl (hb hbytes d6) rfl rfl ?_
    exact Steps.refl _)
  obtain ⟨T4, X4, q4, st4⟩ := X2.hget hexec hown (wk W (.fieldLink "java/lang/String" 15 "java/lang/String" "coder" "B")) (hx.mv X2.warmed.alike hh2) (g := (mkF m 7 #[.val (.ref x)] [.ref x])) rfl (rest := []) rfl (hb hbytes d7)
  have c5 : Steps p.tables e below (s₁.setTop (entryFrame m #[.ref x] 1)) (T4.setTop (mkF m 10 #[.val (.ref x)] [.int cd])) := c3.trans (st4 _ (Steps.refl _))
  have c6 : Steps p.tables e below (s₁.setTop (entryFrame m #[.ref x] 1)) (T4.setTop (mkF m 18 #[.val (.ref x)] [.int (1 - cd)])) := by
    rcases hc with rfl | rfl
    · exact c5.trans (by
        refine XS.ifNo X4.here hexec rfl (hb hbytes d10) rfl (i0_ne_f rfl) ?_
        refine iconstV X4.here hexec rfl 1 (hb hbytes d13) (by decide) ?_
        refine XS.goto X4.here hexec rfl (pc0 := 14) rfl (hb hbytes d14) (by decide) rfl ?_
        exact Steps.refl _)
    · exact c5.trans (by
        refine XS.ifYes X4.here hexec rfl (pc0 := 10) rfl (hb hbytes d10) rfl (i0_ne_t (by decide)) (by decide) rfl ?_
        refine iconstV X4.here hexec rfl 0 (hb hbytes d17) (by decide) ?_
        exact Steps.refl _)
  exact ⟨T4, some (.int (1 - cd)), _, _, _, X4, rfl, rfl, rfl, (fun h => by cases h), ⟨rfl, q4.trans hh2⟩, fun fs hl => c6.trans (X4.ireturnOut hexec hret (by rcases hc with rfl | rfl <;> rfl) (Or.inr (Or.inl rfl)) (hb hbytes d18) hl)⟩
end IsL
namespace LChA
def yN : MethodName := ⟨"java/lang/StringLatin1", "charAt", "([BI)C"⟩
abbrev yB : ByteArray := jdk_43_method_2_code
theorem d0 : decode yB 0 = .ok (.iload_n 1, 1) := by decide +kernel
theorem d1 : decode yB 1 = .ok (.aload_n 0, 1) := by decide +kernel
theorem d2 : decode yB 2 = .ok (.arraylength, 1) := by decide +kernel
theorem d3 : decode yB 3 = .ok (.invokestatic 9, 3) := by decide +kernel
theorem d6 : decode yB 6 = .ok (.aload_n 0, 1) := by decide +kernel
theorem d7 : decode yB 7 = .ok (.iload_n 1, 1) := by decide +kernel
theorem d8 : decode yB 8 = .ok (.baload, 1) := by decide +kernel
theorem d9 : decode yB 9 = .ok (.sipush 255, 3) := by decide +kernel
theorem d12 : decode yB 12 = .ok (.iand, 1) := by decide +kernel
theorem d13 : decode yB 13 = .ok (.i2c, 1) := by decide +kernel
theorem d14 : decode yB 14 = .ok (.ireturn, 1) := by decide +kernel
def site : List Cond := [JO.Str_checkIndex.tab] ++ staticW "java/lang/StringLatin1" 9 JO.Str_checkIndex.yN
def tab : Cond := tabOf yN yB 2 (some .char) site
def P (t : Addr) (V : Cell) (i : Nat) (u : Int32) (fm : Value) (args : Array Value) (s : State) : Prop := args = #[.ref t, .int (Int32.ofNat i)] ∧ XT.Arr .byte t V s ∧ V.slots[i]? = some (.int u) ∧ (StaticIs s "jdk/internal/util/Preconditions" "SIOOBE_FORMATTER" "Ljava/util/function/BiFunction;" fm ∧ fm.isRef = true)
def E (u : Int32) (r : Option Value) (s w : State) : Prop := XT.PureE (some (.int (chr8 u))) r s w
theorem law (l : Launch) (t : Addr) (V : Cell) (i : Nat) (u : Int32) (fm : Value) : Law l yN 2 2 2 27 yB 2 (some .char) site (P t V i u fm) (E u) [] 0 0 := by
  refine Law.of_walk (plainFor_of_name (by decide +kernel)) (by decide +kernel) (by decide +kernel) (by decide) (fun _ _ h => by rw [h.1]; rfl) (fun _ U U' hal hh h => ⟨h.1, h.2.1.mv hal hh, h.2.2.1, h.2.2.2.1.there hal hh, h.2.2.2.2⟩) (fun r U U' V V' h1 hal h2 h => XT.PureE.mv r U U' V V' h1 hal h2 h) ?_
  intro p e s m args below meth c s₁ X0 hexec hbytes hml hret hlk hnm hown hh0 W hP
  obtain ⟨rfl, hV, hu, s1, rf⟩ := hP
  have v31 := hV.2.2.2
  have hi : i < V.slots.size := (Array.getElem?_eq_some_iff.mp hu).1
  have c1 : Steps p.tables e below (s₁.setTop (entryFrame m #[.ref t, .int (Int32.ofNat i)] 2)) (s₁.setTop (mkF m 0 #[.val (.ref t), .val (.int (Int32.ofNat i))] [])) := entry rfl
  have c2 : Steps p.tables e below (s₁.setTop (entryFrame m #[.ref t, .int (Int32.ofNat i)] 2)) (s₁.setTop (mkF m 3 #[.val (.ref t), .val (.int (Int32.ofNat i))] [.int (Int32.ofNat V.slots.size), .int (Int32.ofNat i)])) := c1.trans (by
    refine XS.iloadN X0.here hexec rfl (hb hbytes d0) rfl ?_
    refine XS.aloadN X0.here hexec rfl (hb hbytes d1) rfl rfl ?_
    refine X0.alen hexec (hV.mv X0.warmed.alike hh0) rfl rfl (hb hbytes d2) ?_
    exact Steps.refl _)
  obtain ⟨v3, T3, X3, E3, g3⟩ := X0.callS hexec (JO.Str_checkIndex.law l (Int32.ofNat i) (Int32.ofNat V.slots.size) fm) hown (wks W (staticW "java/lang/StringLatin1" 9 JO.Str_checkIndex.yN)) (wk W JO.Str_checkIndex.tab) (W := 0) (Nat.le_of_ble_eq_true rfl) (Nat.le_of_ble_eq_true rfl) (Nat.le_refl _) (Nat.le_refl _) (g := (mkF m 3 #[.val (.ref t), .val (.int (Int32.ofNat i))] [.int (Int32.ofNat V.slots.size), .int (Int32.ofNat i)])) rfl (by rw [hml]; rfl) c2 (argsL := [.int (Int32.ofNat i), .int (Int32.ofNat V.slots.size)]) (rest := []) rfl rfl (by show 2 * 0 + 0 ≤ _; decide) (hb hbytes d3) (⟨rfl, rf, s1.there X0.warmed.alike hh0, Int32.ofNat_not_neg (by omega), lt32 v31 hi⟩)
  obtain ⟨rfl, q3⟩ := E3
  have hh3 := q3.trans hh0
  have c4 : Steps p.tables e below (s₁.setTop (entryFrame m #[.ref t, .int (Int32.ofNat i)] 2)) (T3.setTop (mkF m 14 #[.val (.ref t), .val (.int (Int32.ofNat i))] [.int (chr8 u)])) := Steps.trans g3 (by
    refine XS.aloadN X3.here hexec rfl (hb hbytes d6) rfl rfl ?_
    refine XS.iloadN X3.here hexec rfl (hb hbytes d7) rfl ?_
    refine X3.aget hexec (hV.mv X3.warmed.alike hh3) rfl hu rfl rfl (hb hbytes d8) ?_
    refine sipushV X3.here hexec rfl 255 (hb hbytes d9) (by decide) ?_
    refine XS.iand X3.here hexec rfl (hb hbytes d12) rfl ?_
    refine i2c X3.here hexec rfl (hb hbytes d13) rfl ?_
    exact Steps.refl _)
  exact ⟨T3, some (.int (chr8 u)), _, _, _, X3, rfl, rfl, rfl, (fun h => by cases h), ⟨rfl, hh3⟩, fun fs hl => c4.trans (X3.ireturnOut hexec hret (narrow_c _) (Or.inr (Or.inr (Or.inr (Or.inl rfl)))) (hb hbytes d14) hl)⟩
end LChA
end StrChars
namespace StrChars.Road
open Jvm Sem ClassFile Op Lib Jvm.Stand Jvm.Free Jvm.Free.XT
open Jvm.Lib.Cold (StaticIs)
theorem consq {a : Array Value} {s : State} {c : Jvm.Cond} {L : List Jvm.Cond} (h0 : c.before a s = true) (h : ∀ w ∈ L, w.before a s = true) : ∀ w ∈ c :: L, w.before a s = true := fun w hw => (List.mem_cons.mp hw).elim (fun e => e ▸ h0) (h w)
def wideBytes : List Int32 → List Value
  | [] => []
  | c :: cs => .int (lo8 c) :: .int (hi8 c) :: wideBytes cs
theorem wide_lo (d : Value) : ∀ (cs : List Int32) (j : Nat), j < cs.length → (wideBytes cs).getD (2 * j) d = .int (lo8 (cs.getD j 0))
  | [], j, h => absurd h (Nat.not_lt_zero j)
  | c :: cs, 0, _ => rfl
  | c :: cs, j + 1, h => by
    have q := wide_lo d cs j (by simpa using h)
    rw [show 2 * (j + 1) = 2 * j + 1 + 1 from by omega]
    simpa [wideBytes] using q
theorem wide_hi (d : Value) : ∀ (cs : List Int32) (j : Nat), j < cs.length → (wideBytes cs).getD (2 * j + 1) d = .int (hi8 (cs.getD j 0))
  | [], j, h => absurd h (Nat.not_lt_zero j)
  | c :: cs, 0, _ => rfl
  | c :: cs, j + 1, h => by
    have q := wide_hi d cs j (by simpa using h)
    rw [show 2 * (j + 1) + 1 = 2 * j + 1 + 1 + 1 from by omega]
    simpa [wideBytes] using q
theorem low_at (d : Value) (cs : List Int32) (j : Nat) (h : j < cs.length) : (cs.map fun c => Value.int (lo8 c)).getD j d = .int (lo8 (cs.getD j 0)) := by
  simp [List.getD_eq_getElem?_getD, h]
def CodA (cs : List Int32) (cd N2 : Int32) (vs : List Value) : Prop := (cd = 0 ∧ N2 = Int32.ofNat cs.length ∧ vs = (cs.map fun c => Value.int (lo8 c)) ∧ ∀ c ∈ cs, ¬ 255 < c) ∨ (cd = 1 ∧ N2 = Int32.ofNat (2 * cs.length) ∧ vs = wideBytes cs ∧ ∃ c ∈ cs, 255 < c)
theorem CodA.cod {cs : List Int32} {cd N2 : Int32} {vs : List Value} {V : Cell} (h : CodA cs cd N2 vs) (hn : 2 * cs.length < 2 ^ 31) (hs : V.slots.size = N2.toNatClampNeg) (hv : RoadKit.Has V vs (.int 0)) : Cod cd cs.length (fun j => cs.getD j 0) V := by
  rcases h with ⟨rfl, rfl, rfl, h⟩ | ⟨rfl, rfl, rfl, c, hc, hw⟩
  · rw [n32 (by omega)] at hs
    exact Or.inl ⟨rfl, hs, fun j hj => ⟨by rw [hv j (by omega), low_at _ _ _ hj], by
      have e : cs.getD j 0 = cs[j] := by simp [List.getD_eq_getElem?_getD, hj]
      show ¬ 255 < cs.getD j 0
      rw [e]; exact h _ (List.getElem_mem _)⟩⟩
  · rw [n32 (by omega)] at hs
    obtain ⟨j, hj, rfl⟩ := List.getElem_of_mem hc
    exact Or.inr ⟨rfl, hs, fun j hj => ⟨by rw [hv _ (by omega), wide_lo _ _ _ hj], by rw [hv _ (by omega), wide_hi _ _ _ hj]⟩, j, hj, by
      have e : cs.getD j 0 = cs[j] := by simp [List.getD_eq_getElem?_getD, hj]
      show 255 < cs.getD j 0
      rw [e]; exact hw⟩
theorem strObj {Z U : State} {a0 : Array Value} {kI : Nat} (wi : (Jvm.Cond.instantiable ST kI).before a0 Z = true) (al : Z.vm.Alike U.vm) {x : Addr} {v0 c0 : Value} (E : RoadKit.Exa Z U.heap x ST) (V : RoadKit.Fld Z U.heap x ST "value" "[B" v0) (C : RoadKit.Fld Z U.heap x ST "coder" "B" c0) :
    ∃ (D : Cell) (fV fC : Field), Blank ST x D U ∧ Found ST "value" "[B" fV U ∧ Found ST "coder" "B" fC U ∧ D.slots[fV.slot]? = some v0 ∧ D.slots[fC.slot]? = some c0 ∧ RoadKit.slotOf Z ST "value" "[B" = fV.slot ∧ RoadKit.slotOf Z ST "coder" "B" = fC.slot := by
  obtain ⟨D, cfV, kV, iV, fV, hD, gV, stV, knV, obV, asV, slV⟩ := V
  obtain ⟨D', cfC, kC, iC, fC, hD', gC, stC, -, -, asC, slC⟩ := C
  cases hD.symm.trans hD'
  obtain ⟨D2, kD, e1, e2, e3, e4, e5⟩ := E
  cases hD.symm.trans e1
  obtain ⟨c2, k2, i1, i2, i3, -⟩ := Cond.instantiable_spec wi
  cases e2.symm.trans i1
  cases e3.symm.trans i2
  obtain ⟨kU, u1, u2⟩ := al.2.2 _ _ e3
  exact ⟨D, fV, fC, ⟨hD, ⟨knV, fun q hq => by rw [hq] at obV; cases obV⟩, by rw [al.findClass]; exact e2, kU, u1, by rw [u2]; exact i3, by rw [u2]; exact e5 i3⟩, ⟨SBG.found_only al ⟨cfV, kV, iV, gV⟩, stV⟩, ⟨SBG.found_only al ⟨cfC, kC, iC, gC⟩, stC⟩, slV, slC, by simp [RoadKit.slotOf, gV], by simp [RoadKit.slotOf, gC]⟩
theorem sta_is {Z U : State} (al : Z.vm.Alike U.vm) {C n d : String} {v : Value} (S : RoadKit.Sta Z U.heap C n d v) : StaticIs U C n d v := by
  obtain ⟨cfS, iS, kS, fS, st, cS, t1, t2, t3, t4, t5, t6, t7⟩ := S
  exact StaticIs.there (s := { Z with heap := U.heap }) ⟨cfS, iS, kS, fS, st, cS, t1, t2, t3, t4, t5, (fun q => by rw [q] at t6; cases t6), t7⟩ al rfl
end StrChars.Road
namespace StrChars.Road
open Jvm Sem ClassFile Op Lib Jvm.Stand Jvm.Free Jvm.Free.XT
open Jvm.Lib.Cold (StaticIs)
theorem txt_of {Z U : State} {a0 : Array Value} {kI : Nat} (wi : (Jvm.Cond.instantiable ST kI).before a0 Z = true) (al : Z.vm.Alike U.vm) {x t : Addr} {kb : ClassId} {cs : List Int32} {cd N2 : Int32} {vs : List Value} (E : RoadKit.Exa Z U.heap x ST) (V : RoadKit.Fld Z U.heap x ST "value" "[B" (.ref t)) (C : RoadKit.Fld Z U.heap x ST "coder" "B" (.int cd)) (K : RoadKit.Arv Z U.heap t kb .byte N2 vs (.int 0)) (hc : CodA cs cd N2 vs) (hb : ∀ c ∈ cs, ¬ c < 0 ∧ ¬ (65535 : Int32) < c) (l2 : cs.length ≤ 4000) :
    ∃ A, Txt x t A cd cs.length (fun j => cs.getD j 0) U := by
  obtain ⟨A, K1, K2, K3, K4, K5, K6⟩ := K
  have hcod := hc.cod (by omega) K3 K5
  obtain ⟨D, fV, fC, hB, F1, F2, g1, g2, -, -⟩ := strObj wi al E V C
  exact ⟨A, ⟨_, hB.2.2.1, D, hB.1, rfl, by cases q : D.vm <;> first | rfl | exact absurd q (hB.2.1.2 _)⟩, Has.of hB F1 g1, Has.of hB F2 g2, ⟨K1.1, State.isArrayOf_alike al K1.2.1, K1.2.2, by rcases hcod with ⟨-, q, -⟩ | ⟨-, q, -⟩ <;> omega⟩, hcod, fun j hj => by
    have e : cs.getD j 0 = cs[j] := by simp [List.getD_eq_getElem?_getD, hj]
    show ¬ cs.getD j 0 < 0 ∧ ¬ 65535 < cs.getD j 0
    rw [e]; exact hb _ (List.getElem_mem _)⟩
end StrChars.Road
namespace StrChars
open Jvm Sem ClassFile Op Lib Jvm.Stand Jvm.Free.XT Jvm.Free.ALB Jvm.Free.JM Jvm.Free
open Jvm.Lib.Cold (StaticIs)
namespace ChN
def yN : MethodName := ⟨"java/lang/String", "charAt", "(I)C"⟩
abbrev yB : ByteArray := jdk_42_method_56_code
theorem d0 : decode yB 0 = .ok (.aload_n 0, 1) := by decide +kernel
theorem d1 : decode yB 1 = .ok (.invokevirtual 492, 3) := by decide +kernel
theorem d4 : decode yB 4 = .ok (.ifCond (.eq) 12, 3) := by decide +kernel
theorem d7 : decode yB 7 = .ok (.aload_n 0, 1) := by decide +kernel
theorem d8 : decode yB 8 = .ok (.getfield 9, 3) := by decide +kernel
theorem d11 : decode yB 11 = .ok (.iload_n 1, 1) := by decide +kernel
theorem d12 : decode yB 12 = .ok (.invokestatic 495, 3) := by decide +kernel
theorem d15 : decode yB 15 = .ok (.ireturn, 1) := by decide +kernel
def site : List Cond := [.fieldLink "java/lang/String" 9 "java/lang/String" "value" "[B", IsL.tab, LChA.tab] ++ virtW "java/lang/String" 492 "java/lang/String" IsL.yN IsL.yN ++ staticW "java/lang/String" 495 LChA.yN
def tab : Cond := tabOf yN yB 2 (some .char) site
def P (x t : Addr) (V : Cell) (n : Nat) (f : Nat → Int32) (z : Int32) (fm : Value) (i : Nat) (args : Array Value) (s : State) : Prop := args = #[.ref x, .int (Int32.ofNat i)] ∧ Txt x t V 0 n f s ∧ i < n ∧ StaticIs s "java/lang/String" "COMPACT_STRINGS" "Z" (.int z) ∧ ¬ z = 0 ∧ StaticIs s "jdk/internal/util/Preconditions" "SIOOBE_FORMATTER" "Ljava/util/function/BiFunction;" fm ∧ fm.isRef = true
def E (f : Nat → Int32) (i : Nat) (r : Option Value) (s u : State) : Prop := XT.PureE (some (.int (f i))) r s u
theorem law (l : Launch) (x t : Addr) (V : Cell) (n : Nat) (f : Nat → Int32) (z : Int32) (fm : Value) (i : Nat) : Law l yN 2 1 3 40 yB 2 (some .char) site (P x t V n f z fm i) (E f i) [] 0 0 := by
  refine Law.of_walk (plainFor_of_name (by decide +kernel)) (by decide +kernel) (by decide +kernel) (by decide) (fun _ _ h => by rw [h.1]; rfl) (fun _ U U' hal hh h => ⟨h.1, h.2.1.mv hal hh, h.2.2.1, h.2.2.2.1.there hal hh, h.2.2.2.2.1, h.2.2.2.2.2.1.there hal hh, h.2.2.2.2.2.2⟩) (fun r U U' V V' h1 hal h2 h => XT.PureE.mv r U U' V V' h1 hal h2 h) ?_
  intro p e s m args below meth c s₁ X0 hexec hbytes hml hret hlk hnm hown hh0 W hP
  obtain ⟨rfl, hx, hi, s1, hz, s3, rf⟩ := hP
  have v31 := hx.2.2.2.1.2.2.2
  have hr := hx.2.2.2.2.2 i hi
  have hx0 := hx.mv X0.warmed.alike hh0
  have c1 : Steps p.tables e below (s₁.setTop (entryFrame m #[.ref x, .int (Int32.ofNat i)] 2)) (s₁.setTop (mkF m 1 #[.val (.ref x), .val (.int (Int32.ofNat i))] [.ref x])) := Steps.trans (entry rfl) (by
    show Steps p.tables e below (s₁.setTop (mkF m 0 #[.val (.ref x), .val (.int (Int32.ofNat i))] [])) _
    refine XS.aloadN X0.here hexec rfl (hb hbytes d0) rfl rfl ?_
    exact Steps.refl _)
  obtain ⟨v2, T2, X2, E2, g2⟩ := X0.callV hexec (IsL.law l x 0 z) hown (wks W (virtW "java/lang/String" 492 "java/lang/String" IsL.yN IsL.yN)) rfl (by decide) (wk W IsL.tab) (W := 0) (Nat.le_of_ble_eq_true rfl) (Nat.le_of_ble_eq_true rfl) (Nat.le_refl _) (Nat.le_refl _) (hx0.1.fc X0.warmed.alike) hx0.1.is (g := (mkF m 1 #[.val (.ref x), .val (.int (Int32.ofNat i))] [.ref x])) rfl (by rw [hml]; rfl) c1 (argsL := []) (rest := []) rfl rfl (by show 2 * 0 + 0 ≤ _; decide) (hb hbytes d1) (⟨rfl, hx0.2.2.1, hx.2.2.2.2.1.cd, s1.there X0.warmed.alike hh0, hz⟩)
  obtain ⟨rfl, q2⟩ := E2
  have hh2 := q2.trans hh0
  have hx2 := hx.mv X2.warmed.alike hh2
  obtain ⟨-, k1, k2⟩ | ⟨k0, -⟩ := hx.2.2.2.2.1
  · have c3 : Steps p.tables e below (s₁.setTop (entryFrame m #[.ref x, .int (Int32.ofNat i)] 2)) (T2.setTop (mkF m 8 #[.val (.ref x), .val (.int (Int32.ofNat i))] [.ref x])) := Steps.trans g2 (by
      refine XS.ifNo X2.here hexec rfl (hb hbytes d4) rfl (i0_eq_f (by decide)) ?_
      refine XS.aloadN X2.here hexec rfl (hb hbytes d7) rfl rfl ?_
      exact Steps.refl _)
    obtain ⟨T4, X4, q4, st4⟩ := X2.hget hexec hown (wk W (.fieldLink "java/lang/String" 9 "java/lang/String" "value" "[B")) hx2.2.1 (g := (mkF m 8 #[.val (.ref x), .val (.int (Int32.ofNat i))] [.ref x])) rfl (rest := []) rfl (hb hbytes d8)
    have hh4 := q4.trans hh2
    have c5 : Steps p.tables e below (s₁.setTop (entryFrame m #[.ref x, .int (Int32.ofNat i)] 2)) (T4.setTop (mkF m 12 #[.val (.ref x), .val (.int (Int32.ofNat i))] [.int (Int32.ofNat i), .ref t])) := (c3.trans (st4 _ (Steps.refl _))).trans (by
      refine XS.iloadN X4.here hexec rfl (hb hbytes d11) rfl ?_
      exact Steps.refl _)
    obtain ⟨v6, T6, X6, E6, g6⟩ := X4.callS hexec (LChA.law l t V i (lo8 (f i)) fm) hown (wks W (staticW "java/lang/String" 495 LChA.yN)) (wk W LChA.tab) (W := 0) (Nat.le_of_ble_eq_true rfl) (Nat.le_of_ble_eq_true rfl) (Nat.le_refl _) (Nat.le_refl _) (g := (mkF m 12 #[.val (.ref x), .val (.int (Int32.ofNat i))] [.int (Int32.ofNat i), .ref t])) rfl (by rw [hml]; rfl) c5 (argsL := [.ref t, .int (Int32.ofNat i)]) (rest := []) rfl rfl (by show 2 * 0 + 0 ≤ _; decide) (hb hbytes d12) (⟨rfl, hx.2.2.2.1.mv X4.warmed.alike hh4, (k2 i hi).1, s3.there X4.warmed.alike hh4, rf⟩)
    obtain ⟨rfl, q6⟩ := E6
    rw [chr8_lo8 hr.1 (k2 i hi).2] at g6
    exact ⟨T6, some (.int (f i)), _, _, _, X6, rfl, rfl, rfl, (fun h => by cases h), ⟨rfl, q6.trans hh4⟩, fun fs hl => Steps.trans g6 (X6.ireturnOut hexec hret (narrow_ch hr.1 hr.2) (Or.inr (Or.inr (Or.inr (Or.inl rfl)))) (hb hbytes d15) hl)⟩
  · exact absurd k0 (by decide)
theorem pays {l : Launch} {R : Room} {p : Program} {e : Env} {below : List Frame} {s : State} {sargs : Array Value} {len W : Nat} (x t : Addr) (V : Cell) (n : Nat) (f : Nat → Int32) (z : Int32) (fm : Value) (i : Nat) (htab : tab.before sargs s = true) (hfr : 4 ≤ R.frames) (hlo : W + 53 ≤ R.locals) :
    Back l R p e below s sargs yN len W (fun A₁ a₁ => A₁.cells + 0 ≤ R.cells ∧ A₁.slots + 0 ≤ R.slots ∧ P x t V n f z fm i a₁ A₁.U) (fun A₁ _ v₁ B₁ => E f i v₁ A₁.U B₁.U ∧ B₁.locs = A₁.locs ++ [] ∧ B₁.cells = A₁.cells + 0 ∧ B₁.slots = A₁.slots + 0) :=
  (law l x t V n f z fm i).pays htab hfr (by omega)
end ChN
end StrChars
namespace StrChars.Road
open Jvm Sem ClassFile Op Lib Jvm.Stand Jvm.Free Jvm.Free.XT
open Jvm.Lib.Cold (StaticIs)
abbrev wordsChN : List Jvm.Cond := [.code ChN.yN ChN.yB 2 (some .char), .initialized ST, .fieldLink ST 9 ST "value" "[B", .fieldLink ST 38 ST "COMPACT_STRINGS" "Z", .fieldLink ST 15 ST "coder" "B", .code IsL.yN IsL.yB 1 (some .boolean), .methodLink ST 492 IsL.yN, .declares IsL.yN, .selects ST IsL.yN IsL.yN, .instanceMethod IsL.yN,
  .methodLink ST 495 LChA.yN, .static LChA.yN, .code LChA.yN LChA.yB 2 (some .char), .initialized "java/lang/StringLatin1", .methodLink "java/lang/StringLatin1" 9 JO.Str_checkIndex.yN, .static JO.Str_checkIndex.yN, .code JO.Str_checkIndex.yN JO.Str_checkIndex.yB 2 none,
  .fieldLink ST 1053 "jdk/internal/util/Preconditions" "SIOOBE_FORMATTER" "Ljava/util/function/BiFunction;", .methodLink ST 1059 JC.PreCheck.yN, .static JC.PreCheck.yN, .code JC.PreCheck.yN JC.PreCheck.yB 3 (some .int), .initialized "jdk/internal/util/Preconditions"]
theorem tabChN_of {a : Array Value} {s : State} (h : ∀ w ∈ wordsChN, w.before a s = true) : ChN.tab.before a s = true := by
  have hp : JC.PreCheck.tab.before a s = true := unparts (wk h (.code JC.PreCheck.yN JC.PreCheck.yB 3 (some .int))) (wks h (.initialized JC.PreCheck.yN.cls :: JC.PreCheck.site))
  have qk := consq hp h
  have hk : JO.Str_checkIndex.tab.before a s = true := unparts (wk qk (.code JO.Str_checkIndex.yN JO.Str_checkIndex.yB 2 none)) (wks qk (.initialized JO.Str_checkIndex.yN.cls :: JO.Str_checkIndex.site))
  have ql := consq hk h
  have hl : LChA.tab.before a s = true := unparts (wk ql (.code LChA.yN LChA.yB 2 (some .char))) (wks ql (.initialized LChA.yN.cls :: LChA.site))
  have hi : IsL.tab.before a s = true := unparts (wk h (.code IsL.yN IsL.yB 1 (some .boolean))) (wks h (.initialized IsL.yN.cls :: IsL.site))
  have q := consq hi (consq hl h)
  exact unparts (wk q (.code ChN.yN ChN.yB 2 (some .char))) (wks q (.initialized ChN.yN.cls :: ChN.site))
theorem movedChN {Z s : State} {a0 args : Array Value} (hZ : Z.Warmed39 s.vm) (hw : ∀ d ∈ wordsChN, d.before a0 Z = true) : ∀ d ∈ wordsChN, d.before args s = true := fun d hd => by
  have t : ∀ d ∈ wordsChN, (d.onTables && d.keepsFace) = true := by decide +kernel
  exact RoadKit.mv hZ (hw d hd) (t d hd)
theorem chN {p : Program} {l : Launch} {e : Env} {R : Room} {s : State} {args : Array Value} {below : List Frame} {len W : Nat} {Z : State} {a0 : Array Value} {h : Heap} (hZ : Z.Warmed39 s.vm) (hw : ∀ d ∈ wordsChN, d.before a0 Z = true) {kI : Nat} (wi : (Jvm.Cond.instantiable ST kI).before a0 Z = true)
    {x t : Addr} {kb : ClassId} {cs : List Int32} {N2 z : Int32} {vs : List Value} {fm : Value} {i : Nat} {j : Int32} (E : RoadKit.Exa Z h x ST) (V : RoadKit.Fld Z h x ST "value" "[B" (.ref t)) (C : RoadKit.Fld Z h x ST "coder" "B" (.int 0)) (K : RoadKit.Arv Z h t kb .byte N2 vs (.int 0)) (hc : CodA cs 0 N2 vs) (hb : ∀ c ∈ cs, ¬ c < 0 ∧ ¬ (65535 : Int32) < c)
    (S : RoadKit.Sta Z h ST "COMPACT_STRINGS" "Z" (.int z)) (hz : ¬ z = 0) (F : RoadKit.Sta Z h "jdk/internal/util/Preconditions" "SIOOBE_FORMATTER" "Ljava/util/function/BiFunction;" fm) (rf : fm.isRef = true) (l2 : cs.length ≤ 4000) (hi : i < cs.length) (hj : j = Int32.ofNat i) (hfr : 4 ≤ R.frames) (hlo : W + 53 ≤ R.locals) :
    Back l R p e below s args (⟨"java/lang/String", "charAt", "(I)C"⟩ : MethodName) len W (fun P a => a = #[.ref x, .int j] ∧ P.U.heap = h ∧ P.cells + 0 ≤ R.cells ∧ P.slots + 0 ≤ R.slots)
      (fun P _ v B => ∃ L, (v = some (.int (cs.getD i 0)) ∧ L = [] ∧ B.U.heap = h) ∧ B.locs = P.locs ++ L ∧ B.cells = P.cells + 0 ∧ B.slots = P.slots + 0) := by
  subst hj
  intro m meth c P g ig mk a X hg hsize hdg hW hn hp'
  obtain ⟨rfl, rfl, r1, r2⟩ := hp'
  have al : Z.vm.Alike P.U.vm := hZ.alike.trans X.warmed.alike
  obtain ⟨A, hx⟩ := txt_of wi al E V C K hc hb l2
  obtain ⟨v, B, X', ⟨⟨hv, hh⟩, hl, hk, hs⟩, st⟩ := ChN.pays x t A cs.length (fun j => cs.getD j 0) z fm i (tabChN_of (movedChN hZ hw)) hfr hlo m meth c P g ig mk _ X hg hsize hdg hW hn ⟨r1, r2, rfl, hx, hi, sta_is al S, hz, sta_is al F, rf⟩
  exact ⟨v, B, X', ⟨[], ⟨hv, rfl, hh⟩, hl, hk, hs⟩, st⟩
theorem codOf {cs : List Int32} {n : Nat} (hn : cs.length = n) (hb : ∀ c ∈ cs, ¬ 255 < c) : CodA cs 0 (Int32.ofNat n) ((cs.map lo8).map Value.int) := Or.inl ⟨rfl, by rw [hn], by simp [List.map_map, Function.comp_def], hb⟩
end StrChars.Road
end Jvm.Pilot.@@N@@
namespace Jvm.Pilot.@@N@@
open Jvm Jvm.ClassFile Sem Op Lib Jvm.Free Jvm.Stand Jvm.LawKit Jvm.RoadKit Bundle Jvm.Pilot.@@N@@.Jvm.D
theorem own_booked (s : State) (n : Nat) : s.Booked s.vm n := fun j p hj hp => by
  have := (Array.getElem?_eq_some_iff.mp hp).1
  omega
theorem own_mono {s t : State} {o : Outcome} {L : List Loc} {k n k' n' : Nat} (h : ReturnedEndW s o t L k n) (hk : k ≤ k') (hn : n ≤ n') : ReturnedEndW s o t L k' n' := ⟨h.1, h.2.1, h.2.2.1, h.2.2.2.mono hk hn⟩
theorem own_tr {a b c : Int32} (h : a < b) (h' : b ≤ c) : a < c := by
  rw [Int32.lt_iff_toInt_lt] at h ⊢
  rw [Int32.le_iff_toInt_le] at h'
  omega
def own_hex (p1 p2 : Int32) : Int32 := if p1 < (48 : Int32) then (-1) else if (57 : Int32) < p1 then (if p1 < (65 : Int32) then (-1) else if (70 : Int32) < p1 then (if p1 < (97 : Int32) then (-1) else if (102 : Int32) < p1 then (-1) else if p2 = (0 : Int32) then (-1) else ((p1 - (97 : Int32)) + (10 : Int32))) else ((p1 - (65 : Int32)) + (10 : Int32))) else (p1 - (48 : Int32))
theorem d1_0 : decode prog_34_method_7_code 0 = .ok (.iconst (-1), 1) := by decide +kernel
theorem d1_1 : decode prog_34_method_7_code 1 = .ok (.istore_n 2, 1) := by decide +kernel
theorem d1_2 : decode prog_34_method_7_code 2 = .ok (.iload_n 0, 1) := by decide +kernel
theorem d1_3 : decode prog_34_method_7_code 3 = .ok (.bipush 48, 2) := by decide +kernel
theorem d1_5 : decode prog_34_method_7_code 5 = .ok (.if_icmp .lt 17, 3) := by decide +kernel
theorem d1_8 : decode prog_34_method_7_code 8 = .ok (.iload_n 0, 1) := by decide +kernel
theorem d1_9 : decode prog_34_method_7_code 9 = .ok (.bipush 57, 2) := by decide +kernel
theorem d1_11 : decode prog_34_method_7_code 11 = .ok (.if_icmp .gt 11, 3) := by decide +kernel
theorem d1_14 : decode prog_34_method_7_code 14 = .ok (.iload_n 0, 1) := by decide +kernel
theorem d1_15 : decode prog_34_method_7_code 15 = .ok (.bipush 48, 2) := by decide +kernel
theorem d1_17 : decode prog_34_method_7_code 17 = .ok (.isub, 1) := by decide +kernel
theorem d1_18 : decode prog_34_method_7_code 18 = .ok (.istore_n 2, 1) := by decide +kernel
theorem d1_19 : decode prog_34_method_7_code 19 = .ok (.goto 50, 3) := by decide +kernel
theorem d1_69 : decode prog_34_method_7_code 69 = .ok (.iload_n 2, 1) := by decide +kernel
theorem d1_70 : decode prog_34_method_7_code 70 = .ok (.ireturn, 1) := by decide +kernel
theorem pn_1 : plainName "com/example/dotname/dotname/PercentCoding" = true := by first | (simp [plainName, overriddenIn]; done) | decide +kernel
theorem ef_1 (m : MethodId) (x0 : Int32) (x1 : Int32) : entryFrame m #[(.int x0), (.int x1)] 3 = mkF m 0 #[.val (.int x0), .val (.int x1), .unset] [] := by first | (simp [entryFrame, mkF, argsToLocals, Value.category]; done) | rfl
def Q1 (Z : State) (p1 : Int32) (p2 : Int32) (h0 : Heap) (n0 : Nat) (v : Option Value) (h : Heap) (L : List Loc) : Prop := v = some (.int (own_hex p1 p2)) ∧ Fr n0 L ∧ h = h0
theorem own_h_ff {p1 p2 : Int32} (hc5 : ¬ (p1 < (48 : Int32))) (hc11 : ¬ ((57 : Int32) < p1)) : own_hex p1 p2 = (p1 - (48 : Int32)) := by rw [own_hex, if_neg hc5, if_neg hc11]
set_option maxRecDepth 65536 in
set_option maxHeartbeats 40000000 in
theorem rm1_ff (l : Launch) (Z : State) (a0 : Array Value) (hw : ∀ d ∈ tables_1, d.before a0 Z = true) (ws : List Jvm.Cond) (p1 : Int32) (p2 : Int32) (h0 : Heap) (n0 : Nat) (Z0 : n0 ≤ h0.size) (hc5 : ¬ (p1 < (48 : Int32))) (hc11 : ¬ ((57 : Int32) < p1)) :
    MetFree l (⟨"com/example/dotname/dotname/PercentCoding", "hexDigitValue", "(IZ)I"⟩ : MethodName) (head1 (Jvm.Cond.code (⟨"com/example/dotname/dotname/PercentCoding", "hexDigitValue", "(IZ)I"⟩ : MethodName) prog_34_method_7_code 3 (some .int) :: ws) ({ frames := 0, cells := 0, slots := 0, locals := 0 } : Room)) (fun a U => a = #[(.int p1), (.int p2)] ∧ Z.Warmed39 U.vm ∧ U.heap = h0) (fun _ _ _ _ _ => True) (fun _ U o U' => ∃ v L, o = .returned v ∧ Q1 Z p1 p2 h0 n0 v U'.heap L ∧ FrameEnd U o U' L ({ frames := 0, cells := 0, slots := 0, locals := 0 } : Room).cells ({ frames := 0, cells := 0, slots := 0, locals := 0 } : Room).slots) := by
  refine MetFree.of_bodySF (plainFor_of_name pn_1) hisR ?_
  intro p e s m args below meth c s₁ Bd hml0 hP hK
  obtain ⟨rfl, hZ, hh⟩ := hP
  have hx := Bd.exec
  have hby := Bd.bytes
  have hml : c.maxLocals = 3 := hml0
  have hown : s.vm.findClass "com/example/dotname/dotname/PercentCoding" = some m.cls := findClass_of_methodNamed Bd.named
  have hnm := (name_of_methodNamed Bd.named Bd.method).1
  have X0 : Stand p l e ({ frames := 0, cells := 0, slots := 0, locals := 0 } : Room) s m #[(.int p1), (.int p2)] below meth c s₁ [] 0 0 := Stand.of_body Bd
  have e0 : s₁.heap = h0 := by rw [← hh, Bd.state]; rfl
  have N0 := Fr.nil n0
  have pre0 : ∀ t, Steps p.tables e below (s₁.setTop (mkF m 0 #[.val (.int p1), .val (.int p2), .unset] [])) t → Steps p.tables e below (s₁.setTop (entryFrame m #[(.int p1), (.int p2)] 3)) t := fun t k => castTop (ef_1 m p1 p2) k

  obtain ⟨fs, hr, hrun, hended, hW, hsame⟩ := X0.leave (v := some (.int (p1 - (48 : Int32)))) (fun h => by rw [Bd.returns] at h; cases h)
  refine ⟨_, _, pre0 _ ?_, hrun, hended, _, _, rfl, ?_, ⟨_, rfl⟩, hW, hsame.mono (by decide) (by decide)⟩
  · show Steps p.tables e below (s₁.setTop (mkF m 0 #[.val (.int p1), .val (.int p2), .unset] [])) _
    refine XS.iconst X0.here hx rfl (hb hby d1_0) ?_
    show Steps p.tables e below (s₁.setTop (mkF m 1 #[.val (.int p1), .val (.int p2), .unset] [(.int (-1 : Int32))])) _
    refine XS.istoreN X0.here hx rfl (hb hby d1_1) rfl (l' := #[.val (.int p1), .val (.int p2), .val (.int (-1 : Int32))]) rfl ?_
    show Steps p.tables e below (s₁.setTop (mkF m 2 #[.val (.int p1), .val (.int p2), .val (.int (-1 : Int32))] [])) _
    refine XS.iloadN X0.here hx rfl (hb hby d1_2) rfl ?_
    show Steps p.tables e below (s₁.setTop (mkF m 3 #[.val (.int p1), .val (.int p2), .val (.int (-1 : Int32))] [(.int p1)])) _
    refine XS.bipush X0.here hx rfl (hb hby d1_3) ?_
    show Steps p.tables e below (s₁.setTop (mkF m 5 #[.val (.int p1), .val (.int p2), .val (.int (-1 : Int32))] [(.int (48 : Int32)), (.int p1)])) _
    refine XS.icmpNo X0.here hx rfl (hb hby d1_5) rfl (flt hc5).1 ?_
    show Steps p.tables e below (s₁.setTop (mkF m 8 #[.val (.int p1), .val (.int p2), .val (.int (-1 : Int32))] [])) _
    refine XS.iloadN X0.here hx rfl (hb hby d1_8) rfl ?_
    show Steps p.tables e below (s₁.setTop (mkF m 9 #[.val (.int p1), .val (.int p2), .val (.int (-1 : Int32))] [(.int p1)])) _
    refine XS.bipush X0.here hx rfl (hb hby d1_9) ?_
    show Steps p.tables e below (s₁.setTop (mkF m 11 #[.val (.int p1), .val (.int p2), .val (.int (-1 : Int32))] [(.int (57 : Int32)), (.int p1)])) _
    refine XS.icmpNo X0.here hx rfl (hb hby d1_11) rfl (flt hc11).2.2.1 ?_
    show Steps p.tables e below (s₁.setTop (mkF m 14 #[.val (.int p1), .val (.int p2), .val (.int (-1 : Int32))] [])) _
    refine XS.iloadN X0.here hx rfl (hb hby d1_14) rfl ?_
    show Steps p.tables e below (s₁.setTop (mkF m 15 #[.val (.int p1), .val (.int p2), .val (.int (-1 : Int32))] [(.int p1)])) _
    refine XS.bipush X0.here hx rfl (hb hby d1_15) ?_
    show Steps p.tables e below (s₁.setTop (mkF m 17 #[.val (.int p1), .val (.int p2), .val (.int (-1 : Int32))] [(.int (48 : Int32)), (.int p1)])) _
    refine XS.isub X0.here hx rfl (hb hby d1_17) rfl ?_
    show Steps p.tables e below (s₁.setTop (mkF m 18 #[.val (.int p1), .val (.int p2), .val (.int (-1 : Int32))] [(.int (p1 - (48 : Int32)))])) _
    refine XS.istoreN X0.here hx rfl (hb hby d1_18) rfl (l' := #[.val (.int p1), .val (.int p2), .val (.int (p1 - (48 : Int32)))]) rfl ?_
    show Steps p.tables e below (s₁.setTop (mkF m 19 #[.val (.int p1), .val (.int p2), .val (.int (p1 - (48 : Int32)))] [])) _
    refine XS.goto X0.here hx rfl (pc0 := 19) (pc' := 69) rfl (hb hby d1_19) (by decide) (by decide) ?_
    show Steps p.tables e below (s₁.setTop (mkF m 69 #[.val (.int p1), .val (.int p2), .val (.int (p1 - (48 : Int32)))] [])) _
    refine XS.iloadN X0.here hx rfl (hb hby d1_69) rfl ?_
    show Steps p.tables e below (s₁.setTop (mkF m 70 #[.val (.int p1), .val (.int p2), .val (.int (p1 - (48 : Int32)))] [(.int (p1 - (48 : Int32)))])) _
    exact retI X0 hx Bd.returns (hb hby d1_70) hr
  · show Q1 Z p1 p2 h0 n0 _ s₁.heap _
    rw [e0]
    exact ⟨by rw [own_h_ff hc5 hc11], N0, rfl⟩
theorem d1_22 : decode prog_34_method_7_code 22 = .ok (.iload_n 0, 1) := by decide +kernel
theorem d1_23 : decode prog_34_method_7_code 23 = .ok (.bipush 65, 2) := by decide +kernel
theorem d1_25 : decode prog_34_method_7_code 25 = .ok (.if_icmp .lt 20, 3) := by decide +kernel
theorem d1_45 : decode prog_34_method_7_code 45 = .ok (.iload_n 0, 1) := by decide +kernel
theorem d1_46 : decode prog_34_method_7_code 46 = .ok (.bipush 97, 2) := by decide +kernel
theorem d1_48 : decode prog_34_method_7_code 48 = .ok (.if_icmp .lt 21, 3) := by decide +kernel
theorem own_h_ttt {p1 p2 : Int32} (hc5 : p1 < (48 : Int32)) (hc25 : p1 < (65 : Int32)) (hc48 : p1 < (97 : Int32)) : own_hex p1 p2 = (-1 : Int32) := by rw [own_hex, if_pos hc5]
set_option maxRecDepth 65536 in
set_option maxHeartbeats 40000000 in
theorem rm1_ttt (l : Launch) (Z : State) (a0 : Array Value) (hw : ∀ d ∈ tables_1, d.before a0 Z = true) (ws : List Jvm.Cond) (p1 : Int32) (p2 : Int32) (h0 : Heap) (n0 : Nat) (Z0 : n0 ≤ h0.size) (hc5 : p1 < (48 : Int32)) (hc25 : p1 < (65 : Int32)) (hc48 : p1 < (97 : Int32)) :
    MetFree l (⟨"com/example/dotname/dotname/PercentCoding", "hexDigitValue", "(IZ)I"⟩ : MethodName) (head1 (Jvm.Cond.code (⟨"com/example/dotname/dotname/PercentCoding", "hexDigitValue", "(IZ)I"⟩ : MethodName) prog_34_method_7_code 3 (some .int) :: ws) ({ frames := 0, cells := 0, slots := 0, locals := 0 } : Room)) (fun a U => a = #[(.int p1), (.int p2)] ∧ Z.Warmed39 U.vm ∧ U.heap = h0) (fun _ _ _ _ _ => True) (fun _ U o U' => ∃ v L, o = .returned v ∧ Q1 Z p1 p2 h0 n0 v U'.heap L ∧ FrameEnd U o U' L ({ frames := 0, cells := 0, slots := 0, locals := 0 } : Room).cells ({ frames := 0, cells := 0, slots := 0, locals := 0 } : Room).slots) := by
  refine MetFree.of_bodySF (plainFor_of_name pn_1) hisR ?_
  intro p e s m args below meth c s₁ Bd hml0 hP hK
  obtain ⟨rfl, hZ, hh⟩ := hP
  have hx := Bd.exec
  have hby := Bd.bytes
  have hml : c.maxLocals = 3 := hml0
  have hown : s.vm.findClass "com/example/dotname/dotname/PercentCoding" = some m.cls := findClass_of_methodNamed Bd.named
  have hnm := (name_of_methodNamed Bd.named Bd.method).1
  have X0 : Stand p l e ({ frames := 0, cells := 0, slots := 0, locals := 0 } : Room) s m #[(.int p1), (.int p2)] below meth c s₁ [] 0 0 := Stand.of_body Bd
  have e0 : s₁.heap = h0 := by rw [← hh, Bd.state]; rfl
  have N0 := Fr.nil n0
  have pre0 : ∀ t, Steps p.tables e below (s₁.setTop (mkF m 0 #[.val (.int p1), .val (.int p2), .unset] [])) t → Steps p.tables e below (s₁.setTop (entryFrame m #[(.int p1), (.int p2)] 3)) t := fun t k => castTop (ef_1 m p1 p2) k

  obtain ⟨fs, hr, hrun, hended, hW, hsame⟩ := X0.leave (v := some (.int (-1 : Int32))) (fun h => by rw [Bd.returns] at h; cases h)
  refine ⟨_, _, pre0 _ ?_, hrun, hended, _, _, rfl, ?_, ⟨_, rfl⟩, hW, hsame.mono (by decide) (by decide)⟩
  · show Steps p.tables e below (s₁.setTop (mkF m 0 #[.val (.int p1), .val (.int p2), .unset] [])) _
    refine XS.iconst X0.here hx rfl (hb hby d1_0) ?_
    show Steps p.tables e below (s₁.setTop (mkF m 1 #[.val (.int p1), .val (.int p2), .unset] [(.int (-1 : Int32))])) _
    refine XS.istoreN X0.here hx rfl (hb hby d1_1) rfl (l' := #[.val (.int p1), .val (.int p2), .val (.int (-1 : Int32))]) rfl ?_
    show Steps p.tables e below (s₁.setTop (mkF m 2 #[.val (.int p1), .val (.int p2), .val (.int (-1 : Int32))] [])) _
    refine XS.iloadN X0.here hx rfl (hb hby d1_2) rfl ?_
    show Steps p.tables e below (s₁.setTop (mkF m 3 #[.val (.int p1), .val (.int p2), .val (.int (-1 : Int32))] [(.int p1)])) _
    refine XS.bipush X0.here hx rfl (hb hby d1_3) ?_
    show Steps p.tables e below (s₁.setTop (mkF m 5 #[.val (.int p1), .val (.int p2), .val (.int (-1 : Int32))] [(.int (48 : Int32)), (.int p1)])) _
    refine XS.icmpYes X0.here hx rfl (pc0 := 5) (pc' := 22) rfl (hb hby d1_5) rfl (tlt hc5).1 (by decide) (by decide) ?_
    show Steps p.tables e below (s₁.setTop (mkF m 22 #[.val (.int p1), .val (.int p2), .val (.int (-1 : Int32))] [])) _
    refine XS.iloadN X0.here hx rfl (hb hby d1_22) rfl ?_
    show Steps p.tables e below (s₁.setTop (mkF m 23 #[.val (.int p1), .val (.int p2), .val (.int (-1 : Int32))] [(.int p1)])) _
    refine XS.bipush X0.here hx rfl (hb hby d1_23) ?_
    show Steps p.tables e below (s₁.setTop (mkF m 25 #[.val (.int p1), .val (.int p2), .val (.int (-1 : Int32))] [(.int (65 : Int32)), (.int p1)])) _
    refine XS.icmpYes X0.here hx rfl (pc0 := 25) (pc' := 45) rfl (hb hby d1_25) rfl (tlt hc25).1 (by decide) (by decide) ?_
    show Steps p.tables e below (s₁.setTop (mkF m 45 #[.val (.int p1), .val (.int p2), .val (.int (-1 : Int32))] [])) _
    refine XS.iloadN X0.here hx rfl (hb hby d1_45) rfl ?_
    show Steps p.tables e below (s₁.setTop (mkF m 46 #[.val (.int p1), .val (.int p2), .val (.int (-1 : Int32))] [(.int p1)])) _
    refine XS.bipush X0.here hx rfl (hb hby d1_46) ?_
    show Steps p.tables e below (s₁.setTop (mkF m 48 #[.val (.int p1), .val (.int p2), .val (.int (-1 : Int32))] [(.int (97 : Int32)), (.int p1)])) _
    refine XS.icmpYes X0.here hx rfl (pc0 := 48) (pc' := 69) rfl (hb hby d1_48) rfl (tlt hc48).1 (by decide) (by decide) ?_
    show Steps p.tables e below (s₁.setTop (mkF m 69 #[.val (.int p1), .val (.int p2), .val (.int (-1 : Int32))] [])) _
    refine XS.iloadN X0.here hx rfl (hb hby d1_69) rfl ?_
    show Steps p.tables e below (s₁.setTop (mkF m 70 #[.val (.int p1), .val (.int p2), .val (.int (-1 : Int32))] [(.int (-1 : Int32))])) _
    exact retI X0 hx Bd.returns (hb hby d1_70) hr
  · show Q1 Z p1 p2 h0 n0 _ s₁.heap _
    rw [e0]
    exact ⟨by rw [own_h_ttt hc5 hc25 hc48], N0, rfl⟩
theorem own_h_fttt {p1 p2 : Int32} (hc5 : ¬ (p1 < (48 : Int32))) (hc11 : (57 : Int32) < p1) (hc25 : p1 < (65 : Int32)) (hc48 : p1 < (97 : Int32)) : own_hex p1 p2 = (-1 : Int32) := by rw [own_hex, if_neg hc5, if_pos hc11, if_pos hc25]
set_option maxRecDepth 65536 in
set_option maxHeartbeats 40000000 in
theorem rm1_fttt (l : Launch) (Z : State) (a0 : Array Value) (hw : ∀ d ∈ tables_1, d.before a0 Z = true) (ws : List Jvm.Cond) (p1 : Int32) (p2 : Int32) (h0 : Heap) (n0 : Nat) (Z0 : n0 ≤ h0.size) (hc5 : ¬ (p1 < (48 : Int32))) (hc11 : (57 : Int32) < p1) (hc25 : p1 < (65 : Int32)) (hc48 : p1 < (97 : Int32)) :
    MetFree l (⟨"com/example/dotname/dotname/PercentCoding", "hexDigitValue", "(IZ)I"⟩ : MethodName) (head1 (Jvm.Cond.code (⟨"com/example/dotname/dotname/PercentCoding", "hexDigitValue", "(IZ)I"⟩ : MethodName) prog_34_method_7_code 3 (some .int) :: ws) ({ frames := 0, cells := 0, slots := 0, locals := 0 } : Room)) (fun a U => a = #[(.int p1), (.int p2)] ∧ Z.Warmed39 U.vm ∧ U.heap = h0) (fun _ _ _ _ _ => True) (fun _ U o U' => ∃ v L, o = .returned v ∧ Q1 Z p1 p2 h0 n0 v U'.heap L ∧ FrameEnd U o U' L ({ frames := 0, cells := 0, slots := 0, locals := 0 } : Room).cells ({ frames := 0, cells := 0, slots := 0, locals := 0 } : Room).slots) := by
  refine MetFree.of_bodySF (plainFor_of_name pn_1) hisR ?_
  intro p e s m args below meth c s₁ Bd hml0 hP hK
  obtain ⟨rfl, hZ, hh⟩ := hP
  have hx := Bd.exec
  have hby := Bd.bytes
  have hml : c.maxLocals = 3 := hml0
  have hown : s.vm.findClass "com/example/dotname/dotname/PercentCoding" = some m.cls := findClass_of_methodNamed Bd.named
  have hnm := (name_of_methodNamed Bd.named Bd.method).1
  have X0 : Stand p l e ({ frames := 0, cells := 0, slots := 0, locals := 0 } : Room) s m #[(.int p1), (.int p2)] below meth c s₁ [] 0 0 := Stand.of_body Bd
  have e0 : s₁.heap = h0 := by rw [← hh, Bd.state]; rfl
  have N0 := Fr.nil n0
  have pre0 : ∀ t, Steps p.tables e below (s₁.setTop (mkF m 0 #[.val (.int p1), .val (.int p2), .unset] [])) t → Steps p.tables e below (s₁.setTop (entryFrame m #[(.int p1), (.int p2)] 3)) t := fun t k => castTop (ef_1 m p1 p2) k

  obtain ⟨fs, hr, hrun, hended, hW, hsame⟩ := X0.leave (v := some (.int (-1 : Int32))) (fun h => by rw [Bd.returns] at h; cases h)
  refine ⟨_, _, pre0 _ ?_, hrun, hended, _, _, rfl, ?_, ⟨_, rfl⟩, hW, hsame.mono (by decide) (by decide)⟩
  · show Steps p.tables e below (s₁.setTop (mkF m 0 #[.val (.int p1), .val (.int p2), .unset] [])) _
    refine XS.iconst X0.here hx rfl (hb hby d1_0) ?_
    show Steps p.tables e below (s₁.setTop (mkF m 1 #[.val (.int p1), .val (.int p2), .unset] [(.int (-1 : Int32))])) _
    refine XS.istoreN X0.here hx rfl (hb hby d1_1) rfl (l' := #[.val (.int p1), .val (.int p2), .val (.int (-1 : Int32))]) rfl ?_
    show Steps p.tables e below (s₁.setTop (mkF m 2 #[.val (.int p1), .val (.int p2), .val (.int (-1 : Int32))] [])) _
    refine XS.iloadN X0.here hx rfl (hb hby d1_2) rfl ?_
    show Steps p.tables e below (s₁.setTop (mkF m 3 #[.val (.int p1), .val (.int p2), .val (.int (-1 : Int32))] [(.int p1)])) _
    refine XS.bipush X0.here hx rfl (hb hby d1_3) ?_
    show Steps p.tables e below (s₁.setTop (mkF m 5 #[.val (.int p1), .val (.int p2), .val (.int (-1 : Int32))] [(.int (48 : Int32)), (.int p1)])) _
    refine XS.icmpNo X0.here hx rfl (hb hby d1_5) rfl (flt hc5).1 ?_
    show Steps p.tables e below (s₁.setTop (mkF m 8 #[.val (.int p1), .val (.int p2), .val (.int (-1 : Int32))] [])) _
    refine XS.iloadN X0.here hx rfl (hb hby d1_8) rfl ?_
    show Steps p.tables e below (s₁.setTop (mkF m 9 #[.val (.int p1), .val (.int p2), .val (.int (-1 : Int32))] [(.int p1)])) _
    refine XS.bipush X0.here hx rfl (hb hby d1_9) ?_
    show Steps p.tables e below (s₁.setTop (mkF m 11 #[.val (.int p1), .val (.int p2), .val (.int (-1 : Int32))] [(.int (57 : Int32)), (.int p1)])) _
    refine XS.icmpYes X0.here hx rfl (pc0 := 11) (pc' := 22) rfl (hb hby d1_11) rfl (tlt hc11).2.2.1 (by decide) (by decide) ?_
    show Steps p.tables e below (s₁.setTop (mkF m 22 #[.val (.int p1), .val (.int p2), .val (.int (-1 : Int32))] [])) _
    refine XS.iloadN X0.here hx rfl (hb hby d1_22) rfl ?_
    show Steps p.tables e below (s₁.setTop (mkF m 23 #[.val (.int p1), .val (.int p2), .val (.int (-1 : Int32))] [(.int p1)])) _
    refine XS.bipush X0.here hx rfl (hb hby d1_23) ?_
    show Steps p.tables e below (s₁.setTop (mkF m 25 #[.val (.int p1), .val (.int p2), .val (.int (-1 : Int32))] [(.int (65 : Int32)), (.int p1)])) _
    refine XS.icmpYes X0.here hx rfl (pc0 := 25) (pc' := 45) rfl (hb hby d1_25) rfl (tlt hc25).1 (by decide) (by decide) ?_
    show Steps p.tables e below (s₁.setTop (mkF m 45 #[.val (.int p1), .val (.int p2), .val (.int (-1 : Int32))] [])) _
    refine XS.iloadN X0.here hx rfl (hb hby d1_45) rfl ?_
    show Steps p.tables e below (s₁.setTop (mkF m 46 #[.val (.int p1), .val (.int p2), .val (.int (-1 : Int32))] [(.int p1)])) _
    refine XS.bipush X0.here hx rfl (hb hby d1_46) ?_
    show Steps p.tables e below (s₁.setTop (mkF m 48 #[.val (.int p1), .val (.int p2), .val (.int (-1 : Int32))] [(.int (97 : Int32)), (.int p1)])) _
    refine XS.icmpYes X0.here hx rfl (pc0 := 48) (pc' := 69) rfl (hb hby d1_48) rfl (tlt hc48).1 (by decide) (by decide) ?_
    show Steps p.tables e below (s₁.setTop (mkF m 69 #[.val (.int p1), .val (.int p2), .val (.int (-1 : Int32))] [])) _
    refine XS.iloadN X0.here hx rfl (hb hby d1_69) rfl ?_
    show Steps p.tables e below (s₁.setTop (mkF m 70 #[.val (.int p1), .val (.int p2), .val (.int (-1 : Int32))] [(.int (-1 : Int32))])) _
    exact retI X0 hx Bd.returns (hb hby d1_70) hr
  · show Q1 Z p1 p2 h0 n0 _ s₁.heap _
    rw [e0]
    exact ⟨by rw [own_h_fttt hc5 hc11 hc25 hc48], N0, rfl⟩
theorem d1_28 : decode prog_34_method_7_code 28 = .ok (.iload_n 0, 1) := by decide +kernel
theorem d1_29 : decode prog_34_method_7_code 29 = .ok (.bipush 70, 2) := by decide +kernel
theorem d1_31 : decode prog_34_method_7_code 31 = .ok (.if_icmp .gt 14, 3) := by decide +kernel
theorem d1_34 : decode prog_34_method_7_code 34 = .ok (.iload_n 0, 1) := by decide +kernel
theorem d1_35 : decode prog_34_method_7_code 35 = .ok (.bipush 65, 2) := by decide +kernel
theorem d1_37 : decode prog_34_method_7_code 37 = .ok (.isub, 1) := by decide +kernel
theorem d1_38 : decode prog_34_method_7_code 38 = .ok (.bipush 10, 2) := by decide +kernel
theorem d1_40 : decode prog_34_method_7_code 40 = .ok (.iadd, 1) := by decide +kernel
theorem d1_41 : decode prog_34_method_7_code 41 = .ok (.istore_n 2, 1) := by decide +kernel
theorem d1_42 : decode prog_34_method_7_code 42 = .ok (.goto 27, 3) := by decide +kernel
theorem own_h_ftff {p1 p2 : Int32} (hc5 : ¬ (p1 < (48 : Int32))) (hc11 : (57 : Int32) < p1) (hc25 : ¬ (p1 < (65 : Int32))) (hc31 : ¬ ((70 : Int32) < p1)) : own_hex p1 p2 = ((p1 - (65 : Int32)) + (10 : Int32)) := by rw [own_hex, if_neg hc5, if_pos hc11, if_neg hc25, if_neg hc31]
set_option maxRecDepth 65536 in
set_option maxHeartbeats 40000000 in
theorem rm1_ftff (l : Launch) (Z : State) (a0 : Array Value) (hw : ∀ d ∈ tables_1, d.before a0 Z = true) (ws : List Jvm.Cond) (p1 : Int32) (p2 : Int32) (h0 : Heap) (n0 : Nat) (Z0 : n0 ≤ h0.size) (hc5 : ¬ (p1 < (48 : Int32))) (hc11 : (57 : Int32) < p1) (hc25 : ¬ (p1 < (65 : Int32))) (hc31 : ¬ ((70 : Int32) < p1)) :
    MetFree l (⟨"com/example/dotname/dotname/PercentCoding", "hexDigitValue", "(IZ)I"⟩ : MethodName) (head1 (Jvm.Cond.code (⟨"com/example/dotname/dotname/PercentCoding", "hexDigitValue", "(IZ)I"⟩ : MethodName) prog_34_method_7_code 3 (some .int) :: ws) ({ frames := 0, cells := 0, slots := 0, locals := 0 } : Room)) (fun a U => a = #[(.int p1), (.int p2)] ∧ Z.Warmed39 U.vm ∧ U.heap = h0) (fun _ _ _ _ _ => True) (fun _ U o U' => ∃ v L, o = .returned v ∧ Q1 Z p1 p2 h0 n0 v U'.heap L ∧ FrameEnd U o U' L ({ frames := 0, cells := 0, slots := 0, locals := 0 } : Room).cells ({ frames := 0, cells := 0, slots := 0, locals := 0 } : Room).slots) := by
  refine MetFree.of_bodySF (plainFor_of_name pn_1) hisR ?_
  intro p e s m args below meth c s₁ Bd hml0 hP hK
  obtain ⟨rfl, hZ, hh⟩ := hP
  have hx := Bd.exec
  have hby := Bd.bytes
  have hml : c.maxLocals = 3 := hml0
  have hown : s.vm.findClass "com/example/dotname/dotname/PercentCoding" = some m.cls := findClass_of_methodNamed Bd.named
  have hnm := (name_of_methodNamed Bd.named Bd.method).1
  have X0 : Stand p l e ({ frames := 0, cells := 0, slots := 0, locals := 0 } : Room) s m #[(.int p1), (.int p2)] below meth c s₁ [] 0 0 := Stand.of_body Bd
  have e0 : s₁.heap = h0 := by rw [← hh, Bd.state]; rfl
  have N0 := Fr.nil n0
  have pre0 : ∀ t, Steps p.tables e below (s₁.setTop (mkF m 0 #[.val (.int p1), .val (.int p2), .unset] [])) t → Steps p.tables e below (s₁.setTop (entryFrame m #[(.int p1), (.int p2)] 3)) t := fun t k => castTop (ef_1 m p1 p2) k

  obtain ⟨fs, hr, hrun, hended, hW, hsame⟩ := X0.leave (v := some (.int ((p1 - (65 : Int32)) + (10 : Int32)))) (fun h => by rw [Bd.returns] at h; cases h)
  refine ⟨_, _, pre0 _ ?_, hrun, hended, _, _, rfl, ?_, ⟨_, rfl⟩, hW, hsame.mono (by decide) (by decide)⟩
  · show Steps p.tables e below (s₁.setTop (mkF m 0 #[.val (.int p1), .val (.int p2), .unset] [])) _
    refine XS.iconst X0.here hx rfl (hb hby d1_0) ?_
    show Steps p.tables e below (s₁.setTop (mkF m 1 #[.val (.int p1), .val (.int p2), .unset] [(.int (-1 : Int32))])) _
    refine XS.istoreN X0.here hx rfl (hb hby d1_1) rfl (l' := #[.val (.int p1), .val (.int p2), .val (.int (-1 : Int32))]) rfl ?_
    show Steps p.tables e below (s₁.setTop (mkF m 2 #[.val (.int p1), .val (.int p2), .val (.int (-1 : Int32))] [])) _
    refine XS.iloadN X0.here hx rfl (hb hby d1_2) rfl ?_
    show Steps p.tables e below (s₁.setTop (mkF m 3 #[.val (.int p1), .val (.int p2), .val (.int (-1 : Int32))] [(.int p1)])) _
    refine XS.bipush X0.here hx rfl (hb hby d1_3) ?_
    show Steps p.tables e below (s₁.setTop (mkF m 5 #[.val (.int p1), .val (.int p2), .val (.int (-1 : Int32))] [(.int (48 : Int32)), (.int p1)])) _
    refine XS.icmpNo X0.here hx rfl (hb hby d1_5) rfl (flt hc5).1 ?_
    show Steps p.tables e below (s₁.setTop (mkF m 8 #[.val (.int p1), .val (.int p2), .val (.int (-1 : Int32))] [])) _
    refine XS.iloadN X0.here hx rfl (hb hby d1_8) rfl ?_
    show Steps p.tables e below (s₁.setTop (mkF m 9 #[.val (.int p1), .val (.int p2), .val (.int (-1 : Int32))] [(.int p1)])) _
    refine XS.bipush X0.here hx rfl (hb hby d1_9) ?_
    show Steps p.tables e below (s₁.setTop (mkF m 11 #[.val (.int p1), .val (.int p2), .val (.int (-1 : Int32))] [(.int (57 : Int32)), (.int p1)])) _
    refine XS.icmpYes X0.here hx rfl (pc0 := 11) (pc' := 22) rfl (hb hby d1_11) rfl (tlt hc11).2.2.1 (by decide) (by decide) ?_
    show Steps p.tables e below (s₁.setTop (mkF m 22 #[.val (.int p1), .val (.int p2), .val (.int (-1 : Int32))] [])) _
    refine XS.iloadN X0.here hx rfl (hb hby d1_22) rfl ?_
    show Steps p.tables e below (s₁.setTop (mkF m 23 #[.val (.int p1), .val (.int p2), .val (.int (-1 : Int32))] [(.int p1)])) _
    refine XS.bipush X0.here hx rfl (hb hby d1_23) ?_
    show Steps p.tables e below (s₁.setTop (mkF m 25 #[.val (.int p1), .val (.int p2), .val (.int (-1 : Int32))] [(.int (65 : Int32)), (.int p1)])) _
    refine XS.icmpNo X0.here hx rfl (hb hby d1_25) rfl (flt hc25).1 ?_
    show Steps p.tables e below (s₁.setTop (mkF m 28 #[.val (.int p1), .val (.int p2), .val (.int (-1 : Int32))] [])) _
    refine XS.iloadN X0.here hx rfl (hb hby d1_28) rfl ?_
    show Steps p.tables e below (s₁.setTop (mkF m 29 #[.val (.int p1), .val (.int p2), .val (.int (-1 : Int32))] [(.int p1)])) _
    refine XS.bipush X0.here hx rfl (hb hby d1_29) ?_
    show Steps p.tables e below (s₁.setTop (mkF m 31 #[.val (.int p1), .val (.int p2), .val (.int (-1 : Int32))] [(.int (70 : Int32)), (.int p1)])) _
    refine XS.icmpNo X0.here hx rfl (hb hby d1_31) rfl (flt hc31).2.2.1 ?_
    show Steps p.tables e below (s₁.setTop (mkF m 34 #[.val (.int p1), .val (.int p2), .val (.int (-1 : Int32))] [])) _
    refine XS.iloadN X0.here hx rfl (hb hby d1_34) rfl ?_
    show Steps p.tables e below (s₁.setTop (mkF m 35 #[.val (.int p1), .val (.int p2), .val (.int (-1 : Int32))] [(.int p1)])) _
    refine XS.bipush X0.here hx rfl (hb hby d1_35) ?_
    show Steps p.tables e below (s₁.setTop (mkF m 37 #[.val (.int p1), .val (.int p2), .val (.int (-1 : Int32))] [(.int (65 : Int32)), (.int p1)])) _
    refine XS.isub X0.here hx rfl (hb hby d1_37) rfl ?_
    show Steps p.tables e below (s₁.setTop (mkF m 38 #[.val (.int p1), .val (.int p2), .val (.int (-1 : Int32))] [(.int (p1 - (65 : Int32)))])) _
    refine XS.bipush X0.here hx rfl (hb hby d1_38) ?_
    show Steps p.tables e below (s₁.setTop (mkF m 40 #[.val (.int p1), .val (.int p2), .val (.int (-1 : Int32))] [(.int (10 : Int32)), (.int (p1 - (65 : Int32)))])) _
    refine XS.iadd X0.here hx rfl (hb hby d1_40) rfl ?_
    show Steps p.tables e below (s₁.setTop (mkF m 41 #[.val (.int p1), .val (.int p2), .val (.int (-1 : Int32))] [(.int ((p1 - (65 : Int32)) + (10 : Int32)))])) _
    refine XS.istoreN X0.here hx rfl (hb hby d1_41) rfl (l' := #[.val (.int p1), .val (.int p2), .val (.int ((p1 - (65 : Int32)) + (10 : Int32)))]) rfl ?_
    show Steps p.tables e below (s₁.setTop (mkF m 42 #[.val (.int p1), .val (.int p2), .val (.int ((p1 - (65 : Int32)) + (10 : Int32)))] [])) _
    refine XS.goto X0.here hx rfl (pc0 := 42) (pc' := 69) rfl (hb hby d1_42) (by decide) (by decide) ?_
    show Steps p.tables e below (s₁.setTop (mkF m 69 #[.val (.int p1), .val (.int p2), .val (.int ((p1 - (65 : Int32)) + (10 : Int32)))] [])) _
    refine XS.iloadN X0.here hx rfl (hb hby d1_69) rfl ?_
    show Steps p.tables e below (s₁.setTop (mkF m 70 #[.val (.int p1), .val (.int p2), .val (.int ((p1 - (65 : Int32)) + (10 : Int32)))] [(.int ((p1 - (65 : Int32)) + (10 : Int32)))])) _
    exact retI X0 hx Bd.returns (hb hby d1_70) hr
  · show Q1 Z p1 p2 h0 n0 _ s₁.heap _
    rw [e0]
    exact ⟨by rw [own_h_ftff hc5 hc11 hc25 hc31], N0, rfl⟩
theorem own_h_ftftt {p1 p2 : Int32} (hc5 : ¬ (p1 < (48 : Int32))) (hc11 : (57 : Int32) < p1) (hc25 : ¬ (p1 < (65 : Int32))) (hc31 : (70 : Int32) < p1) (hc48 : p1 < (97 : Int32)) : own_hex p1 p2 = (-1 : Int32) := by rw [own_hex, if_neg hc5, if_pos hc11, if_neg hc25, if_pos hc31, if_pos hc48]
set_option maxRecDepth 65536 in
set_option maxHeartbeats 40000000 in
theorem rm1_ftftt (l : Launch) (Z : State) (a0 : Array Value) (hw : ∀ d ∈ tables_1, d.before a0 Z = true) (ws : List Jvm.Cond) (p1 : Int32) (p2 : Int32) (h0 : Heap) (n0 : Nat) (Z0 : n0 ≤ h0.size) (hc5 : ¬ (p1 < (48 : Int32))) (hc11 : (57 : Int32) < p1) (hc25 : ¬ (p1 < (65 : Int32))) (hc31 : (70 : Int32) < p1) (hc48 : p1 < (97 : Int32)) :
    MetFree l (⟨"com/example/dotname/dotname/PercentCoding", "hexDigitValue", "(IZ)I"⟩ : MethodName) (head1 (Jvm.Cond.code (⟨"com/example/dotname/dotname/PercentCoding", "hexDigitValue", "(IZ)I"⟩ : MethodName) prog_34_method_7_code 3 (some .int) :: ws) ({ frames := 0, cells := 0, slots := 0, locals := 0 } : Room)) (fun a U => a = #[(.int p1), (.int p2)] ∧ Z.Warmed39 U.vm ∧ U.heap = h0) (fun _ _ _ _ _ => True) (fun _ U o U' => ∃ v L, o = .returned v ∧ Q1 Z p1 p2 h0 n0 v U'.heap L ∧ FrameEnd U o U' L ({ frames := 0, cells := 0, slots := 0, locals := 0 } : Room).cells ({ frames := 0, cells := 0, slots := 0, locals := 0 } : Room).slots) := by
  refine MetFree.of_bodySF (plainFor_of_name pn_1) hisR ?_
  intro p e s m args below meth c s₁ Bd hml0 hP hK
  obtain ⟨rfl, hZ, hh⟩ := hP
  have hx := Bd.exec
  have hby := Bd.bytes
  have hml : c.maxLocals = 3 := hml0
  have hown : s.vm.findClass "com/example/dotname/dotname/PercentCoding" = some m.cls := findClass_of_methodNamed Bd.named
  have hnm := (name_of_methodNamed Bd.named Bd.method).1
  have X0 : Stand p l e ({ frames := 0, cells := 0, slots := 0, locals := 0 } : Room) s m #[(.int p1), (.int p2)] below meth c s₁ [] 0 0 := Stand.of_body Bd
  have e0 : s₁.heap = h0 := by rw [← hh, Bd.state]; rfl
  have N0 := Fr.nil n0
  have pre0 : ∀ t, Steps p.tables e below (s₁.setTop (mkF m 0 #[.val (.int p1), .val (.int p2), .unset] [])) t → Steps p.tables e below (s₁.setTop (entryFrame m #[(.int p1), (.int p2)] 3)) t := fun t k => castTop (ef_1 m p1 p2) k

  obtain ⟨fs, hr, hrun, hended, hW, hsame⟩ := X0.leave (v := some (.int (-1 : Int32))) (fun h => by rw [Bd.returns] at h; cases h)
  refine ⟨_, _, pre0 _ ?_, hrun, hended, _, _, rfl, ?_, ⟨_, rfl⟩, hW, hsame.mono (by decide) (by decide)⟩
  · show Steps p.tables e below (s₁.setTop (mkF m 0 #[.val (.int p1), .val (.int p2), .unset] [])) _
    refine XS.iconst X0.here hx rfl (hb hby d1_0) ?_
    show Steps p.tables e below (s₁.setTop (mkF m 1 #[.val (.int p1), .val (.int p2), .unset] [(.int (-1 : Int32))])) _
    refine XS.istoreN X0.here hx rfl (hb hby d1_1) rfl (l' := #[.val (.int p1), .val (.int p2), .val (.int (-1 : Int32))]) rfl ?_
    show Steps p.tables e below (s₁.setTop (mkF m 2 #[.val (.int p1), .val (.int p2), .val (.int (-1 : Int32))] [])) _
    refine XS.iloadN X0.here hx rfl (hb hby d1_2) rfl ?_
    show Steps p.tables e below (s₁.setTop (mkF m 3 #[.val (.int p1), .val (.int p2), .val (.int (-1 : Int32))] [(.int p1)])) _
    refine XS.bipush X0.here hx rfl (hb hby d1_3) ?_
    show Steps p.tables e below (s₁.setTop (mkF m 5 #[.val (.int p1), .val (.int p2), .val (.int (-1 : Int32))] [(.int (48 : Int32)), (.int p1)])) _
    refine XS.icmpNo X0.here hx rfl (hb hby d1_5) rfl (flt hc5).1 ?_
    show Steps p.tables e below (s₁.setTop (mkF m 8 #[.val (.int p1), .val (.int p2), .val (.int (-1 : Int32))] [])) _
    refine XS.iloadN X0.here hx rfl (hb hby d1_8) rfl ?_
    show Steps p.tables e below (s₁.setTop (mkF m 9 #[.val (.int p1), .val (.int p2), .val (.int (-1 : Int32))] [(.int p1)])) _
    refine XS.bipush X0.here hx rfl (hb hby d1_9) ?_
    show Steps p.tables e below (s₁.setTop (mkF m 11 #[.val (.int p1), .val (.int p2), .val (.int (-1 : Int32))] [(.int (57 : Int32)), (.int p1)])) _
    refine XS.icmpYes X0.here hx rfl (pc0 := 11) (pc' := 22) rfl (hb hby d1_11) rfl (tlt hc11).2.2.1 (by decide) (by decide) ?_
    show Steps p.tables e below (s₁.setTop (mkF m 22 #[.val (.int p1), .val (.int p2), .val (.int (-1 : Int32))] [])) _
    refine XS.iloadN X0.here hx rfl (hb hby d1_22) rfl ?_
    show Steps p.tables e below (s₁.setTop (mkF m 23 #[.val (.int p1), .val (.int p2), .val (.int (-1 : Int32))] [(.int p1)])) _
    refine XS.bipush X0.here hx rfl (hb hby d1_23) ?_
    show Steps p.tables e below (s₁.setTop (mkF m 25 #[.val (.int p1), .val (.int p2), .val (.int (-1 : Int32))] [(.int (65 : Int32)), (.int p1)])) _
    refine XS.icmpNo X0.here hx rfl (hb hby d1_25) rfl (flt hc25).1 ?_
    show Steps p.tables e below (s₁.setTop (mkF m 28 #[.val (.int p1), .val (.int p2), .val (.int (-1 : Int32))] [])) _
    refine XS.iloadN X0.here hx rfl (hb hby d1_28) rfl ?_
    show Steps p.tables e below (s₁.setTop (mkF m 29 #[.val (.int p1), .val (.int p2), .val (.int (-1 : Int32))] [(.int p1)])) _
    refine XS.bipush X0.here hx rfl (hb hby d1_29) ?_
    show Steps p.tables e below (s₁.setTop (mkF m 31 #[.val (.int p1), .val (.int p2), .val (.int (-1 : Int32))] [(.int (70 : Int32)), (.int p1)])) _
    refine XS.icmpYes X0.here hx rfl (pc0 := 31) (pc' := 45) rfl (hb hby d1_31) rfl (tlt hc31).2.2.1 (by decide) (by decide) ?_
    show Steps p.tables e below (s₁.setTop (mkF m 45 #[.val (.int p1), .val (.int p2), .val (.int (-1 : Int32))] [])) _
    refine XS.iloadN X0.here hx rfl (hb hby d1_45) rfl ?_
    show Steps p.tables e below (s₁.setTop (mkF m 46 #[.val (.int p1), .val (.int p2), .val (.int (-1 : Int32))] [(.int p1)])) _
    refine XS.bipush X0.here hx rfl (hb hby d1_46) ?_
    show Steps p.tables e below (s₁.setTop (mkF m 48 #[.val (.int p1), .val (.int p2), .val (.int (-1 : Int32))] [(.int (97 : Int32)), (.int p1)])) _
    refine XS.icmpYes X0.here hx rfl (pc0 := 48) (pc' := 69) rfl (hb hby d1_48) rfl (tlt hc48).1 (by decide) (by decide) ?_
    show Steps p.tables e below (s₁.setTop (mkF m 69 #[.val (.int p1), .val (.int p2), .val (.int (-1 : Int32))] [])) _
    refine XS.iloadN X0.here hx rfl (hb hby d1_69) rfl ?_
    show Steps p.tables e below (s₁.setTop (mkF m 70 #[.val (.int p1), .val (.int p2), .val (.int (-1 : Int32))] [(.int (-1 : Int32))])) _
    exact retI X0 hx Bd.returns (hb hby d1_70) hr
  · show Q1 Z p1 p2 h0 n0 _ s₁.heap _
    rw [e0]
    exact ⟨by rw [own_h_ftftt hc5 hc11 hc25 hc31 hc48], N0, rfl⟩
theorem d1_51 : decode prog_34_method_7_code 51 = .ok (.iload_n 0, 1) := by decide +kernel
theorem d1_52 : decode prog_34_method_7_code 52 = .ok (.bipush 102, 2) := by decide +kernel
theorem d1_54 : decode prog_34_method_7_code 54 = .ok (.if_icmp .gt 15, 3) := by decide +kernel
theorem d1_57 : decode prog_34_method_7_code 57 = .ok (.iload_n 1, 1) := by decide +kernel
theorem d1_58 : decode prog_34_method_7_code 58 = .ok (.ifCond .eq 11, 3) := by decide +kernel
theorem own_h_ftftfft {p1 p2 : Int32} (hc5 : ¬ (p1 < (48 : Int32))) (hc11 : (57 : Int32) < p1) (hc25 : ¬ (p1 < (65 : Int32))) (hc31 : (70 : Int32) < p1) (hc48 : ¬ (p1 < (97 : Int32))) (hc54 : ¬ ((102 : Int32) < p1)) (hc58 : p2 = (0 : Int32)) : own_hex p1 p2 = (-1 : Int32) := by rw [own_hex, if_neg hc5, if_pos hc11, if_neg hc25, if_pos hc31, if_neg hc48, if_neg hc54, if_pos hc58]
set_option maxRecDepth 65536 in
set_option maxHeartbeats 40000000 in
theorem rm1_ftftfft (l : Launch) (Z : State) (a0 : Array Value) (hw : ∀ d ∈ tables_1, d.before a0 Z = true) (ws : List Jvm.Cond) (p1 : Int32) (p2 : Int32) (h0 : Heap) (n0 : Nat) (Z0 : n0 ≤ h0.size) (hc5 : ¬ (p1 < (48 : Int32))) (hc11 : (57 : Int32) < p1) (hc25 : ¬ (p1 < (65 : Int32))) (hc31 : (70 : Int32) < p1) (hc48 : ¬ (p1 < (97 : Int32))) (hc54 : ¬ ((102 : Int32) < p1)) (hc58 : p2 = (0 : Int32)) :
    MetFree l (⟨"com/example/dotname/dotname/PercentCoding", "hexDigitValue", "(IZ)I"⟩ : MethodName) (head1 (Jvm.Cond.code (⟨"com/example/dotname/dotname/PercentCoding", "hexDigitValue", "(IZ)I"⟩ : MethodName) prog_34_method_7_code 3 (some .int) :: ws) ({ frames := 0, cells := 0, slots := 0, locals := 0 } : Room)) (fun a U => a = #[(.int p1), (.int p2)] ∧ Z.Warmed39 U.vm ∧ U.heap = h0) (fun _ _ _ _ _ => True) (fun _ U o U' => ∃ v L, o = .returned v ∧ Q1 Z p1 p2 h0 n0 v U'.heap L ∧ FrameEnd U o U' L ({ frames := 0, cells := 0, slots := 0, locals := 0 } : Room).cells ({ frames := 0, cells := 0, slots := 0, locals := 0 } : Room).slots) := by
  refine MetFree.of_bodySF (plainFor_of_name pn_1) hisR ?_
  intro p e s m args below meth c s₁ Bd hml0 hP hK
  obtain ⟨rfl, hZ, hh⟩ := hP
  have hx := Bd.exec
  have hby := Bd.bytes
  have hml : c.maxLocals = 3 := hml0
  have hown : s.vm.findClass "com/example/dotname/dotname/PercentCoding" = some m.cls := findClass_of_methodNamed Bd.named
  have hnm := (name_of_methodNamed Bd.named Bd.method).1
  have X0 : Stand p l e ({ frames := 0, cells := 0, slots := 0, locals := 0 } : Room) s m #[(.int p1), (.int p2)] below meth c s₁ [] 0 0 := Stand.of_body Bd
  have e0 : s₁.heap = h0 := by rw [← hh, Bd.state]; rfl
  have N0 := Fr.nil n0
  have pre0 : ∀ t, Steps p.tables e below (s₁.setTop (mkF m 0 #[.val (.int p1), .val (.int p2), .unset] [])) t → Steps p.tables e below (s₁.setTop (entryFrame m #[(.int p1), (.int p2)] 3)) t := fun t k => castTop (ef_1 m p1 p2) k

  obtain ⟨fs, hr, hrun, hended, hW, hsame⟩ := X0.leave (v := some (.int (-1 : Int32))) (fun h => by rw [Bd.returns] at h; cases h)
  refine ⟨_, _, pre0 _ ?_, hrun, hended, _, _, rfl, ?_, ⟨_, rfl⟩, hW, hsame.mono (by decide) (by decide)⟩
  · show Steps p.tables e below (s₁.setTop (mkF m 0 #[.val (.int p1), .val (.int p2), .unset] [])) _
    refine XS.iconst X0.here hx rfl (hb hby d1_0) ?_
    show Steps p.tables e below (s₁.setTop (mkF m 1 #[.val (.int p1), .val (.int p2), .unset] [(.int (-1 : Int32))])) _
    refine XS.istoreN X0.here hx rfl (hb hby d1_1) rfl (l' := #[.val (.int p1), .val (.int p2), .val (.int (-1 : Int32))]) rfl ?_
    show Steps p.tables e below (s₁.setTop (mkF m 2 #[.val (.int p1), .val (.int p2), .val (.int (-1 : Int32))] [])) _
    refine XS.iloadN X0.here hx rfl (hb hby d1_2) rfl ?_
    show Steps p.tables e below (s₁.setTop (mkF m 3 #[.val (.int p1), .val (.int p2), .val (.int (-1 : Int32))] [(.int p1)])) _
    refine XS.bipush X0.here hx rfl (hb hby d1_3) ?_
    show Steps p.tables e below (s₁.setTop (mkF m 5 #[.val (.int p1), .val (.int p2), .val (.int (-1 : Int32))] [(.int (48 : Int32)), (.int p1)])) _
    refine XS.icmpNo X0.here hx rfl (hb hby d1_5) rfl (flt hc5).1 ?_
    show Steps p.tables e below (s₁.setTop (mkF m 8 #[.val (.int p1), .val (.int p2), .val (.int (-1 : Int32))] [])) _
    refine XS.iloadN X0.here hx rfl (hb hby d1_8) rfl ?_
    show Steps p.tables e below (s₁.setTop (mkF m 9 #[.val (.int p1), .val (.int p2), .val (.int (-1 : Int32))] [(.int p1)])) _
    refine XS.bipush X0.here hx rfl (hb hby d1_9) ?_
    show Steps p.tables e below (s₁.setTop (mkF m 11 #[.val (.int p1), .val (.int p2), .val (.int (-1 : Int32))] [(.int (57 : Int32)), (.int p1)])) _
    refine XS.icmpYes X0.here hx rfl (pc0 := 11) (pc' := 22) rfl (hb hby d1_11) rfl (tlt hc11).2.2.1 (by decide) (by decide) ?_
    show Steps p.tables e below (s₁.setTop (mkF m 22 #[.val (.int p1), .val (.int p2), .val (.int (-1 : Int32))] [])) _
    refine XS.iloadN X0.here hx rfl (hb hby d1_22) rfl ?_
    show Steps p.tables e below (s₁.setTop (mkF m 23 #[.val (.int p1), .val (.int p2), .val (.int (-1 : Int32))] [(.int p1)])) _
    refine XS.bipush X0.here hx rfl (hb hby d1_23) ?_
    show Steps p.tables e below (s₁.setTop (mkF m 25 #[.val (.int p1), .val (.int p2), .val (.int (-1 : Int32))] [(.int (65 : Int32)), (.int p1)])) _
    refine XS.icmpNo X0.here hx rfl (hb hby d1_25) rfl (flt hc25).1 ?_
    show Steps p.tables e below (s₁.setTop (mkF m 28 #[.val (.int p1), .val (.int p2), .val (.int (-1 : Int32))] [])) _
    refine XS.iloadN X0.here hx rfl (hb hby d1_28) rfl ?_
    show Steps p.tables e below (s₁.setTop (mkF m 29 #[.val (.int p1), .val (.int p2), .val (.int (-1 : Int32))] [(.int p1)])) _
    refine XS.bipush X0.here hx rfl (hb hby d1_29) ?_
    show Steps p.tables e below (s₁.setTop (mkF m 31 #[.val (.int p1), .val (.int p2), .val (.int (-1 : Int32))] [(.int (70 : Int32)), (.int p1)])) _
    refine XS.icmpYes X0.here hx rfl (pc0 := 31) (pc' := 45) rfl (hb hby d1_31) rfl (tlt hc31).2.2.1 (by decide) (by decide) ?_
    show Steps p.tables e below (s₁.setTop (mkF m 45 #[.val (.int p1), .val (.int p2), .val (.int (-1 : Int32))] [])) _
    refine XS.iloadN X0.here hx rfl (hb hby d1_45) rfl ?_
    show Steps p.tables e below (s₁.setTop (mkF m 46 #[.val (.int p1), .val (.int p2), .val (.int (-1 : Int32))] [(.int p1)])) _
    refine XS.bipush X0.here hx rfl (hb hby d1_46) ?_
    show Steps p.tables e below (s₁.setTop (mkF m 48 #[.val (.int p1), .val (.int p2), .val (.int (-1 : Int32))] [(.int (97 : Int32)), (.int p1)])) _
    refine XS.icmpNo X0.here hx rfl (hb hby d1_48) rfl (flt hc48).1 ?_
    show Steps p.tables e below (s₁.setTop (mkF m 51 #[.val (.int p1), .val (.int p2), .val (.int (-1 : Int32))] [])) _
    refine XS.iloadN X0.here hx rfl (hb hby d1_51) rfl ?_
    show Steps p.tables e below (s₁.setTop (mkF m 52 #[.val (.int p1), .val (.int p2), .val (.int (-1 : Int32))] [(.int p1)])) _
    refine XS.bipush X0.here hx rfl (hb hby d1_52) ?_
    show Steps p.tables e below (s₁.setTop (mkF m 54 #[.val (.int p1), .val (.int p2), .val (.int (-1 : Int32))] [(.int (102 : Int32)), (.int p1)])) _
    refine XS.icmpNo X0.here hx rfl (hb hby d1_54) rfl (flt hc54).2.2.1 ?_
    show Steps p.tables e below (s₁.setTop (mkF m 57 #[.val (.int p1), .val (.int p2), .val (.int (-1 : Int32))] [])) _
    refine XS.iloadN X0.here hx rfl (hb hby d1_57) rfl ?_
    show Steps p.tables e below (s₁.setTop (mkF m 58 #[.val (.int p1), .val (.int p2), .val (.int (-1 : Int32))] [(.int p2)])) _
    refine XS.ifYes X0.here hx rfl (pc0 := 58) (pc' := 69) rfl (hb hby d1_58) rfl ((if0 _ _).trans (teq hc58).1) (by decide) (by decide) ?_
    show Steps p.tables e below (s₁.setTop (mkF m 69 #[.val (.int p1), .val (.int p2), .val (.int (-1 : Int32))] [])) _
    refine XS.iloadN X0.here hx rfl (hb hby d1_69) rfl ?_
    show Steps p.tables e below (s₁.setTop (mkF m 70 #[.val (.int p1), .val (.int p2), .val (.int (-1 : Int32))] [(.int (-1 : Int32))])) _
    exact retI X0 hx Bd.returns (hb hby d1_70) hr
  · show Q1 Z p1 p2 h0 n0 _ s₁.heap _
    rw [e0]
    exact ⟨by rw [own_h_ftftfft hc5 hc11 hc25 hc31 hc48 hc54 hc58], N0, rfl⟩
theorem d1_61 : decode prog_34_method_7_code 61 = .ok (.iload_n 0, 1) := by decide +kernel
theorem d1_62 : decode prog_34_method_7_code 62 = .ok (.bipush 97, 2) := by decide +kernel
theorem d1_64 : decode prog_34_method_7_code 64 = .ok (.isub, 1) := by decide +kernel
theorem d1_65 : decode prog_34_method_7_code 65 = .ok (.bipush 10, 2) := by decide +kernel
theorem d1_67 : decode prog_34_method_7_code 67 = .ok (.iadd, 1) := by decide +kernel
theorem d1_68 : decode prog_34_method_7_code 68 = .ok (.istore_n 2, 1) := by decide +kernel
theorem own_h_ftftfff {p1 p2 : Int32} (hc5 : ¬ (p1 < (48 : Int32))) (hc11 : (57 : Int32) < p1) (hc25 : ¬ (p1 < (65 : Int32))) (hc31 : (70 : Int32) < p1) (hc48 : ¬ (p1 < (97 : Int32))) (hc54 : ¬ ((102 : Int32) < p1)) (hc58 : ¬ (p2 = (0 : Int32))) : own_hex p1 p2 = ((p1 - (97 : Int32)) + (10 : Int32)) := by rw [own_hex, if_neg hc5, if_pos hc11, if_neg hc25, if_pos hc31, if_neg hc48, if_neg hc54, if_neg hc58]
set_option maxRecDepth 65536 in
set_option maxHeartbeats 40000000 in
theorem rm1_ftftfff (l : Launch) (Z : State) (a0 : Array Value) (hw : ∀ d ∈ tables_1, d.before a0 Z = true) (ws : List Jvm.Cond) (p1 : Int32) (p2 : Int32) (h0 : Heap) (n0 : Nat) (Z0 : n0 ≤ h0.size) (hc5 : ¬ (p1 < (48 : Int32))) (hc11 : (57 : Int32) < p1) (hc25 : ¬ (p1 < (65 : Int32))) (hc31 : (70 : Int32) < p1) (hc48 : ¬ (p1 < (97 : Int32))) (hc54 : ¬ ((102 : Int32) < p1)) (hc58 : ¬ (p2 = (0 : Int32))) :
    MetFree l (⟨"com/example/dotname/dotname/PercentCoding", "hexDigitValue", "(IZ)I"⟩ : MethodName) (head1 (Jvm.Cond.code (⟨"com/example/dotname/dotname/PercentCoding", "hexDigitValue", "(IZ)I"⟩ : MethodName) prog_34_method_7_code 3 (some .int) :: ws) ({ frames := 0, cells := 0, slots := 0, locals := 0 } : Room)) (fun a U => a = #[(.int p1), (.int p2)] ∧ Z.Warmed39 U.vm ∧ U.heap = h0) (fun _ _ _ _ _ => True) (fun _ U o U' => ∃ v L, o = .returned v ∧ Q1 Z p1 p2 h0 n0 v U'.heap L ∧ FrameEnd U o U' L ({ frames := 0, cells := 0, slots := 0, locals := 0 } : Room).cells ({ frames := 0, cells := 0, slots := 0, locals := 0 } : Room).slots) := by
  refine MetFree.of_bodySF (plainFor_of_name pn_1) hisR ?_
  intro p e s m args below meth c s₁ Bd hml0 hP hK
  obtain ⟨rfl, hZ, hh⟩ := hP
  have hx := Bd.exec
  have hby := Bd.bytes
  have hml : c.maxLocals = 3 := hml0
  have hown : s.vm.findClass "com/example/dotname/dotname/PercentCoding" = some m.cls := findClass_of_methodNamed Bd.named
  have hnm := (name_of_methodNamed Bd.named Bd.method).1
  have X0 : Stand p l e ({ frames := 0, cells := 0, slots := 0, locals := 0 } : Room) s m #[(.int p1), (.int p2)] below meth c s₁ [] 0 0 := Stand.of_body Bd
  have e0 : s₁.heap = h0 := by rw [← hh, Bd.state]; rfl
  have N0 := Fr.nil n0
  have pre0 : ∀ t, Steps p.tables e below (s₁.setTop (mkF m 0 #[.val (.int p1), .val (.int p2), .unset] [])) t → Steps p.tables e below (s₁.setTop (entryFrame m #[(.int p1), (.int p2)] 3)) t := fun t k => castTop (ef_1 m p1 p2) k

  obtain ⟨fs, hr, hrun, hended, hW, hsame⟩ := X0.leave (v := some (.int ((p1 - (97 : Int32)) + (10 : Int32)))) (fun h => by rw [Bd.returns] at h; cases h)
  refine ⟨_, _, pre0 _ ?_, hrun, hended, _, _, rfl, ?_, ⟨_, rfl⟩, hW, hsame.mono (by decide) (by decide)⟩
  · show Steps p.tables e below (s₁.setTop (mkF m 0 #[.val (.int p1), .val (.int p2), .unset] [])) _
    refine XS.iconst X0.here hx rfl (hb hby d1_0) ?_
    show Steps p.tables e below (s₁.setTop (mkF m 1 #[.val (.int p1), .val (.int p2), .unset] [(.int (-1 : Int32))])) _
    refine XS.istoreN X0.here hx rfl (hb hby d1_1) rfl (l' := #[.val (.int p1), .val (.int p2), .val (.int (-1 : Int32))]) rfl ?_
    show Steps p.tables e below (s₁.setTop (mkF m 2 #[.val (.int p1), .val (.int p2), .val (.int (-1 : Int32))] [])) _
    refine XS.iloadN X0.here hx rfl (hb hby d1_2) rfl ?_
    show Steps p.tables e below (s₁.setTop (mkF m 3 #[.val (.int p1), .val (.int p2), .val (.int (-1 : Int32))] [(.int p1)])) _
    refine XS.bipush X0.here hx rfl (hb hby d1_3) ?_
    show Steps p.tables e below (s₁.setTop (mkF m 5 #[.val (.int p1), .val (.int p2), .val (.int (-1 : Int32))] [(.int (48 : Int32)), (.int p1)])) _
    refine XS.icmpNo X0.here hx rfl (hb hby d1_5) rfl (flt hc5).1 ?_
    show Steps p.tables e below (s₁.setTop (mkF m 8 #[.val (.int p1), .val (.int p2), .val (.int (-1 : Int32))] [])) _
    refine XS.iloadN X0.here hx rfl (hb hby d1_8) rfl ?_
    show Steps p.tables e below (s₁.setTop (mkF m 9 #[.val (.int p1), .val (.int p2), .val (.int (-1 : Int32))] [(.int p1)])) _
    refine XS.bipush X0.here hx rfl (hb hby d1_9) ?_
    show Steps p.tables e below (s₁.setTop (mkF m 11 #[.val (.int p1), .val (.int p2), .val (.int (-1 : Int32))] [(.int (57 : Int32)), (.int p1)])) _
    refine XS.icmpYes X0.here hx rfl (pc0 := 11) (pc' := 22) rfl (hb hby d1_11) rfl (tlt hc11).2.2.1 (by decide) (by decide) ?_
    show Steps p.tables e below (s₁.setTop (mkF m 22 #[.val (.int p1), .val (.int p2), .val (.int (-1 : Int32))] [])) _
    refine XS.iloadN X0.here hx rfl (hb hby d1_22) rfl ?_
    show Steps p.tables e below (s₁.setTop (mkF m 23 #[.val (.int p1), .val (.int p2), .val (.int (-1 : Int32))] [(.int p1)])) _
    refine XS.bipush X0.here hx rfl (hb hby d1_23) ?_
    show Steps p.tables e below (s₁.setTop (mkF m 25 #[.val (.int p1), .val (.int p2), .val (.int (-1 : Int32))] [(.int (65 : Int32)), (.int p1)])) _
    refine XS.icmpNo X0.here hx rfl (hb hby d1_25) rfl (flt hc25).1 ?_
    show Steps p.tables e below (s₁.setTop (mkF m 28 #[.val (.int p1), .val (.int p2), .val (.int (-1 : Int32))] [])) _
    refine XS.iloadN X0.here hx rfl (hb hby d1_28) rfl ?_
    show Steps p.tables e below (s₁.setTop (mkF m 29 #[.val (.int p1), .val (.int p2), .val (.int (-1 : Int32))] [(.int p1)])) _
    refine XS.bipush X0.here hx rfl (hb hby d1_29) ?_
    show Steps p.tables e below (s₁.setTop (mkF m 31 #[.val (.int p1), .val (.int p2), .val (.int (-1 : Int32))] [(.int (70 : Int32)), (.int p1)])) _
    refine XS.icmpYes X0.here hx rfl (pc0 := 31) (pc' := 45) rfl (hb hby d1_31) rfl (tlt hc31).2.2.1 (by decide) (by decide) ?_
    show Steps p.tables e below (s₁.setTop (mkF m 45 #[.val (.int p1), .val (.int p2), .val (.int (-1 : Int32))] [])) _
    refine XS.iloadN X0.here hx rfl (hb hby d1_45) rfl ?_
    show Steps p.tables e below (s₁.setTop (mkF m 46 #[.val (.int p1), .val (.int p2), .val (.int (-1 : Int32))] [(.int p1)])) _
    refine XS.bipush X0.here hx rfl (hb hby d1_46) ?_
    show Steps p.tables e below (s₁.setTop (mkF m 48 #[.val (.int p1), .val (.int p2), .val (.int (-1 : Int32))] [(.int (97 : Int32)), (.int p1)])) _
    refine XS.icmpNo X0.here hx rfl (hb hby d1_48) rfl (flt hc48).1 ?_
    show Steps p.tables e below (s₁.setTop (mkF m 51 #[.val (.int p1), .val (.int p2), .val (.int (-1 : Int32))] [])) _
    refine XS.iloadN X0.here hx rfl (hb hby d1_51) rfl ?_
    show Steps p.tables e below (s₁.setTop (mkF m 52 #[.val (.int p1), .val (.int p2), .val (.int (-1 : Int32))] [(.int p1)])) _
    refine XS.bipush X0.here hx rfl (hb hby d1_52) ?_
    show Steps p.tables e below (s₁.setTop (mkF m 54 #[.val (.int p1), .val (.int p2), .val (.int (-1 : Int32))] [(.int (102 : Int32)), (.int p1)])) _
    refine XS.icmpNo X0.here hx rfl (hb hby d1_54) rfl (flt hc54).2.2.1 ?_
    show Steps p.tables e below (s₁.setTop (mkF m 57 #[.val (.int p1), .val (.int p2), .val (.int (-1 : Int32))] [])) _
    refine XS.iloadN X0.here hx rfl (hb hby d1_57) rfl ?_
    show Steps p.tables e below (s₁.setTop (mkF m 58 #[.val (.int p1), .val (.int p2), .val (.int (-1 : Int32))] [(.int p2)])) _
    refine XS.ifNo X0.here hx rfl (hb hby d1_58) rfl ((if0 _ _).trans (feq hc58).1) ?_
    show Steps p.tables e below (s₁.setTop (mkF m 61 #[.val (.int p1), .val (.int p2), .val (.int (-1 : Int32))] [])) _
    refine XS.iloadN X0.here hx rfl (hb hby d1_61) rfl ?_
    show Steps p.tables e below (s₁.setTop (mkF m 62 #[.val (.int p1), .val (.int p2), .val (.int (-1 : Int32))] [(.int p1)])) _
    refine XS.bipush X0.here hx rfl (hb hby d1_62) ?_
    show Steps p.tables e below (s₁.setTop (mkF m 64 #[.val (.int p1), .val (.int p2), .val (.int (-1 : Int32))] [(.int (97 : Int32)), (.int p1)])) _
    refine XS.isub X0.here hx rfl (hb hby d1_64) rfl ?_
    show Steps p.tables e below (s₁.setTop (mkF m 65 #[.val (.int p1), .val (.int p2), .val (.int (-1 : Int32))] [(.int (p1 - (97 : Int32)))])) _
    refine XS.bipush X0.here hx rfl (hb hby d1_65) ?_
    show Steps p.tables e below (s₁.setTop (mkF m 67 #[.val (.int p1), .val (.int p2), .val (.int (-1 : Int32))] [(.int (10 : Int32)), (.int (p1 - (97 : Int32)))])) _
    refine XS.iadd X0.here hx rfl (hb hby d1_67) rfl ?_
    show Steps p.tables e below (s₁.setTop (mkF m 68 #[.val (.int p1), .val (.int p2), .val (.int (-1 : Int32))] [(.int ((p1 - (97 : Int32)) + (10 : Int32)))])) _
    refine XS.istoreN X0.here hx rfl (hb hby d1_68) rfl (l' := #[.val (.int p1), .val (.int p2), .val (.int ((p1 - (97 : Int32)) + (10 : Int32)))]) rfl ?_
    show Steps p.tables e below (s₁.setTop (mkF m 69 #[.val (.int p1), .val (.int p2), .val (.int ((p1 - (97 : Int32)) + (10 : Int32)))] [])) _
    refine XS.iloadN X0.here hx rfl (hb hby d1_69) rfl ?_
    show Steps p.tables e below (s₁.setTop (mkF m 70 #[.val (.int p1), .val (.int p2), .val (.int ((p1 - (97 : Int32)) + (10 : Int32)))] [(.int ((p1 - (97 : Int32)) + (10 : Int32)))])) _
    exact retI X0 hx Bd.returns (hb hby d1_70) hr
  · show Q1 Z p1 p2 h0 n0 _ s₁.heap _
    rw [e0]
    exact ⟨by rw [own_h_ftftfff hc5 hc11 hc25 hc31 hc48 hc54 hc58], N0, rfl⟩
theorem own_h_ftftft {p1 p2 : Int32} (hc5 : ¬ (p1 < (48 : Int32))) (hc11 : (57 : Int32) < p1) (hc25 : ¬ (p1 < (65 : Int32))) (hc31 : (70 : Int32) < p1) (hc48 : ¬ (p1 < (97 : Int32))) (hc54 : (102 : Int32) < p1) : own_hex p1 p2 = (-1 : Int32) := by rw [own_hex, if_neg hc5, if_pos hc11, if_neg hc25, if_pos hc31, if_neg hc48, if_pos hc54]
set_option maxRecDepth 65536 in
set_option maxHeartbeats 40000000 in
theorem rm1_ftftft (l : Launch) (Z : State) (a0 : Array Value) (hw : ∀ d ∈ tables_1, d.before a0 Z = true) (ws : List Jvm.Cond) (p1 : Int32) (p2 : Int32) (h0 : Heap) (n0 : Nat) (Z0 : n0 ≤ h0.size) (hc5 : ¬ (p1 < (48 : Int32))) (hc11 : (57 : Int32) < p1) (hc25 : ¬ (p1 < (65 : Int32))) (hc31 : (70 : Int32) < p1) (hc48 : ¬ (p1 < (97 : Int32))) (hc54 : (102 : Int32) < p1) :
    MetFree l (⟨"com/example/dotname/dotname/PercentCoding", "hexDigitValue", "(IZ)I"⟩ : MethodName) (head1 (Jvm.Cond.code (⟨"com/example/dotname/dotname/PercentCoding", "hexDigitValue", "(IZ)I"⟩ : MethodName) prog_34_method_7_code 3 (some .int) :: ws) ({ frames := 0, cells := 0, slots := 0, locals := 0 } : Room)) (fun a U => a = #[(.int p1), (.int p2)] ∧ Z.Warmed39 U.vm ∧ U.heap = h0) (fun _ _ _ _ _ => True) (fun _ U o U' => ∃ v L, o = .returned v ∧ Q1 Z p1 p2 h0 n0 v U'.heap L ∧ FrameEnd U o U' L ({ frames := 0, cells := 0, slots := 0, locals := 0 } : Room).cells ({ frames := 0, cells := 0, slots := 0, locals := 0 } : Room).slots) := by
  refine MetFree.of_bodySF (plainFor_of_name pn_1) hisR ?_
  intro p e s m args below meth c s₁ Bd hml0 hP hK
  obtain ⟨rfl, hZ, hh⟩ := hP
  have hx := Bd.exec
  have hby := Bd.bytes
  have hml : c.maxLocals = 3 := hml0
  have hown : s.vm.findClass "com/example/dotname/dotname/PercentCoding" = some m.cls := findClass_of_methodNamed Bd.named
  have hnm := (name_of_methodNamed Bd.named Bd.method).1
  have X0 : Stand p l e ({ frames := 0, cells := 0, slots := 0, locals := 0 } : Room) s m #[(.int p1), (.int p2)] below meth c s₁ [] 0 0 := Stand.of_body Bd
  have e0 : s₁.heap = h0 := by rw [← hh, Bd.state]; rfl
  have N0 := Fr.nil n0
  have pre0 : ∀ t, Steps p.tables e below (s₁.setTop (mkF m 0 #[.val (.int p1), .val (.int p2), .unset] [])) t → Steps p.tables e below (s₁.setTop (entryFrame m #[(.int p1), (.int p2)] 3)) t := fun t k => castTop (ef_1 m p1 p2) k

  obtain ⟨fs, hr, hrun, hended, hW, hsame⟩ := X0.leave (v := some (.int (-1 : Int32))) (fun h => by rw [Bd.returns] at h; cases h)
  refine ⟨_, _, pre0 _ ?_, hrun, hended, _, _, rfl, ?_, ⟨_, rfl⟩, hW, hsame.mono (by decide) (by decide)⟩
  · show Steps p.tables e below (s₁.setTop (mkF m 0 #[.val (.int p1), .val (.int p2), .unset] [])) _
    refine XS.iconst X0.here hx rfl (hb hby d1_0) ?_
    show Steps p.tables e below (s₁.setTop (mkF m 1 #[.val (.int p1), .val (.int p2), .unset] [(.int (-1 : Int32))])) _
    refine XS.istoreN X0.here hx rfl (hb hby d1_1) rfl (l' := #[.val (.int p1), .val (.int p2), .val (.int (-1 : Int32))]) rfl ?_
    show Steps p.tables e below (s₁.setTop (mkF m 2 #[.val (.int p1), .val (.int p2), .val (.int (-1 : Int32))] [])) _
    refine XS.iloadN X0.here hx rfl (hb hby d1_2) rfl ?_
    show Steps p.tables e below (s₁.setTop (mkF m 3 #[.val (.int p1), .val (.int p2), .val (.int (-1 : Int32))] [(.int p1)])) _
    refine XS.bipush X0.here hx rfl (hb hby d1_3) ?_
    show Steps p.tables e below (s₁.setTop (mkF m 5 #[.val (.int p1), .val (.int p2), .val (.int (-1 : Int32))] [(.int (48 : Int32)), (.int p1)])) _
    refine XS.icmpNo X0.here hx rfl (hb hby d1_5) rfl (flt hc5).1 ?_
    show Steps p.tables e below (s₁.setTop (mkF m 8 #[.val (.int p1), .val (.int p2), .val (.int (-1 : Int32))] [])) _
    refine XS.iloadN X0.here hx rfl (hb hby d1_8) rfl ?_
    show Steps p.tables e below (s₁.setTop (mkF m 9 #[.val (.int p1), .val (.int p2), .val (.int (-1 : Int32))] [(.int p1)])) _
    refine XS.bipush X0.here hx rfl (hb hby d1_9) ?_
    show Steps p.tables e below (s₁.setTop (mkF m 11 #[.val (.int p1), .val (.int p2), .val (.int (-1 : Int32))] [(.int (57 : Int32)), (.int p1)])) _
    refine XS.icmpYes X0.here hx rfl (pc0 := 11) (pc' := 22) rfl (hb hby d1_11) rfl (tlt hc11).2.2.1 (by decide) (by decide) ?_
    show Steps p.tables e below (s₁.setTop (mkF m 22 #[.val (.int p1), .val (.int p2), .val (.int (-1 : Int32))] [])) _
    refine XS.iloadN X0.here hx rfl (hb hby d1_22) rfl ?_
    show Steps p.tables e below (s₁.setTop (mkF m 23 #[.val (.int p1), .val (.int p2), .val (.int (-1 : Int32))] [(.int p1)])) _
    refine XS.bipush X0.here hx rfl (hb hby d1_23) ?_
    show Steps p.tables e below (s₁.setTop (mkF m 25 #[.val (.int p1), .val (.int p2), .val (.int (-1 : Int32))] [(.int (65 : Int32)), (.int p1)])) _
    refine XS.icmpNo X0.here hx rfl (hb hby d1_25) rfl (flt hc25).1 ?_
    show Steps p.tables e below (s₁.setTop (mkF m 28 #[.val (.int p1), .val (.int p2), .val (.int (-1 : Int32))] [])) _
    refine XS.iloadN X0.here hx rfl (hb hby d1_28) rfl ?_
    show Steps p.tables e below (s₁.setTop (mkF m 29 #[.val (.int p1), .val (.int p2), .val (.int (-1 : Int32))] [(.int p1)])) _
    refine XS.bipush X0.here hx rfl (hb hby d1_29) ?_
    show Steps p.tables e below (s₁.setTop (mkF m 31 #[.val (.int p1), .val (.int p2), .val (.int (-1 : Int32))] [(.int (70 : Int32)), (.int p1)])) _
    refine XS.icmpYes X0.here hx rfl (pc0 := 31) (pc' := 45) rfl (hb hby d1_31) rfl (tlt hc31).2.2.1 (by decide) (by decide) ?_
    show Steps p.tables e below (s₁.setTop (mkF m 45 #[.val (.int p1), .val (.int p2), .val (.int (-1 : Int32))] [])) _
    refine XS.iloadN X0.here hx rfl (hb hby d1_45) rfl ?_
    show Steps p.tables e below (s₁.setTop (mkF m 46 #[.val (.int p1), .val (.int p2), .val (.int (-1 : Int32))] [(.int p1)])) _
    refine XS.bipush X0.here hx rfl (hb hby d1_46) ?_
    show Steps p.tables e below (s₁.setTop (mkF m 48 #[.val (.int p1), .val (.int p2), .val (.int (-1 : Int32))] [(.int (97 : Int32)), (.int p1)])) _
    refine XS.icmpNo X0.here hx rfl (hb hby d1_48) rfl (flt hc48).1 ?_
    show Steps p.tables e below (s₁.setTop (mkF m 51 #[.val (.int p1), .val (.int p2), .val (.int (-1 : Int32))] [])) _
    refine XS.iloadN X0.here hx rfl (hb hby d1_51) rfl ?_
    show Steps p.tables e below (s₁.setTop (mkF m 52 #[.val (.int p1), .val (.int p2), .val (.int (-1 : Int32))] [(.int p1)])) _
    refine XS.bipush X0.here hx rfl (hb hby d1_52) ?_
    show Steps p.tables e below (s₁.setTop (mkF m 54 #[.val (.int p1), .val (.int p2), .val (.int (-1 : Int32))] [(.int (102 : Int32)), (.int p1)])) _
    refine XS.icmpYes X0.here hx rfl (pc0 := 54) (pc' := 69) rfl (hb hby d1_54) rfl (tlt hc54).2.2.1 (by decide) (by decide) ?_
    show Steps p.tables e below (s₁.setTop (mkF m 69 #[.val (.int p1), .val (.int p2), .val (.int (-1 : Int32))] [])) _
    refine XS.iloadN X0.here hx rfl (hb hby d1_69) rfl ?_
    show Steps p.tables e below (s₁.setTop (mkF m 70 #[.val (.int p1), .val (.int p2), .val (.int (-1 : Int32))] [(.int (-1 : Int32))])) _
    exact retI X0 hx Bd.returns (hb hby d1_70) hr
  · show Q1 Z p1 p2 h0 n0 _ s₁.heap _
    rw [e0]
    exact ⟨by rw [own_h_ftftft hc5 hc11 hc25 hc31 hc48 hc54], N0, rfl⟩
theorem rm1 (l : Launch) (Z : State) (a0 : Array Value) (hw : ∀ d ∈ tables_1, d.before a0 Z = true) (ws : List Jvm.Cond) (p1 : Int32) (p2 : Int32) (h0 : Heap) (n0 : Nat) (Z0 : n0 ≤ h0.size) :
    MetFree l (⟨"com/example/dotname/dotname/PercentCoding", "hexDigitValue", "(IZ)I"⟩ : MethodName) (head1 (Jvm.Cond.code (⟨"com/example/dotname/dotname/PercentCoding", "hexDigitValue", "(IZ)I"⟩ : MethodName) prog_34_method_7_code 3 (some .int) :: ws) ({ frames := 0, cells := 0, slots := 0, locals := 0 } : Room)) (fun a U => a = #[(.int p1), (.int p2)] ∧ Z.Warmed39 U.vm ∧ U.heap = h0) (fun _ _ _ _ _ => True) (fun _ U o U' => ∃ v L, o = .returned v ∧ Q1 Z p1 p2 h0 n0 v U'.heap L ∧ FrameEnd U o U' L ({ frames := 0, cells := 0, slots := 0, locals := 0 } : Room).cells ({ frames := 0, cells := 0, slots := 0, locals := 0 } : Room).slots) := by
  by_cases hc5 : p1 < (48 : Int32)
  · exact rm1_ttt l Z a0 hw ws p1 p2 h0 n0 Z0 hc5 (own_tr hc5 (by decide)) (own_tr hc5 (by decide))
  · by_cases hc11 : (57 : Int32) < p1
    · by_cases hc25 : p1 < (65 : Int32)
      · exact rm1_fttt l Z a0 hw ws p1 p2 h0 n0 Z0 hc5 hc11 hc25 (own_tr hc25 (by decide))
      · by_cases hc31 : (70 : Int32) < p1
        · by_cases hc48 : p1 < (97 : Int32)
          · exact rm1_ftftt l Z a0 hw ws p1 p2 h0 n0 Z0 hc5 hc11 hc25 hc31 hc48
          · by_cases hc54 : (102 : Int32) < p1
            · exact rm1_ftftft l Z a0 hw ws p1 p2 h0 n0 Z0 hc5 hc11 hc25 hc31 hc48 hc54
            · by_cases hc58 : p2 = (0 : Int32)
              · exact rm1_ftftfft l Z a0 hw ws p1 p2 h0 n0 Z0 hc5 hc11 hc25 hc31 hc48 hc54 hc58
              · exact rm1_ftftfff l Z a0 hw ws p1 p2 h0 n0 Z0 hc5 hc11 hc25 hc31 hc48 hc54 hc58
        · exact rm1_ftff l Z a0 hw ws p1 p2 h0 n0 Z0 hc5 hc11 hc25 hc31
    · exact rm1_ff l Z a0 hw ws p1 p2 h0 n0 Z0 hc5 hc11
set_option maxRecDepth 65536 in
set_option maxHeartbeats 40000000 in
theorem own_s1_t {p : Program} {l : Launch} {e : Env} {R : Room} {s : State} {m : MethodId} {args : Array Value} {below : List Frame} {meth : Method} {c : Code} {T0 : State} {locs : List Loc} {cells slots : Nat} {Z : State} {a0 : Array Value} {s0 : Slot} {s1 : Slot} {i2 : Int32} {s3 : Slot} {s4 : Slot} {s5 : Slot} {s6 : Slot} {s7 : Slot} {s8 : Slot} {s9 : Slot} {s10 : Slot} {s11 : Slot}
    (X0 : Stand p l e R s m args below meth c T0 locs cells slots) (hx : p.tables.exec = Jvm.exec) (hZ : Z.Warmed39 s.vm) (hw : ∀ d ∈ tables_1, d.before a0 Z = true) (hby : c.code = code) (hml : c.maxLocals = 12) (hown : s.vm.findClass "com/example/dotname/dotname/PercentCodingHexDigitValuePinLaw" = some m.cls) (hc3 : (i2 &&& (1 : Int32)) = (0 : Int32)) :
      ∀ target, Steps p.tables e below (T0.setTop (mkF m 11 #[s0, s1, .val (.int i2), s3, s4, s5, s6, s7, s8, s9, s10, s11] [(.int (0 : Int32))])) target → Steps p.tables e below (T0.setTop (mkF m 0 #[s0, s1, .val (.int i2), s3, s4, s5, s6, s7, s8, s9, s10, s11] [])) target := by

  intro target kt
  show Steps p.tables e below (T0.setTop (mkF m 0 #[s0, s1, .val (.int i2), s3, s4, s5, s6, s7, s8, s9, s10, s11] [])) _
  refine XS.iloadN X0.here hx rfl (hb hby at_0) rfl ?_
  show Steps p.tables e below (T0.setTop (mkF m 1 #[s0, s1, .val (.int i2), s3, s4, s5, s6, s7, s8, s9, s10, s11] [(.int i2)])) _
  refine XS.iconst X0.here hx rfl (hb hby at_1) ?_
  show Steps p.tables e below (T0.setTop (mkF m 2 #[s0, s1, .val (.int i2), s3, s4, s5, s6, s7, s8, s9, s10, s11] [(.int (1 : Int32)), (.int i2)])) _
  refine XS.iand X0.here hx rfl (hb hby at_2) rfl ?_
  show Steps p.tables e below (T0.setTop (mkF m 3 #[s0, s1, .val (.int i2), s3, s4, s5, s6, s7, s8, s9, s10, s11] [(.int (i2 &&& (1 : Int32)))])) _
  refine XS.ifYes X0.here hx rfl (pc0 := 3) (pc' := 10) rfl (hb hby at_3) rfl ((if0 _ _).trans (teq hc3).1) (by decide) (by decide) ?_
  show Steps p.tables e below (T0.setTop (mkF m 10 #[s0, s1, .val (.int i2), s3, s4, s5, s6, s7, s8, s9, s10, s11] [])) _
  refine XS.iconst X0.here hx rfl (hb hby at_10) ?_
  exact kt
set_option maxRecDepth 65536 in
set_option maxHeartbeats 40000000 in
theorem own_s1_f {p : Program} {l : Launch} {e : Env} {R : Room} {s : State} {m : MethodId} {args : Array Value} {below : List Frame} {meth : Method} {c : Code} {T0 : State} {locs : List Loc} {cells slots : Nat} {Z : State} {a0 : Array Value} {s0 : Slot} {s1 : Slot} {i2 : Int32} {s3 : Slot} {s4 : Slot} {s5 : Slot} {s6 : Slot} {s7 : Slot} {s8 : Slot} {s9 : Slot} {s10 : Slot} {s11 : Slot}
    (X0 : Stand p l e R s m args below meth c T0 locs cells slots) (hx : p.tables.exec = Jvm.exec) (hZ : Z.Warmed39 s.vm) (hw : ∀ d ∈ tables_1, d.before a0 Z = true) (hby : c.code = code) (hml : c.maxLocals = 12) (hown : s.vm.findClass "com/example/dotname/dotname/PercentCodingHexDigitValuePinLaw" = some m.cls) (hc3 : ¬ ((i2 &&& (1 : Int32)) = (0 : Int32))) :
      ∀ target, Steps p.tables e below (T0.setTop (mkF m 11 #[s0, s1, .val (.int i2), s3, s4, s5, s6, s7, s8, s9, s10, s11] [(.int (1 : Int32))])) target → Steps p.tables e below (T0.setTop (mkF m 0 #[s0, s1, .val (.int i2), s3, s4, s5, s6, s7, s8, s9, s10, s11] [])) target := by

  intro target kt
  show Steps p.tables e below (T0.setTop (mkF m 0 #[s0, s1, .val (.int i2), s3, s4, s5, s6, s7, s8, s9, s10, s11] [])) _
  refine XS.iloadN X0.here hx rfl (hb hby at_0) rfl ?_
  show Steps p.tables e below (T0.setTop (mkF m 1 #[s0, s1, .val (.int i2), s3, s4, s5, s6, s7, s8, s9, s10, s11] [(.int i2)])) _
  refine XS.iconst X0.here hx rfl (hb hby at_1) ?_
  show Steps p.tables e below (T0.setTop (mkF m 2 #[s0, s1, .val (.int i2), s3, s4, s5, s6, s7, s8, s9, s10, s11] [(.int (1 : Int32)), (.int i2)])) _
  refine XS.iand X0.here hx rfl (hb hby at_2) rfl ?_
  show Steps p.tables e below (T0.setTop (mkF m 3 #[s0, s1, .val (.int i2), s3, s4, s5, s6, s7, s8, s9, s10, s11] [(.int (i2 &&& (1 : Int32)))])) _
  refine XS.ifNo X0.here hx rfl (hb hby at_3) rfl ((if0 _ _).trans (feq hc3).1) ?_
  show Steps p.tables e below (T0.setTop (mkF m 6 #[s0, s1, .val (.int i2), s3, s4, s5, s6, s7, s8, s9, s10, s11] [])) _
  refine XS.iconst X0.here hx rfl (hb hby at_6) ?_
  show Steps p.tables e below (T0.setTop (mkF m 7 #[s0, s1, .val (.int i2), s3, s4, s5, s6, s7, s8, s9, s10, s11] [(.int (1 : Int32))])) _
  refine XS.goto X0.here hx rfl (pc0 := 7) (pc' := 11) rfl (hb hby at_7) (by decide) (by decide) ?_
  exact kt
def own_lo (i2 : Int32) : Int32 := (if (i2 &&& (1 : Int32)) = (0 : Int32) then (0 : Int32) else (1 : Int32))
set_option maxRecDepth 65536 in
set_option maxHeartbeats 40000000 in
theorem own_s1 {p : Program} {l : Launch} {e : Env} {R : Room} {s : State} {m : MethodId} {args : Array Value} {below : List Frame} {meth : Method} {c : Code} {T0 : State} {locs : List Loc} {cells slots : Nat} {Z : State} {a0 : Array Value} {s0 : Slot} {s1 : Slot} {s3 : Slot} {s4 : Slot} {s5 : Slot} {s6 : Slot} {s7 : Slot} {s8 : Slot} {s9 : Slot} {s10 : Slot} {s11 : Slot} {i2 : Int32}
    (X0 : Stand p l e R s m args below meth c T0 locs cells slots) (hx : p.tables.exec = Jvm.exec) (hZ : Z.Warmed39 s.vm) (hw : ∀ d ∈ tables_1, d.before a0 Z = true) (hby : c.code = code) (hml : c.maxLocals = 12) (hown : s.vm.findClass "com/example/dotname/dotname/PercentCodingHexDigitValuePinLaw" = some m.cls) :
      ∀ target, Steps p.tables e below (T0.setTop (mkF m 11 #[s0, s1, .val (.int i2), s3, s4, s5, s6, s7, s8, s9, s10, s11] [(.int (own_lo i2))])) target → Steps p.tables e below (T0.setTop (mkF m 0 #[s0, s1, .val (.int i2), s3, s4, s5, s6, s7, s8, s9, s10, s11] [])) target := by
  intro target kt
  rw [own_lo] at kt
  by_cases hc3 : (i2 &&& (1 : Int32)) = (0 : Int32)
  · rw [if_pos hc3] at kt
    exact own_s1_t X0 hx hZ hw hby hml hown hc3 target kt
  · rw [if_neg hc3] at kt
    exact own_s1_f X0 hx hZ hw hby hml hown hc3 target kt
set_option maxRecDepth 65536 in
set_option maxHeartbeats 40000000 in
theorem own_s2_t {p : Program} {l : Launch} {e : Env} {R : Room} {s : State} {m : MethodId} {args : Array Value} {below : List Frame} {meth : Method} {c : Code} {T0 : State} {locs : List Loc} {cells slots : Nat} {Z : State} {a0 : Array Value} {s0 : Slot} {s1 : Slot} {s2 : Slot} {s3 : Slot} {s4 : Slot} {s5 : Slot} {s6 : Slot} {s7 : Slot} {i8 : Int32} {s9 : Slot} {s10 : Slot} {s11 : Slot}
    (X0 : Stand p l e R s m args below meth c T0 locs cells slots) (hx : p.tables.exec = Jvm.exec) (hZ : Z.Warmed39 s.vm) (hw : ∀ d ∈ tables_1, d.before a0 Z = true) (hby : c.code = code) (hml : c.maxLocals = 12) (hown : s.vm.findClass "com/example/dotname/dotname/PercentCodingHexDigitValuePinLaw" = some m.cls) (hc123 : i8 < (10 : Int32)) :
      ∀ target, Steps p.tables e below (T0.setTop (mkF m 136 #[s0, s1, s2, s3, s4, s5, s6, s7, .val (.int i8), s9, s10, s11] [(.int i8)])) target → Steps p.tables e below (T0.setTop (mkF m 119 #[s0, s1, s2, s3, s4, s5, s6, s7, .val (.int i8), s9, s10, s11] [])) target := by

  intro target kt
  show Steps p.tables e below (T0.setTop (mkF m 119 #[s0, s1, s2, s3, s4, s5, s6, s7, .val (.int i8), s9, s10, s11] [])) _
  refine XS.iload X0.here hx rfl (hb hby at_119) rfl ?_
  show Steps p.tables e below (T0.setTop (mkF m 121 #[s0, s1, s2, s3, s4, s5, s6, s7, .val (.int i8), s9, s10, s11] [(.int i8)])) _
  refine XS.bipush X0.here hx rfl (hb hby at_121) ?_
  show Steps p.tables e below (T0.setTop (mkF m 123 #[s0, s1, s2, s3, s4, s5, s6, s7, .val (.int i8), s9, s10, s11] [(.int (10 : Int32)), (.int i8)])) _
  refine XS.icmpYes X0.here hx rfl (pc0 := 123) (pc' := 130) rfl (hb hby at_123) rfl (tlt hc123).1 (by decide) (by decide) ?_
  show Steps p.tables e below (T0.setTop (mkF m 130 #[s0, s1, s2, s3, s4, s5, s6, s7, .val (.int i8), s9, s10, s11] [])) _
  refine XS.iload X0.here hx rfl (hb hby at_130) rfl ?_
  show Steps p.tables e below (T0.setTop (mkF m 132 #[s0, s1, s2, s3, s4, s5, s6, s7, .val (.int i8), s9, s10, s11] [(.int i8)])) _
  refine XS.goto X0.here hx rfl (pc0 := 132) (pc' := 136) rfl (hb hby at_132) (by decide) (by decide) ?_
  exact kt
set_option maxRecDepth 65536 in
set_option maxHeartbeats 40000000 in
theorem own_s2_ft {p : Program} {l : Launch} {e : Env} {R : Room} {s : State} {m : MethodId} {args : Array Value} {below : List Frame} {meth : Method} {c : Code} {T0 : State} {locs : List Loc} {cells slots : Nat} {Z : State} {a0 : Array Value} {s0 : Slot} {s1 : Slot} {s2 : Slot} {i3 : Int32} {s4 : Slot} {s5 : Slot} {s6 : Slot} {s7 : Slot} {i8 : Int32} {s9 : Slot} {s10 : Slot} {s11 : Slot}
    (X0 : Stand p l e R s m args below meth c T0 locs cells slots) (hx : p.tables.exec = Jvm.exec) (hZ : Z.Warmed39 s.vm) (hw : ∀ d ∈ tables_1, d.before a0 Z = true) (hby : c.code = code) (hml : c.maxLocals = 12) (hown : s.vm.findClass "com/example/dotname/dotname/PercentCodingHexDigitValuePinLaw" = some m.cls) (hc123 : ¬ (i8 < (10 : Int32))) (hc127 : i3 = (0 : Int32)) :
      ∀ target, Steps p.tables e below (T0.setTop (mkF m 136 #[s0, s1, s2, .val (.int i3), s4, s5, s6, s7, .val (.int i8), s9, s10, s11] [(.int (-1 : Int32))])) target → Steps p.tables e below (T0.setTop (mkF m 119 #[s0, s1, s2, .val (.int i3), s4, s5, s6, s7, .val (.int i8), s9, s10, s11] [])) target := by

  intro target kt
  show Steps p.tables e below (T0.setTop (mkF m 119 #[s0, s1, s2, .val (.int i3), s4, s5, s6, s7, .val (.int i8), s9, s10, s11] [])) _
  refine XS.iload X0.here hx rfl (hb hby at_119) rfl ?_
  show Steps p.tables e below (T0.setTop (mkF m 121 #[s0, s1, s2, .val (.int i3), s4, s5, s6, s7, .val (.int i8), s9, s10, s11] [(.int i8)])) _
  refine XS.bipush X0.here hx rfl (hb hby at_121) ?_
  show Steps p.tables e below (T0.setTop (mkF m 123 #[s0, s1, s2, .val (.int i3), s4, s5, s6, s7, .val (.int i8), s9, s10, s11] [(.int (10 : Int32)), (.int i8)])) _
  refine XS.icmpNo X0.here hx rfl (hb hby at_123) rfl (flt hc123).1 ?_
  show Steps p.tables e below (T0.setTop (mkF m 126 #[s0, s1, s2, .val (.int i3), s4, s5, s6, s7, .val (.int i8), s9, s10, s11] [])) _
  refine XS.iloadN X0.here hx rfl (hb hby at_126) rfl ?_
  show Steps p.tables e below (T0.setTop (mkF m 127 #[s0, s1, s2, .val (.int i3), s4, s5, s6, s7, .val (.int i8), s9, s10, s11] [(.int i3)])) _
  refine XS.ifYes X0.here hx rfl (pc0 := 127) (pc' := 135) rfl (hb hby at_127) rfl ((if0 _ _).trans (teq hc127).1) (by decide) (by decide) ?_
  show Steps p.tables e below (T0.setTop (mkF m 135 #[s0, s1, s2, .val (.int i3), s4, s5, s6, s7, .val (.int i8), s9, s10, s11] [])) _
  refine XS.iconst X0.here hx rfl (hb hby at_135) ?_
  exact kt
set_option maxRecDepth 65536 in
set_option maxHeartbeats 40000000 in
theorem own_s2_ff {p : Program} {l : Launch} {e : Env} {R : Room} {s : State} {m : MethodId} {args : Array Value} {below : List Frame} {meth : Method} {c : Code} {T0 : State} {locs : List Loc} {cells slots : Nat} {Z : State} {a0 : Array Value} {s0 : Slot} {s1 : Slot} {s2 : Slot} {i3 : Int32} {s4 : Slot} {s5 : Slot} {s6 : Slot} {s7 : Slot} {i8 : Int32} {s9 : Slot} {s10 : Slot} {s11 : Slot}
    (X0 : Stand p l e R s m args below meth c T0 locs cells slots) (hx : p.tables.exec = Jvm.exec) (hZ : Z.Warmed39 s.vm) (hw : ∀ d ∈ tables_1, d.before a0 Z = true) (hby : c.code = code) (hml : c.maxLocals = 12) (hown : s.vm.findClass "com/example/dotname/dotname/PercentCodingHexDigitValuePinLaw" = some m.cls) (hc123 : ¬ (i8 < (10 : Int32))) (hc127 : ¬ (i3 = (0 : Int32))) :
      ∀ target, Steps p.tables e below (T0.setTop (mkF m 136 #[s0, s1, s2, .val (.int i3), s4, s5, s6, s7, .val (.int i8), s9, s10, s11] [(.int i8)])) target → Steps p.tables e below (T0.setTop (mkF m 119 #[s0, s1, s2, .val (.int i3), s4, s5, s6, s7, .val (.int i8), s9, s10, s11] [])) target := by

  intro target kt
  show Steps p.tables e below (T0.setTop (mkF m 119 #[s0, s1, s2, .val (.int i3), s4, s5, s6, s7, .val (.int i8), s9, s10, s11] [])) _
  refine XS.iload X0.here hx rfl (hb hby at_119) rfl ?_
  show Steps p.tables e below (T0.setTop (mkF m 121 #[s0, s1, s2, .val (.int i3), s4, s5, s6, s7, .val (.int i8), s9, s10, s11] [(.int i8)])) _
  refine XS.bipush X0.here hx rfl (hb hby at_121) ?_
  show Steps p.tables e below (T0.setTop (mkF m 123 #[s0, s1, s2, .val (.int i3), s4, s5, s6, s7, .val (.int i8), s9, s10, s11] [(.int (10 : Int32)), (.int i8)])) _
  refine XS.icmpNo X0.here hx rfl (hb hby at_123) rfl (flt hc123).1 ?_
  show Steps p.tables e below (T0.setTop (mkF m 126 #[s0, s1, s2, .val (.int i3), s4, s5, s6, s7, .val (.int i8), s9, s10, s11] [])) _
  refine XS.iloadN X0.here hx rfl (hb hby at_126) rfl ?_
  show Steps p.tables e below (T0.setTop (mkF m 127 #[s0, s1, s2, .val (.int i3), s4, s5, s6, s7, .val (.int i8), s9, s10, s11] [(.int i3)])) _
  refine XS.ifNo X0.here hx rfl (hb hby at_127) rfl ((if0 _ _).trans (feq hc127).1) ?_
  show Steps p.tables e below (T0.setTop (mkF m 130 #[s0, s1, s2, .val (.int i3), s4, s5, s6, s7, .val (.int i8), s9, s10, s11] [])) _
  refine XS.iload X0.here hx rfl (hb hby at_130) rfl ?_
  show Steps p.tables e below (T0.setTop (mkF m 132 #[s0, s1, s2, .val (.int i3), s4, s5, s6, s7, .val (.int i8), s9, s10, s11] [(.int i8)])) _
  refine XS.goto X0.here hx rfl (pc0 := 132) (pc' := 136) rfl (hb hby at_132) (by decide) (by decide) ?_
  exact kt
def own_el (i3 : Int32) (i8 : Int32) : Int32 := (if i8 < (10 : Int32) then i8 else (if i3 = (0 : Int32) then (-1 : Int32) else i8))
set_option maxRecDepth 65536 in
set_option maxHeartbeats 40000000 in
theorem own_s2 {p : Program} {l : Launch} {e : Env} {R : Room} {s : State} {m : MethodId} {args : Array Value} {below : List Frame} {meth : Method} {c : Code} {T0 : State} {locs : List Loc} {cells slots : Nat} {Z : State} {a0 : Array Value} {s0 : Slot} {s1 : Slot} {s2 : Slot} {s4 : Slot} {s5 : Slot} {s6 : Slot} {s7 : Slot} {s9 : Slot} {s10 : Slot} {s11 : Slot} {i3 : Int32} {i8 : Int32}
    (X0 : Stand p l e R s m args below meth c T0 locs cells slots) (hx : p.tables.exec = Jvm.exec) (hZ : Z.Warmed39 s.vm) (hw : ∀ d ∈ tables_1, d.before a0 Z = true) (hby : c.code = code) (hml : c.maxLocals = 12) (hown : s.vm.findClass "com/example/dotname/dotname/PercentCodingHexDigitValuePinLaw" = some m.cls) :
      ∀ target, Steps p.tables e below (T0.setTop (mkF m 136 #[s0, s1, s2, .val (.int i3), s4, s5, s6, s7, .val (.int i8), s9, s10, s11] [(.int (own_el i3 i8))])) target → Steps p.tables e below (T0.setTop (mkF m 119 #[s0, s1, s2, .val (.int i3), s4, s5, s6, s7, .val (.int i8), s9, s10, s11] [])) target := by
  intro target kt
  rw [own_el] at kt
  by_cases hc123 : i8 < (10 : Int32)
  · rw [if_pos hc123] at kt
    exact own_s2_t X0 hx hZ hw hby hml hown hc123 target kt
  · rw [if_neg hc123] at kt
    by_cases hc127 : i3 = (0 : Int32)
    · rw [if_pos hc127] at kt
      exact own_s2_ft X0 hx hZ hw hby hml hown hc123 hc127 target kt
    · rw [if_neg hc127] at kt
      exact own_s2_ff X0 hx hZ hw hby hml hown hc123 hc127 target kt
theorem pd_chr : parseMethodDescriptor "(I)C" = some ⟨[.int], some .char⟩ := by decide +kernel
theorem pd_hex : parseMethodDescriptor "(IZ)I" = some ⟨[.int, .boolean], some .int⟩ := by decide +kernel
def own_up : List Int32 := [48, 49, 50, 51, 52, 53, 54, 55, 56, 57, 65, 66, 67, 68, 69, 70]
def own_lw : List Int32 := [48, 49, 50, 51, 52, 53, 54, 55, 56, 57, 97, 98, 99, 100, 101, 102]
theorem own_wc {Z : State} {a0 : Array Value} (hw : ∀ d ∈ tables_1, d.before a0 Z = true) : ∀ d ∈ StrChars.Road.wordsChN, d.before a0 Z = true := fun d hd => hw d ((by decide +kernel : ∀ d ∈ StrChars.Road.wordsChN, d ∈ tables_1) d hd)
theorem own_cod4 : StrChars.Road.CodA own_up 0 (Int32.ofNat 16) ((own_up.map StrChars.lo8).map Value.int) := StrChars.Road.codOf (n := 16) rfl (by decide +kernel)
theorem own_cod5 : StrChars.Road.CodA own_lw 0 (Int32.ofNat 16) ((own_lw.map StrChars.lo8).map Value.int) := StrChars.Road.codOf (n := 16) rfl (by decide +kernel)
theorem own_hbd4 : ∀ x ∈ own_up, ¬ x < 0 ∧ ¬ (65535 : Int32) < x := by decide +kernel
theorem own_hbd5 : ∀ x ∈ own_lw, ¬ x < 0 ∧ ¬ (65535 : Int32) < x := by decide +kernel
theorem own_jx {k : Int32} (hk : ¬ (k < (0 : Int32))) : k = Int32.ofNat k.toNatClampNeg := (back32 hk).1.symm
theorem own_in {v : Int32} (h0 : ¬ (v < (0 : Int32))) (h1 : ¬ ((15 : Int32) < v)) : v.toNatClampNeg < 16 := by
  have q := nat_of h0
  rw [Int32.lt_iff_toInt_lt] at h1
  have e : (15 : Int32).toInt = 15 := rfl
  omega
theorem own_i4 {v : Int32} (h0 : ¬ (v < (0 : Int32))) (h1 : ¬ ((15 : Int32) < v)) : v.toNatClampNeg < own_up.length := own_in h0 h1
theorem own_i5 {v : Int32} (h0 : ¬ (v < (0 : Int32))) (h1 : ¬ ((15 : Int32) < v)) : v.toNatClampNeg < own_lw.length := own_in h0 h1
theorem own_small (p : Int32) : ∃ n : Fin 16, p &&& (15 : Int32) = Int32.ofNat n.val := by
  have h : (p &&& 15).toBitVec.toNat < 16 := by
    have e : (p &&& 15).toBitVec = p.toBitVec &&& 15#32 := rfl
    rw [e, BitVec.toNat_and]
    exact Nat.lt_of_le_of_lt Nat.and_le_right (by decide)
  refine ⟨⟨(p &&& 15).toBitVec.toNat, h⟩, ?_⟩
  apply Int32.toBitVec_inj.mp
  show _ = BitVec.ofNat 32 (p &&& 15).toBitVec.toNat
  rw [BitVec.ofNat_toNat, BitVec.setWidth_eq]
theorem own_ka : ∀ n : Fin 16, ¬ (Int32.ofNat n.val < (0 : Int32)) ∧ ¬ ((15 : Int32) < Int32.ofNat n.val) := by decide +kernel
theorem own_k0 (p2 : Int32) : ¬ ((p2 &&& (15 : Int32)) < (0 : Int32)) := by obtain ⟨n, h⟩ := own_small p2; rw [h]; exact (own_ka n).1
theorem own_k15 (p2 : Int32) : ¬ ((15 : Int32) < (p2 &&& (15 : Int32))) := by obtain ⟨n, h⟩ := own_small p2; rw [h]; exact (own_ka n).2
theorem own_k4 (p2 : Int32) : (p2 &&& (15 : Int32)).toNatClampNeg < own_up.length := own_in (own_k0 p2) (own_k15 p2)
theorem own_k5 (p2 : Int32) : (p2 &&& (15 : Int32)).toNatClampNeg < own_lw.length := own_in (own_k0 p2) (own_k15 p2)
theorem own_ha4 : ∀ n : Fin 16, own_hex (own_up.getD (Int32.ofNat n.val).toNatClampNeg 0) 0 = Int32.ofNat n.val ∧ own_hex (own_up.getD (Int32.ofNat n.val).toNatClampNeg 0) 1 = Int32.ofNat n.val := by decide +kernel
theorem own_ha5 : ∀ n : Fin 16, own_hex (own_lw.getD (Int32.ofNat n.val).toNatClampNeg 0) 0 = own_el 0 (Int32.ofNat n.val) ∧ own_hex (own_lw.getD (Int32.ofNat n.val).toNatClampNeg 0) 1 = own_el 1 (Int32.ofNat n.val) := by decide +kernel
theorem own_h4 {lw : Int32} (hlw : lw = 0 ∨ lw = 1) (p2 : Int32) : own_hex (own_up.getD (p2 &&& (15 : Int32)).toNatClampNeg 0) lw = (p2 &&& (15 : Int32)) := by
  obtain ⟨n, h⟩ := own_small p2
  rw [h]
  rcases hlw with rfl | rfl
  · exact (own_ha4 n).1
  · exact (own_ha4 n).2
theorem own_h5 {lw : Int32} (hlw : lw = 0 ∨ lw = 1) (p2 : Int32) : own_hex (own_lw.getD (p2 &&& (15 : Int32)).toNatClampNeg 0) lw = own_el lw (p2 &&& (15 : Int32)) := by
  obtain ⟨n, h⟩ := own_small p2
  rw [h]
  rcases hlw with rfl | rfl
  · exact (own_ha5 n).1
  · exact (own_ha5 n).2
theorem own_lo01 (p3 : Int32) : own_lo p3 = 0 ∨ own_lo p3 = 1 := by
  unfold own_lo
  split
  · exact Or.inl rfl
  · exact Or.inr rfl
theorem own_rg : ∀ n : Fin 128, ∀ b : Fin 2, own_hex (Int32.ofNat n.val) (Int32.ofNat b.val) = (-1 : Int32) ∨ (¬ (own_hex (Int32.ofNat n.val) (Int32.ofNat b.val) = (-1 : Int32)) ∧ ¬ (own_hex (Int32.ofNat n.val) (Int32.ofNat b.val) < (0 : Int32)) ∧ ¬ ((15 : Int32) < own_hex (Int32.ofNat n.val) (Int32.ofNat b.val)) ∧ (own_up.getD (own_hex (Int32.ofNat n.val) (Int32.ofNat b.val)).toNatClampNeg 0 = Int32.ofNat n.val ∨ (¬ (Int32.ofNat b.val = (0 : Int32)) ∧ own_lw.getD (own_hex (Int32.ofNat n.val) (Int32.ofNat b.val)).toNatClampNeg 0 = Int32.ofNat n.val))) := by decide +kernel
theorem own_hexb (c lw : Int32) : own_hex c lw = own_hex c (if lw = 0 then 0 else 1) := by
  by_cases h : lw = 0
  · subst h; rw [if_pos rfl]
  · have e : (if lw = 0 then (0 : Int32) else 1) = 1 := if_neg h
    rw [e]
    unfold own_hex
    rw [if_neg h, if_neg (by decide : ¬ ((1 : Int32) = 0))]
theorem own_cases (c lw : Int32) : own_hex c lw = (-1 : Int32) ∨ (¬ (own_hex c lw = (-1 : Int32)) ∧ ¬ (own_hex c lw < (0 : Int32)) ∧ ¬ ((15 : Int32) < own_hex c lw) ∧ (own_up.getD (own_hex c lw).toNatClampNeg 0 = c ∨ (¬ (lw = (0 : Int32)) ∧ own_lw.getD (own_hex c lw).toNatClampNeg 0 = c))) := by
  by_cases h1 : c < 48
  · exact Or.inl (by rw [own_hex, if_pos h1])
  by_cases h2 : 102 < c
  · left
    have h3 : ¬ c < 97 := by rw [Int32.lt_iff_toInt_lt] at h2 ⊢; have e1 : (102 : Int32).toInt = 102 := rfl; have e2 : (97 : Int32).toInt = 97 := rfl; omega
    have h4 : ¬ c < 65 := by rw [Int32.lt_iff_toInt_lt] at h2 ⊢; have e1 : (102 : Int32).toInt = 102 := rfl; have e2 : (65 : Int32).toInt = 65 := rfl; omega
    have h5 : 57 < c := by rw [Int32.lt_iff_toInt_lt] at h2 ⊢; have e1 : (102 : Int32).toInt = 102 := rfl; have e2 : (57 : Int32).toInt = 57 := rfl; omega
    have h6 : 70 < c := by rw [Int32.lt_iff_toInt_lt] at h2 ⊢; have e1 : (102 : Int32).toInt = 102 := rfl; have e2 : (70 : Int32).toInt = 70 := rfl; omega
    rw [own_hex, if_neg h1, if_pos h5, if_neg h4, if_pos h6, if_neg h3, if_pos h2]
  have h0 : ¬ c < 0 := by rw [Int32.lt_iff_toInt_lt] at h1 ⊢; have e1 : (48 : Int32).toInt = 48 := rfl; have e2 : (0 : Int32).toInt = 0 := rfl; omega
  have hq := nat_of h0
  have hj := own_jx h0
  have hl : c.toNatClampNeg < 128 := by rw [Int32.lt_iff_toInt_lt] at h2; have e1 : (102 : Int32).toInt = 102 := rfl; omega
  rw [own_hexb]
  by_cases hb : lw = 0
  · have := own_rg ⟨_, hl⟩ 0
    simp only [← hj] at this
    rw [if_pos hb]
    rcases this with t | ⟨t1, t2, t3, t4⟩
    · exact Or.inl t
    · refine Or.inr ⟨t1, t2, t3, ?_⟩
      rcases t4 with t4 | ⟨t4, -⟩
      · exact Or.inl t4
      · exact absurd rfl t4
  · have := own_rg ⟨_, hl⟩ 1
    simp only [← hj] at this
    rw [if_neg hb]
    rcases this with t | ⟨t1, t2, t3, t4⟩
    · exact Or.inl t
    · refine Or.inr ⟨t1, t2, t3, ?_⟩
      rcases t4 with t4 | ⟨-, t4⟩
      · exact Or.inl t4
      · exact Or.inr ⟨hb, t4⟩
set_option maxRecDepth 65536 in
set_option maxHeartbeats 40000000 in
theorem own_mid1 {p : Program} {l : Launch} {e : Env} {s : State} {m : MethodId} {args : Array Value} {below : List Frame} {meth : Method} {c : Code} {T0 : State} {locs : List Loc} {cells slots : Nat} {Z : State} {a0 : Array Value} {h0 : Heap} {n0 : Nat} {a4 b4 a5 b5 : Addr} {k4 k5 : ClassId} {G1 : Int32} {G3 : Value} {p1 p2 p3 lw : Int32}
    (X0 : Stand p l e room_1 s m args below meth c T0 locs cells slots) (hx : p.tables.exec = Jvm.exec) (hZ : Z.Warmed39 s.vm) (hw : ∀ d ∈ tables_1, d.before a0 Z = true) (hby : c.code = code) (hml : c.maxLocals = 12) (hown : s.vm.findClass "com/example/dotname/dotname/PercentCodingHexDigitValuePinLaw" = some m.cls) (e0 : T0.heap = h0) (N0 : Fr n0 locs) (Z0 : n0 ≤ h0.size) (cl : cells + 0 ≤ room_1.cells) (sl : slots + 0 ≤ room_1.slots)
    (Ex4 : Exa Z h0 a4 "java/lang/String") (Fc4 : Fld Z h0 a4 "java/lang/String" "coder" "B" (.int 0)) (Fv4 : Fld Z h0 a4 "java/lang/String" "value" "[B" (.ref b4)) (Av4 : Arv Z h0 b4 k4 .byte (Int32.ofNat 16) ((own_up.map StrChars.lo8).map Value.int) (.int 0))
    (Ex5 : Exa Z h0 a5 "java/lang/String") (Fc5 : Fld Z h0 a5 "java/lang/String" "coder" "B" (.int 0)) (Fv5 : Fld Z h0 a5 "java/lang/String" "value" "[B" (.ref b5)) (Av5 : Arv Z h0 b5 k5 .byte (Int32.ofNat 16) ((own_lw.map StrChars.lo8).map Value.int) (.int 0))
    (S2 : Sta Z h0 "java/lang/String" "COMPACT_STRINGS" "Z" (.int G1)) (P5 : ¬ (G1 = (0 : Int32))) (S4 : Sta Z h0 "jdk/internal/util/Preconditions" "SIOOBE_FORMATTER" "Ljava/util/function/BiFunction;" G3) (rG3 : G3.isRef = true) (hv : (own_hex p1 lw) = (-1 : Int32)) :
    ∃ (T' : State) (L' : List Loc), Stand p l e room_1 s m args below meth c T' L' cells slots ∧ T'.heap = h0 ∧ Fr n0 L' ∧
      ∀ target, Steps p.tables e below (T'.setTop (mkF m 90 #[.val (.int p1), .val (.int p2), .val (.int p3), .val (.int lw), .val (.ref a4), .val (.ref a5), .val (.int (own_hex p1 lw)), .val (.int (1 : Int32)), .unset, .unset, .unset, .unset] [])) target → Steps p.tables e below (T0.setTop (mkF m 27 #[.val (.int p1), .val (.int p2), .val (.int p3), .val (.int lw), .val (.ref a4), .val (.ref a5), .val (.int (own_hex p1 lw)), .unset, .unset, .unset, .unset, .unset] [])) target := by
  refine ⟨T0, locs, X0, e0, N0, fun target kt => ?_⟩
  show Steps p.tables e below (T0.setTop (mkF m 27 #[.val (.int p1), .val (.int p2), .val (.int p3), .val (.int lw), .val (.ref a4), .val (.ref a5), .val (.int (own_hex p1 lw)), .unset, .unset, .unset, .unset, .unset] [])) _
  refine XS.iload X0.here hx rfl (hb hby at_27) rfl ?_
  show Steps p.tables e below (T0.setTop (mkF m 29 #[.val (.int p1), .val (.int p2), .val (.int p3), .val (.int lw), .val (.ref a4), .val (.ref a5), .val (.int (own_hex p1 lw)), .unset, .unset, .unset, .unset, .unset] [(.int (own_hex p1 lw))])) _
  refine XS.iconst X0.here hx rfl (hb hby at_29) ?_
  show Steps p.tables e below (T0.setTop (mkF m 30 #[.val (.int p1), .val (.int p2), .val (.int p3), .val (.int lw), .val (.ref a4), .val (.ref a5), .val (.int (own_hex p1 lw)), .unset, .unset, .unset, .unset, .unset] [(.int (-1 : Int32)), (.int (own_hex p1 lw))])) _
  refine XS.icmpNo X0.here hx rfl (hb hby at_30) rfl (teq hv).2 ?_
  show Steps p.tables e below (T0.setTop (mkF m 33 #[.val (.int p1), .val (.int p2), .val (.int p3), .val (.int lw), .val (.ref a4), .val (.ref a5), .val (.int (own_hex p1 lw)), .unset, .unset, .unset, .unset, .unset] [])) _
  refine XS.iconst X0.here hx rfl (hb hby at_33) ?_
  show Steps p.tables e below (T0.setTop (mkF m 34 #[.val (.int p1), .val (.int p2), .val (.int p3), .val (.int lw), .val (.ref a4), .val (.ref a5), .val (.int (own_hex p1 lw)), .unset, .unset, .unset, .unset, .unset] [(.int (1 : Int32))])) _
  refine XS.istore X0.here hx rfl (hb hby at_34) rfl (l' := #[.val (.int p1), .val (.int p2), .val (.int p3), .val (.int lw), .val (.ref a4), .val (.ref a5), .val (.int (own_hex p1 lw)), .val (.int (1 : Int32)), .unset, .unset, .unset, .unset]) rfl ?_
  show Steps p.tables e below (T0.setTop (mkF m 36 #[.val (.int p1), .val (.int p2), .val (.int p3), .val (.int lw), .val (.ref a4), .val (.ref a5), .val (.int (own_hex p1 lw)), .val (.int (1 : Int32)), .unset, .unset, .unset, .unset] [])) _
  refine XS.goto X0.here hx rfl (pc0 := 36) (pc' := 90) rfl (hb hby at_36) (by decide) (by decide) ?_
  exact kt
set_option maxRecDepth 65536 in
set_option maxHeartbeats 40000000 in
theorem own_mid2 {p : Program} {l : Launch} {e : Env} {s : State} {m : MethodId} {args : Array Value} {below : List Frame} {meth : Method} {c : Code} {T0 : State} {locs : List Loc} {cells slots : Nat} {Z : State} {a0 : Array Value} {h0 : Heap} {n0 : Nat} {a4 b4 a5 b5 : Addr} {k4 k5 : ClassId} {G1 : Int32} {G3 : Value} {p1 p2 p3 lw : Int32}
    (X0 : Stand p l e room_1 s m args below meth c T0 locs cells slots) (hx : p.tables.exec = Jvm.exec) (hZ : Z.Warmed39 s.vm) (hw : ∀ d ∈ tables_1, d.before a0 Z = true) (hby : c.code = code) (hml : c.maxLocals = 12) (hown : s.vm.findClass "com/example/dotname/dotname/PercentCodingHexDigitValuePinLaw" = some m.cls) (e0 : T0.heap = h0) (N0 : Fr n0 locs) (Z0 : n0 ≤ h0.size) (cl : cells + 0 ≤ room_1.cells) (sl : slots + 0 ≤ room_1.slots)
    (Ex4 : Exa Z h0 a4 "java/lang/String") (Fc4 : Fld Z h0 a4 "java/lang/String" "coder" "B" (.int 0)) (Fv4 : Fld Z h0 a4 "java/lang/String" "value" "[B" (.ref b4)) (Av4 : Arv Z h0 b4 k4 .byte (Int32.ofNat 16) ((own_up.map StrChars.lo8).map Value.int) (.int 0))
    (Ex5 : Exa Z h0 a5 "java/lang/String") (Fc5 : Fld Z h0 a5 "java/lang/String" "coder" "B" (.int 0)) (Fv5 : Fld Z h0 a5 "java/lang/String" "value" "[B" (.ref b5)) (Av5 : Arv Z h0 b5 k5 .byte (Int32.ofNat 16) ((own_lw.map StrChars.lo8).map Value.int) (.int 0))
    (S2 : Sta Z h0 "java/lang/String" "COMPACT_STRINGS" "Z" (.int G1)) (P5 : ¬ (G1 = (0 : Int32))) (S4 : Sta Z h0 "jdk/internal/util/Preconditions" "SIOOBE_FORMATTER" "Ljava/util/function/BiFunction;" G3) (rG3 : G3.isRef = true) (hv : ¬ ((own_hex p1 lw) = (-1 : Int32))) (h0v : ¬ ((own_hex p1 lw) < (0 : Int32))) (h15 : ¬ ((15 : Int32) < (own_hex p1 lw))) (hm : (own_up.getD (own_hex p1 lw).toNatClampNeg 0) = p1) :
    ∃ (T' : State) (L' : List Loc), Stand p l e room_1 s m args below meth c T' L' cells slots ∧ T'.heap = h0 ∧ Fr n0 L' ∧
      ∀ target, Steps p.tables e below (T'.setTop (mkF m 90 #[.val (.int p1), .val (.int p2), .val (.int p3), .val (.int lw), .val (.ref a4), .val (.ref a5), .val (.int (own_hex p1 lw)), .val (.int (1 : Int32)), .unset, .unset, .unset, .unset] [])) target → Steps p.tables e below (T0.setTop (mkF m 27 #[.val (.int p1), .val (.int p2), .val (.int p3), .val (.int lw), .val (.ref a4), .val (.ref a5), .val (.int (own_hex p1 lw)), .unset, .unset, .unset, .unset, .unset] [])) target := by
  obtain ⟨cq1, kq1, q1a, q1b, q1c⟩ := isOf hZ e0 Ex4
  obtain ⟨_, _, ⟨T1, L1, kk1, nn1⟩, -, X1, ⟨Lc1, hQ1, l1, y1, z1⟩, st1⟩ := X0.virtualBack hx (y := (⟨"java/lang/String", "charAt", "(I)C"⟩ : MethodName)) (z := (⟨"java/lang/String", "charAt", "(I)C"⟩ : MethodName)) hown (mvT hZ (hw _ (List.mem_of_getElem? (i := 13) rfl))) (mvT hZ (hw _ (List.mem_of_getElem? (i := 14) rfl))) (notFace_of_selects (args := #[]) (mvT hZ (hw _ (List.mem_of_getElem? (i := 16) rfl)))) (mvT hZ (hw _ (List.mem_of_getElem? (i := 16) rfl))) (mvT hZ (hw _ (List.mem_of_getElem? (i := 15) rfl))) (by decide) (StrChars.Road.chN (W := 0) hZ (own_wc hw) (kI := 4) (hw _ (List.mem_of_getElem? (i := 2) rfl)) Ex4 Fv4 Fc4 Av4 own_cod4 own_hbd4 S2 P5 S4 rG3 (by decide) (i := (own_hex p1 lw).toNatClampNeg) (own_i4 h0v h15) (j := (own_hex p1 lw)) (own_jx h0v) (by decide) (by decide)) q1a q1c (g := (mkF m 61 #[.val (.int p1), .val (.int p2), .val (.int p3), .val (.int lw), .val (.ref a4), .val (.ref a5), .val (.int (own_hex p1 lw)), .unset, .unset, .unset, .unset, .unset] [(.int (own_hex p1 lw)), (.ref a4)])) rfl (by rw [hml]; rfl) (Steps.refl _) (argsL := [(.int (own_hex p1 lw))]) (rest := []) (lenOf pd_chr rfl) rfl (by show 2 * 0 + _ ≤ _; exact Nat.le_of_eq rfl) (hb hby at_61) (fun _ _ => ⟨rfl, e0, cl, sl⟩)
  dsimp only [Pt.U, Pt.locs, Pt.cells, Pt.slots] at X1 l1 y1 z1 st1 hQ1
  subst l1 y1 z1
  obtain ⟨rfl, rfl, e1⟩ := hQ1
  refine ⟨T1, _, X1, e1, Fr.app N0 (Fr.nil n0), fun target kt => ?_⟩
  show Steps p.tables e below (T0.setTop (mkF m 27 #[.val (.int p1), .val (.int p2), .val (.int p3), .val (.int lw), .val (.ref a4), .val (.ref a5), .val (.int (own_hex p1 lw)), .unset, .unset, .unset, .unset, .unset] [])) _
  refine XS.iload X0.here hx rfl (hb hby at_27) rfl ?_
  show Steps p.tables e below (T0.setTop (mkF m 29 #[.val (.int p1), .val (.int p2), .val (.int p3), .val (.int lw), .val (.ref a4), .val (.ref a5), .val (.int (own_hex p1 lw)), .unset, .unset, .unset, .unset, .unset] [(.int (own_hex p1 lw))])) _
  refine XS.iconst X0.here hx rfl (hb hby at_29) ?_
  show Steps p.tables e below (T0.setTop (mkF m 30 #[.val (.int p1), .val (.int p2), .val (.int p3), .val (.int lw), .val (.ref a4), .val (.ref a5), .val (.int (own_hex p1 lw)), .unset, .unset, .unset, .unset, .unset] [(.int (-1 : Int32)), (.int (own_hex p1 lw))])) _
  refine XS.icmpYes X0.here hx rfl (pc0 := 30) (pc' := 39) rfl (hb hby at_30) rfl (feq hv).2 (by decide) (by decide) ?_
  show Steps p.tables e below (T0.setTop (mkF m 39 #[.val (.int p1), .val (.int p2), .val (.int p3), .val (.int lw), .val (.ref a4), .val (.ref a5), .val (.int (own_hex p1 lw)), .unset, .unset, .unset, .unset, .unset] [])) _
  refine XS.iload X0.here hx rfl (hb hby at_39) rfl ?_
  show Steps p.tables e below (T0.setTop (mkF m 41 #[.val (.int p1), .val (.int p2), .val (.int p3), .val (.int lw), .val (.ref a4), .val (.ref a5), .val (.int (own_hex p1 lw)), .unset, .unset, .unset, .unset, .unset] [(.int (own_hex p1 lw))])) _
  refine XS.ifNo X0.here hx rfl (hb hby at_41) rfl ((if0 _ _).trans (flt h0v).1) ?_
  show Steps p.tables e below (T0.setTop (mkF m 44 #[.val (.int p1), .val (.int p2), .val (.int p3), .val (.int lw), .val (.ref a4), .val (.ref a5), .val (.int (own_hex p1 lw)), .unset, .unset, .unset, .unset, .unset] [])) _
  refine XS.iload X0.here hx rfl (hb hby at_44) rfl ?_
  show Steps p.tables e below (T0.setTop (mkF m 46 #[.val (.int p1), .val (.int p2), .val (.int p3), .val (.int lw), .val (.ref a4), .val (.ref a5), .val (.int (own_hex p1 lw)), .unset, .unset, .unset, .unset, .unset] [(.int (own_hex p1 lw))])) _
  refine XS.bipush X0.here hx rfl (hb hby at_46) ?_
  show Steps p.tables e below (T0.setTop (mkF m 48 #[.val (.int p1), .val (.int p2), .val (.int p3), .val (.int lw), .val (.ref a4), .val (.ref a5), .val (.int (own_hex p1 lw)), .unset, .unset, .unset, .unset, .unset] [(.int (15 : Int32)), (.int (own_hex p1 lw))])) _
  refine XS.icmpYes X0.here hx rfl (pc0 := 48) (pc' := 57) rfl (hb hby at_48) rfl (flt h15).2.2.2 (by decide) (by decide) ?_
  show Steps p.tables e below (T0.setTop (mkF m 57 #[.val (.int p1), .val (.int p2), .val (.int p3), .val (.int lw), .val (.ref a4), .val (.ref a5), .val (.int (own_hex p1 lw)), .unset, .unset, .unset, .unset, .unset] [])) _
  refine XS.aload X0.here hx rfl (hb hby at_57) rfl rfl ?_
  show Steps p.tables e below (T0.setTop (mkF m 59 #[.val (.int p1), .val (.int p2), .val (.int p3), .val (.int lw), .val (.ref a4), .val (.ref a5), .val (.int (own_hex p1 lw)), .unset, .unset, .unset, .unset, .unset] [(.ref a4)])) _
  refine XS.iload X0.here hx rfl (hb hby at_59) rfl ?_
  show Steps p.tables e below (T0.setTop (mkF m 61 #[.val (.int p1), .val (.int p2), .val (.int p3), .val (.int lw), .val (.ref a4), .val (.ref a5), .val (.int (own_hex p1 lw)), .unset, .unset, .unset, .unset, .unset] [(.int (own_hex p1 lw)), (.ref a4)])) _
  refine st1.trans ?_
  show Steps p.tables e below (T1.setTop (mkF m 64 #[.val (.int p1), .val (.int p2), .val (.int p3), .val (.int lw), .val (.ref a4), .val (.ref a5), .val (.int (own_hex p1 lw)), .unset, .unset, .unset, .unset, .unset] [(.int (own_up.getD (own_hex p1 lw).toNatClampNeg 0))])) _
  refine XS.iloadN X1.here hx rfl (hb hby at_64) rfl ?_
  show Steps p.tables e below (T1.setTop (mkF m 65 #[.val (.int p1), .val (.int p2), .val (.int p3), .val (.int lw), .val (.ref a4), .val (.ref a5), .val (.int (own_hex p1 lw)), .unset, .unset, .unset, .unset, .unset] [(.int p1), (.int (own_up.getD (own_hex p1 lw).toNatClampNeg 0))])) _
  refine XS.icmpYes X1.here hx rfl (pc0 := 65) (pc' := 83) rfl (hb hby at_65) rfl (teq hm).1 (by decide) (by decide) ?_
  show Steps p.tables e below (T1.setTop (mkF m 83 #[.val (.int p1), .val (.int p2), .val (.int p3), .val (.int lw), .val (.ref a4), .val (.ref a5), .val (.int (own_hex p1 lw)), .unset, .unset, .unset, .unset, .unset] [])) _
  refine XS.iconst X1.here hx rfl (hb hby at_83) ?_
  show Steps p.tables e below (T1.setTop (mkF m 84 #[.val (.int p1), .val (.int p2), .val (.int p3), .val (.int lw), .val (.ref a4), .val (.ref a5), .val (.int (own_hex p1 lw)), .unset, .unset, .unset, .unset, .unset] [(.int (1 : Int32))])) _
  refine XS.goto X1.here hx rfl (pc0 := 84) (pc' := 88) rfl (hb hby at_84) (by decide) (by decide) ?_
  show Steps p.tables e below (T1.setTop (mkF m 88 #[.val (.int p1), .val (.int p2), .val (.int p3), .val (.int lw), .val (.ref a4), .val (.ref a5), .val (.int (own_hex p1 lw)), .unset, .unset, .unset, .unset, .unset] [(.int (1 : Int32))])) _
  refine XS.istore X1.here hx rfl (hb hby at_88) rfl (l' := #[.val (.int p1), .val (.int p2), .val (.int p3), .val (.int lw), .val (.ref a4), .val (.ref a5), .val (.int (own_hex p1 lw)), .val (.int (1 : Int32)), .unset, .unset, .unset, .unset]) rfl ?_
  exact kt
set_option maxRecDepth 65536 in
set_option maxHeartbeats 40000000 in
theorem own_mid3 {p : Program} {l : Launch} {e : Env} {s : State} {m : MethodId} {args : Array Value} {below : List Frame} {meth : Method} {c : Code} {T0 : State} {locs : List Loc} {cells slots : Nat} {Z : State} {a0 : Array Value} {h0 : Heap} {n0 : Nat} {a4 b4 a5 b5 : Addr} {k4 k5 : ClassId} {G1 : Int32} {G3 : Value} {p1 p2 p3 lw : Int32}
    (X0 : Stand p l e room_1 s m args below meth c T0 locs cells slots) (hx : p.tables.exec = Jvm.exec) (hZ : Z.Warmed39 s.vm) (hw : ∀ d ∈ tables_1, d.before a0 Z = true) (hby : c.code = code) (hml : c.maxLocals = 12) (hown : s.vm.findClass "com/example/dotname/dotname/PercentCodingHexDigitValuePinLaw" = some m.cls) (e0 : T0.heap = h0) (N0 : Fr n0 locs) (Z0 : n0 ≤ h0.size) (cl : cells + 0 ≤ room_1.cells) (sl : slots + 0 ≤ room_1.slots)
    (Ex4 : Exa Z h0 a4 "java/lang/String") (Fc4 : Fld Z h0 a4 "java/lang/String" "coder" "B" (.int 0)) (Fv4 : Fld Z h0 a4 "java/lang/String" "value" "[B" (.ref b4)) (Av4 : Arv Z h0 b4 k4 .byte (Int32.ofNat 16) ((own_up.map StrChars.lo8).map Value.int) (.int 0))
    (Ex5 : Exa Z h0 a5 "java/lang/String") (Fc5 : Fld Z h0 a5 "java/lang/String" "coder" "B" (.int 0)) (Fv5 : Fld Z h0 a5 "java/lang/String" "value" "[B" (.ref b5)) (Av5 : Arv Z h0 b5 k5 .byte (Int32.ofNat 16) ((own_lw.map StrChars.lo8).map Value.int) (.int 0))
    (S2 : Sta Z h0 "java/lang/String" "COMPACT_STRINGS" "Z" (.int G1)) (P5 : ¬ (G1 = (0 : Int32))) (S4 : Sta Z h0 "jdk/internal/util/Preconditions" "SIOOBE_FORMATTER" "Ljava/util/function/BiFunction;" G3) (rG3 : G3.isRef = true) (hv : ¬ ((own_hex p1 lw) = (-1 : Int32))) (h0v : ¬ ((own_hex p1 lw) < (0 : Int32))) (h15 : ¬ ((15 : Int32) < (own_hex p1 lw))) (hm : ¬ ((own_up.getD (own_hex p1 lw).toNatClampNeg 0) = p1)) (hl : ¬ (lw = (0 : Int32))) (hm5 : (own_lw.getD (own_hex p1 lw).toNatClampNeg 0) = p1) :
    ∃ (T' : State) (L' : List Loc), Stand p l e room_1 s m args below meth c T' L' cells slots ∧ T'.heap = h0 ∧ Fr n0 L' ∧
      ∀ target, Steps p.tables e below (T'.setTop (mkF m 90 #[.val (.int p1), .val (.int p2), .val (.int p3), .val (.int lw), .val (.ref a4), .val (.ref a5), .val (.int (own_hex p1 lw)), .val (.int (1 : Int32)), .unset, .unset, .unset, .unset] [])) target → Steps p.tables e below (T0.setTop (mkF m 27 #[.val (.int p1), .val (.int p2), .val (.int p3), .val (.int lw), .val (.ref a4), .val (.ref a5), .val (.int (own_hex p1 lw)), .unset, .unset, .unset, .unset, .unset] [])) target := by
  obtain ⟨cq1, kq1, q1a, q1b, q1c⟩ := isOf hZ e0 Ex4
  obtain ⟨_, _, ⟨T1, L1, kk1, nn1⟩, -, X1, ⟨Lc1, hQ1, l1, y1, z1⟩, st1⟩ := X0.virtualBack hx (y := (⟨"java/lang/String", "charAt", "(I)C"⟩ : MethodName)) (z := (⟨"java/lang/String", "charAt", "(I)C"⟩ : MethodName)) hown (mvT hZ (hw _ (List.mem_of_getElem? (i := 13) rfl))) (mvT hZ (hw _ (List.mem_of_getElem? (i := 14) rfl))) (notFace_of_selects (args := #[]) (mvT hZ (hw _ (List.mem_of_getElem? (i := 16) rfl)))) (mvT hZ (hw _ (List.mem_of_getElem? (i := 16) rfl))) (mvT hZ (hw _ (List.mem_of_getElem? (i := 15) rfl))) (by decide) (StrChars.Road.chN (W := 0) hZ (own_wc hw) (kI := 4) (hw _ (List.mem_of_getElem? (i := 2) rfl)) Ex4 Fv4 Fc4 Av4 own_cod4 own_hbd4 S2 P5 S4 rG3 (by decide) (i := (own_hex p1 lw).toNatClampNeg) (own_i4 h0v h15) (j := (own_hex p1 lw)) (own_jx h0v) (by decide) (by decide)) q1a q1c (g := (mkF m 61 #[.val (.int p1), .val (.int p2), .val (.int p3), .val (.int lw), .val (.ref a4), .val (.ref a5), .val (.int (own_hex p1 lw)), .unset, .unset, .unset, .unset, .unset] [(.int (own_hex p1 lw)), (.ref a4)])) rfl (by rw [hml]; rfl) (Steps.refl _) (argsL := [(.int (own_hex p1 lw))]) (rest := []) (lenOf pd_chr rfl) rfl (by show 2 * 0 + _ ≤ _; exact Nat.le_of_eq rfl) (hb hby at_61) (fun _ _ => ⟨rfl, e0, cl, sl⟩)
  dsimp only [Pt.U, Pt.locs, Pt.cells, Pt.slots] at X1 l1 y1 z1 st1 hQ1
  subst l1 y1 z1
  obtain ⟨rfl, rfl, e1⟩ := hQ1
  obtain ⟨cq2, kq2, q2a, q2b, q2c⟩ := isOf hZ e1 Ex5
  obtain ⟨_, _, ⟨T2, L2, kk2, nn2⟩, -, X2, ⟨Lc2, hQ2, l2, y2, z2⟩, st2⟩ := X1.virtualBack hx (y := (⟨"java/lang/String", "charAt", "(I)C"⟩ : MethodName)) (z := (⟨"java/lang/String", "charAt", "(I)C"⟩ : MethodName)) hown (mvT hZ (hw _ (List.mem_of_getElem? (i := 13) rfl))) (mvT hZ (hw _ (List.mem_of_getElem? (i := 14) rfl))) (notFace_of_selects (args := #[]) (mvT hZ (hw _ (List.mem_of_getElem? (i := 16) rfl)))) (mvT hZ (hw _ (List.mem_of_getElem? (i := 16) rfl))) (mvT hZ (hw _ (List.mem_of_getElem? (i := 15) rfl))) (by decide) (StrChars.Road.chN (W := 0) hZ (own_wc hw) (kI := 4) (hw _ (List.mem_of_getElem? (i := 2) rfl)) Ex5 Fv5 Fc5 Av5 own_cod5 own_hbd5 S2 P5 S4 rG3 (by decide) (i := (own_hex p1 lw).toNatClampNeg) (own_i5 h0v h15) (j := (own_hex p1 lw)) (own_jx h0v) (by decide) (by decide)) q2a q2c (g := (mkF m 76 #[.val (.int p1), .val (.int p2), .val (.int p3), .val (.int lw), .val (.ref a4), .val (.ref a5), .val (.int (own_hex p1 lw)), .unset, .unset, .unset, .unset, .unset] [(.int (own_hex p1 lw)), (.ref a5)])) rfl (by rw [hml]; rfl) (Steps.refl _) (argsL := [(.int (own_hex p1 lw))]) (rest := []) (lenOf pd_chr rfl) rfl (by show 2 * 0 + _ ≤ _; exact Nat.le_of_eq rfl) (hb hby at_76) (fun _ _ => ⟨rfl, e1, cl, sl⟩)
  dsimp only [Pt.U, Pt.locs, Pt.cells, Pt.slots] at X2 l2 y2 z2 st2 hQ2
  subst l2 y2 z2
  obtain ⟨rfl, rfl, e2⟩ := hQ2
  refine ⟨T2, _, X2, e2, Fr.app (Fr.app N0 (Fr.nil n0)) (Fr.nil n0), fun target kt => ?_⟩
  show Steps p.tables e below (T0.setTop (mkF m 27 #[.val (.int p1), .val (.int p2), .val (.int p3), .val (.int lw), .val (.ref a4), .val (.ref a5), .val (.int (own_hex p1 lw)), .unset, .unset, .unset, .unset, .unset] [])) _
  refine XS.iload X0.here hx rfl (hb hby at_27) rfl ?_
  show Steps p.tables e below (T0.setTop (mkF m 29 #[.val (.int p1), .val (.int p2), .val (.int p3), .val (.int lw), .val (.ref a4), .val (.ref a5), .val (.int (own_hex p1 lw)), .unset, .unset, .unset, .unset, .unset] [(.int (own_hex p1 lw))])) _
  refine XS.iconst X0.here hx rfl (hb hby at_29) ?_
  show Steps p.tables e below (T0.setTop (mkF m 30 #[.val (.int p1), .val (.int p2), .val (.int p3), .val (.int lw), .val (.ref a4), .val (.ref a5), .val (.int (own_hex p1 lw)), .unset, .unset, .unset, .unset, .unset] [(.int (-1 : Int32)), (.int (own_hex p1 lw))])) _
  refine XS.icmpYes X0.here hx rfl (pc0 := 30) (pc' := 39) rfl (hb hby at_30) rfl (feq hv).2 (by decide) (by decide) ?_
  show Steps p.tables e below (T0.setTop (mkF m 39 #[.val (.int p1), .val (.int p2), .val (.int p3), .val (.int lw), .val (.ref a4), .val (.ref a5), .val (.int (own_hex p1 lw)), .unset, .unset, .unset, .unset, .unset] [])) _
  refine XS.iload X0.here hx rfl (hb hby at_39) rfl ?_
  show Steps p.tables e below (T0.setTop (mkF m 41 #[.val (.int p1), .val (.int p2), .val (.int p3), .val (.int lw), .val (.ref a4), .val (.ref a5), .val (.int (own_hex p1 lw)), .unset, .unset, .unset, .unset, .unset] [(.int (own_hex p1 lw))])) _
  refine XS.ifNo X0.here hx rfl (hb hby at_41) rfl ((if0 _ _).trans (flt h0v).1) ?_
  show Steps p.tables e below (T0.setTop (mkF m 44 #[.val (.int p1), .val (.int p2), .val (.int p3), .val (.int lw), .val (.ref a4), .val (.ref a5), .val (.int (own_hex p1 lw)), .unset, .unset, .unset, .unset, .unset] [])) _
  refine XS.iload X0.here hx rfl (hb hby at_44) rfl ?_
  show Steps p.tables e below (T0.setTop (mkF m 46 #[.val (.int p1), .val (.int p2), .val (.int p3), .val (.int lw), .val (.ref a4), .val (.ref a5), .val (.int (own_hex p1 lw)), .unset, .unset, .unset, .unset, .unset] [(.int (own_hex p1 lw))])) _
  refine XS.bipush X0.here hx rfl (hb hby at_46) ?_
  show Steps p.tables e below (T0.setTop (mkF m 48 #[.val (.int p1), .val (.int p2), .val (.int p3), .val (.int lw), .val (.ref a4), .val (.ref a5), .val (.int (own_hex p1 lw)), .unset, .unset, .unset, .unset, .unset] [(.int (15 : Int32)), (.int (own_hex p1 lw))])) _
  refine XS.icmpYes X0.here hx rfl (pc0 := 48) (pc' := 57) rfl (hb hby at_48) rfl (flt h15).2.2.2 (by decide) (by decide) ?_
  show Steps p.tables e below (T0.setTop (mkF m 57 #[.val (.int p1), .val (.int p2), .val (.int p3), .val (.int lw), .val (.ref a4), .val (.ref a5), .val (.int (own_hex p1 lw)), .unset, .unset, .unset, .unset, .unset] [])) _
  refine XS.aload X0.here hx rfl (hb hby at_57) rfl rfl ?_
  show Steps p.tables e below (T0.setTop (mkF m 59 #[.val (.int p1), .val (.int p2), .val (.int p3), .val (.int lw), .val (.ref a4), .val (.ref a5), .val (.int (own_hex p1 lw)), .unset, .unset, .unset, .unset, .unset] [(.ref a4)])) _
  refine XS.iload X0.here hx rfl (hb hby at_59) rfl ?_
  show Steps p.tables e below (T0.setTop (mkF m 61 #[.val (.int p1), .val (.int p2), .val (.int p3), .val (.int lw), .val (.ref a4), .val (.ref a5), .val (.int (own_hex p1 lw)), .unset, .unset, .unset, .unset, .unset] [(.int (own_hex p1 lw)), (.ref a4)])) _
  refine st1.trans ?_
  show Steps p.tables e below (T1.setTop (mkF m 64 #[.val (.int p1), .val (.int p2), .val (.int p3), .val (.int lw), .val (.ref a4), .val (.ref a5), .val (.int (own_hex p1 lw)), .unset, .unset, .unset, .unset, .unset] [(.int (own_up.getD (own_hex p1 lw).toNatClampNeg 0))])) _
  refine XS.iloadN X1.here hx rfl (hb hby at_64) rfl ?_
  show Steps p.tables e below (T1.setTop (mkF m 65 #[.val (.int p1), .val (.int p2), .val (.int p3), .val (.int lw), .val (.ref a4), .val (.ref a5), .val (.int (own_hex p1 lw)), .unset, .unset, .unset, .unset, .unset] [(.int p1), (.int (own_up.getD (own_hex p1 lw).toNatClampNeg 0))])) _
  refine XS.icmpNo X1.here hx rfl (hb hby at_65) rfl (feq hm).1 ?_
  show Steps p.tables e below (T1.setTop (mkF m 68 #[.val (.int p1), .val (.int p2), .val (.int p3), .val (.int lw), .val (.ref a4), .val (.ref a5), .val (.int (own_hex p1 lw)), .unset, .unset, .unset, .unset, .unset] [])) _
  refine XS.iloadN X1.here hx rfl (hb hby at_68) rfl ?_
  show Steps p.tables e below (T1.setTop (mkF m 69 #[.val (.int p1), .val (.int p2), .val (.int p3), .val (.int lw), .val (.ref a4), .val (.ref a5), .val (.int (own_hex p1 lw)), .unset, .unset, .unset, .unset, .unset] [(.int lw)])) _
  refine XS.ifNo X1.here hx rfl (hb hby at_69) rfl ((if0 _ _).trans (feq hl).1) ?_
  show Steps p.tables e below (T1.setTop (mkF m 72 #[.val (.int p1), .val (.int p2), .val (.int p3), .val (.int lw), .val (.ref a4), .val (.ref a5), .val (.int (own_hex p1 lw)), .unset, .unset, .unset, .unset, .unset] [])) _
  refine XS.aload X1.here hx rfl (hb hby at_72) rfl rfl ?_
  show Steps p.tables e below (T1.setTop (mkF m 74 #[.val (.int p1), .val (.int p2), .val (.int p3), .val (.int lw), .val (.ref a4), .val (.ref a5), .val (.int (own_hex p1 lw)), .unset, .unset, .unset, .unset, .unset] [(.ref a5)])) _
  refine XS.iload X1.here hx rfl (hb hby at_74) rfl ?_
  show Steps p.tables e below (T1.setTop (mkF m 76 #[.val (.int p1), .val (.int p2), .val (.int p3), .val (.int lw), .val (.ref a4), .val (.ref a5), .val (.int (own_hex p1 lw)), .unset, .unset, .unset, .unset, .unset] [(.int (own_hex p1 lw)), (.ref a5)])) _
  refine st2.trans ?_
  show Steps p.tables e below (T2.setTop (mkF m 79 #[.val (.int p1), .val (.int p2), .val (.int p3), .val (.int lw), .val (.ref a4), .val (.ref a5), .val (.int (own_hex p1 lw)), .unset, .unset, .unset, .unset, .unset] [(.int (own_lw.getD (own_hex p1 lw).toNatClampNeg 0))])) _
  refine XS.iloadN X2.here hx rfl (hb hby at_79) rfl ?_
  show Steps p.tables e below (T2.setTop (mkF m 80 #[.val (.int p1), .val (.int p2), .val (.int p3), .val (.int lw), .val (.ref a4), .val (.ref a5), .val (.int (own_hex p1 lw)), .unset, .unset, .unset, .unset, .unset] [(.int p1), (.int (own_lw.getD (own_hex p1 lw).toNatClampNeg 0))])) _
  refine XS.icmpNo X2.here hx rfl (hb hby at_80) rfl (teq hm5).2 ?_
  show Steps p.tables e below (T2.setTop (mkF m 83 #[.val (.int p1), .val (.int p2), .val (.int p3), .val (.int lw), .val (.ref a4), .val (.ref a5), .val (.int (own_hex p1 lw)), .unset, .unset, .unset, .unset, .unset] [])) _
  refine XS.iconst X2.here hx rfl (hb hby at_83) ?_
  show Steps p.tables e below (T2.setTop (mkF m 84 #[.val (.int p1), .val (.int p2), .val (.int p3), .val (.int lw), .val (.ref a4), .val (.ref a5), .val (.int (own_hex p1 lw)), .unset, .unset, .unset, .unset, .unset] [(.int (1 : Int32))])) _
  refine XS.goto X2.here hx rfl (pc0 := 84) (pc' := 88) rfl (hb hby at_84) (by decide) (by decide) ?_
  show Steps p.tables e below (T2.setTop (mkF m 88 #[.val (.int p1), .val (.int p2), .val (.int p3), .val (.int lw), .val (.ref a4), .val (.ref a5), .val (.int (own_hex p1 lw)), .unset, .unset, .unset, .unset, .unset] [(.int (1 : Int32))])) _
  refine XS.istore X2.here hx rfl (hb hby at_88) rfl (l' := #[.val (.int p1), .val (.int p2), .val (.int p3), .val (.int lw), .val (.ref a4), .val (.ref a5), .val (.int (own_hex p1 lw)), .val (.int (1 : Int32)), .unset, .unset, .unset, .unset]) rfl ?_
  exact kt
theorem own_mid {p : Program} {l : Launch} {e : Env} {s : State} {m : MethodId} {args : Array Value} {below : List Frame} {meth : Method} {c : Code} {T0 : State} {locs : List Loc} {cells slots : Nat} {Z : State} {a0 : Array Value} {h0 : Heap} {n0 : Nat} {a4 b4 a5 b5 : Addr} {k4 k5 : ClassId} {G1 : Int32} {G3 : Value} {p1 p2 p3 lw : Int32}
    (X0 : Stand p l e room_1 s m args below meth c T0 locs cells slots) (hx : p.tables.exec = Jvm.exec) (hZ : Z.Warmed39 s.vm) (hw : ∀ d ∈ tables_1, d.before a0 Z = true) (hby : c.code = code) (hml : c.maxLocals = 12) (hown : s.vm.findClass "com/example/dotname/dotname/PercentCodingHexDigitValuePinLaw" = some m.cls) (e0 : T0.heap = h0) (N0 : Fr n0 locs) (Z0 : n0 ≤ h0.size) (cl : cells + 0 ≤ room_1.cells) (sl : slots + 0 ≤ room_1.slots)
    (Ex4 : Exa Z h0 a4 "java/lang/String") (Fc4 : Fld Z h0 a4 "java/lang/String" "coder" "B" (.int 0)) (Fv4 : Fld Z h0 a4 "java/lang/String" "value" "[B" (.ref b4)) (Av4 : Arv Z h0 b4 k4 .byte (Int32.ofNat 16) ((own_up.map StrChars.lo8).map Value.int) (.int 0))
    (Ex5 : Exa Z h0 a5 "java/lang/String") (Fc5 : Fld Z h0 a5 "java/lang/String" "coder" "B" (.int 0)) (Fv5 : Fld Z h0 a5 "java/lang/String" "value" "[B" (.ref b5)) (Av5 : Arv Z h0 b5 k5 .byte (Int32.ofNat 16) ((own_lw.map StrChars.lo8).map Value.int) (.int 0))
    (S2 : Sta Z h0 "java/lang/String" "COMPACT_STRINGS" "Z" (.int G1)) (P5 : ¬ (G1 = (0 : Int32))) (S4 : Sta Z h0 "jdk/internal/util/Preconditions" "SIOOBE_FORMATTER" "Ljava/util/function/BiFunction;" G3) (rG3 : G3.isRef = true) :
    ∃ (T' : State) (L' : List Loc), Stand p l e room_1 s m args below meth c T' L' cells slots ∧ T'.heap = h0 ∧ Fr n0 L' ∧
      ∀ target, Steps p.tables e below (T'.setTop (mkF m 90 #[.val (.int p1), .val (.int p2), .val (.int p3), .val (.int lw), .val (.ref a4), .val (.ref a5), .val (.int (own_hex p1 lw)), .val (.int (1 : Int32)), .unset, .unset, .unset, .unset] [])) target → Steps p.tables e below (T0.setTop (mkF m 27 #[.val (.int p1), .val (.int p2), .val (.int p3), .val (.int lw), .val (.ref a4), .val (.ref a5), .val (.int (own_hex p1 lw)), .unset, .unset, .unset, .unset, .unset] [])) target := by
  rcases own_cases p1 lw with hv | ⟨hv, h0v, h15, hm⟩
  · exact own_mid1 X0 hx hZ hw hby hml hown e0 N0 Z0 cl sl Ex4 Fc4 Fv4 Av4 Ex5 Fc5 Fv5 Av5 S2 P5 S4 rG3 hv
  · by_cases hu : (own_up.getD (own_hex p1 lw).toNatClampNeg 0) = p1
    · exact own_mid2 X0 hx hZ hw hby hml hown e0 N0 Z0 cl sl Ex4 Fc4 Fv4 Av4 Ex5 Fc5 Fv5 Av5 S2 P5 S4 rG3 hv h0v h15 hu
    · rcases hm with hm | ⟨hl, hm⟩
      · exact absurd hm hu
      · exact own_mid3 X0 hx hZ hw hby hml hown e0 N0 Z0 cl sl Ex4 Fc4 Fv4 Av4 Ex5 Fc5 Fv5 Av5 S2 P5 S4 rG3 hv h0v h15 hu hl hm
set_option maxRecDepth 65536 in
set_option maxHeartbeats 40000000 in
theorem own_end {p : Program} {l : Launch} {e : Env} {s : State} {m : MethodId} {args : Array Value} {below : List Frame} {meth : Method} {c : Code} {T0 : State} {locs : List Loc} {cells slots : Nat} {Z : State} {a0 : Array Value} {h0 : Heap} {n0 : Nat} {a4 b4 a5 b5 : Addr} {k4 k5 : ClassId} {G1 : Int32} {G3 : Value} {p1 p2 p3 lw : Int32}
    (X0 : Stand p l e room_1 s m args below meth c T0 locs cells slots) (hx : p.tables.exec = Jvm.exec) (hZ : Z.Warmed39 s.vm) (hw : ∀ d ∈ tables_1, d.before a0 Z = true) (hby : c.code = code) (hml : c.maxLocals = 12) (hown : s.vm.findClass "com/example/dotname/dotname/PercentCodingHexDigitValuePinLaw" = some m.cls) (e0 : T0.heap = h0) (N0 : Fr n0 locs) (Z0 : n0 ≤ h0.size) (cl : cells + 0 ≤ room_1.cells) (sl : slots + 0 ≤ room_1.slots)
    (Ex4 : Exa Z h0 a4 "java/lang/String") (Fc4 : Fld Z h0 a4 "java/lang/String" "coder" "B" (.int 0)) (Fv4 : Fld Z h0 a4 "java/lang/String" "value" "[B" (.ref b4)) (Av4 : Arv Z h0 b4 k4 .byte (Int32.ofNat 16) ((own_up.map StrChars.lo8).map Value.int) (.int 0))
    (Ex5 : Exa Z h0 a5 "java/lang/String") (Fc5 : Fld Z h0 a5 "java/lang/String" "coder" "B" (.int 0)) (Fv5 : Fld Z h0 a5 "java/lang/String" "value" "[B" (.ref b5)) (Av5 : Arv Z h0 b5 k5 .byte (Int32.ofNat 16) ((own_lw.map StrChars.lo8).map Value.int) (.int 0))
    (S2 : Sta Z h0 "java/lang/String" "COMPACT_STRINGS" "Z" (.int G1)) (P5 : ¬ (G1 = (0 : Int32))) (S4 : Sta Z h0 "jdk/internal/util/Preconditions" "SIOOBE_FORMATTER" "Ljava/util/function/BiFunction;" G3) (rG3 : G3.isRef = true) (hlw : lw = 0 ∨ lw = 1) :
    ∃ (T' : State) (L' : List Loc) (Ls : Array Slot), Stand p l e room_1 s m args below meth c T' L' cells slots ∧ T'.heap = h0 ∧ Fr n0 L' ∧
      ∀ target, Steps p.tables e below (T'.setTop (mkF m 181 Ls [(.int (1 : Int32))])) target → Steps p.tables e below (T0.setTop (mkF m 90 #[.val (.int p1), .val (.int p2), .val (.int p3), .val (.int lw), .val (.ref a4), .val (.ref a5), .val (.int (own_hex p1 lw)), .val (.int (1 : Int32)), .unset, .unset, .unset, .unset] [])) target := by
  obtain ⟨cq1, kq1, q1a, q1b, q1c⟩ := isOf hZ e0 Ex4
  obtain ⟨_, _, ⟨T1, L1, kk1, nn1⟩, -, X1, ⟨Lc1, hQ1, l1, y1, z1⟩, st1⟩ := X0.virtualBack hx (y := (⟨"java/lang/String", "charAt", "(I)C"⟩ : MethodName)) (z := (⟨"java/lang/String", "charAt", "(I)C"⟩ : MethodName)) hown (mvT hZ (hw _ (List.mem_of_getElem? (i := 13) rfl))) (mvT hZ (hw _ (List.mem_of_getElem? (i := 14) rfl))) (notFace_of_selects (args := #[]) (mvT hZ (hw _ (List.mem_of_getElem? (i := 16) rfl)))) (mvT hZ (hw _ (List.mem_of_getElem? (i := 16) rfl))) (mvT hZ (hw _ (List.mem_of_getElem? (i := 15) rfl))) (by decide) (StrChars.Road.chN (W := 0) hZ (own_wc hw) (kI := 4) (hw _ (List.mem_of_getElem? (i := 2) rfl)) Ex4 Fv4 Fc4 Av4 own_cod4 own_hbd4 S2 P5 S4 rG3 (by decide) (i := (p2 &&& (15 : Int32)).toNatClampNeg) (own_k4 p2) (j := (p2 &&& (15 : Int32))) (own_jx (own_k0 p2)) (by decide) (by decide)) q1a q1c (g := (mkF m 100 #[.val (.int p1), .val (.int p2), .val (.int p3), .val (.int lw), .val (.ref a4), .val (.ref a5), .val (.int (own_hex p1 lw)), .val (.int (1 : Int32)), .val (.int (p2 &&& (15 : Int32))), .unset, .unset, .unset] [(.int (p2 &&& (15 : Int32))), (.ref a4)])) rfl (by rw [hml]; rfl) (Steps.refl _) (argsL := [(.int (p2 &&& (15 : Int32)))]) (rest := []) (lenOf pd_chr rfl) rfl (by show 2 * 0 + _ ≤ _; exact Nat.le_of_eq rfl) (hb hby at_100) (fun _ _ => ⟨rfl, e0, cl, sl⟩)
  dsimp only [Pt.U, Pt.locs, Pt.cells, Pt.slots] at X1 l1 y1 z1 st1 hQ1
  subst l1 y1 z1
  obtain ⟨rfl, rfl, e1⟩ := hQ1
  obtain ⟨_, _, ⟨T2, L2, kk2, nn2⟩, -, X2, ⟨Lc2, hQ2, l2, y2, z2⟩, st2⟩ := Jvm.LawKit.callS X1 hx (y := (⟨"com/example/dotname/dotname/PercentCoding", "hexDigitValue", "(IZ)I"⟩ : MethodName)) hown (mvT hZ (hw _ (List.mem_of_getElem? (i := 9) rfl))) (mvT hZ (hw _ (List.mem_of_getElem? (i := 10) rfl))) (mvT hZ (hw _ (List.mem_of_getElem? (i := 11) rfl))) (mvT hZ (hw _ (List.mem_of_getElem? (i := 12) rfl))) (by decide) (backOf (W := 0) (rm1 l Z a0 hw [] (own_up.getD (p2 &&& (15 : Int32)).toNatClampNeg 0) lw h0 n0 Z0) hZ (hw _ (List.mem_of_getElem? (i := 12) rfl)) (hw _ (List.mem_of_getElem? (i := 11) rfl)) (by decide) (by decide)) (g := (mkF m 104 #[.val (.int p1), .val (.int p2), .val (.int p3), .val (.int lw), .val (.ref a4), .val (.ref a5), .val (.int (own_hex p1 lw)), .val (.int (1 : Int32)), .val (.int (p2 &&& (15 : Int32))), .unset, .unset, .unset] [(.int lw), (.int (own_up.getD (p2 &&& (15 : Int32)).toNatClampNeg 0))])) rfl (by rw [hml]; rfl) (argsL := [(.int (own_up.getD (p2 &&& (15 : Int32)).toNatClampNeg 0)), (.int lw)]) (rest := []) (lenOf pd_hex rfl) rfl (by show 2 * 0 + _ ≤ _; exact Nat.le_of_eq rfl) (hb hby at_104) (fun _ _ => ⟨rfl, e1, cl, sl⟩)
  dsimp only [Pt.U, Pt.locs, Pt.cells, Pt.slots] at X2 l2 y2 z2 st2 hQ2
  subst l2 y2 z2
  obtain ⟨rfl, N2q, e2⟩ := hQ2
  obtain ⟨cq3, kq3, q3a, q3b, q3c⟩ := isOf hZ e2 Ex5
  obtain ⟨_, _, ⟨T3, L3, kk3, nn3⟩, -, X3, ⟨Lc3, hQ3, l3, y3, z3⟩, st3⟩ := X2.virtualBack hx (y := (⟨"java/lang/String", "charAt", "(I)C"⟩ : MethodName)) (z := (⟨"java/lang/String", "charAt", "(I)C"⟩ : MethodName)) hown (mvT hZ (hw _ (List.mem_of_getElem? (i := 13) rfl))) (mvT hZ (hw _ (List.mem_of_getElem? (i := 14) rfl))) (notFace_of_selects (args := #[]) (mvT hZ (hw _ (List.mem_of_getElem? (i := 16) rfl)))) (mvT hZ (hw _ (List.mem_of_getElem? (i := 16) rfl))) (mvT hZ (hw _ (List.mem_of_getElem? (i := 15) rfl))) (by decide) (StrChars.Road.chN (W := 0) hZ (own_wc hw) (kI := 4) (hw _ (List.mem_of_getElem? (i := 2) rfl)) Ex5 Fv5 Fc5 Av5 own_cod5 own_hbd5 S2 P5 S4 rG3 (by decide) (i := (p2 &&& (15 : Int32)).toNatClampNeg) (own_k5 p2) (j := (p2 &&& (15 : Int32))) (own_jx (own_k0 p2)) (by decide) (by decide)) q3a q3c (g := (mkF m 142 #[.val (.int p1), .val (.int p2), .val (.int p3), .val (.int lw), .val (.ref a4), .val (.ref a5), .val (.int (own_hex p1 lw)), .val (.int (1 : Int32)), .val (.int (p2 &&& (15 : Int32))), .val (.int (1 : Int32)), .val (.int (own_el lw (p2 &&& (15 : Int32)))), .unset] [(.int (p2 &&& (15 : Int32))), (.ref a5)])) rfl (by rw [hml]; rfl) (Steps.refl _) (argsL := [(.int (p2 &&& (15 : Int32)))]) (rest := []) (lenOf pd_chr rfl) rfl (by show 2 * 0 + _ ≤ _; exact Nat.le_of_eq rfl) (hb hby at_142) (fun _ _ => ⟨rfl, e2, cl, sl⟩)
  dsimp only [Pt.U, Pt.locs, Pt.cells, Pt.slots] at X3 l3 y3 z3 st3 hQ3
  subst l3 y3 z3
  obtain ⟨rfl, rfl, e3⟩ := hQ3
  obtain ⟨_, _, ⟨T4, L4, kk4, nn4⟩, -, X4, ⟨Lc4, hQ4, l4, y4, z4⟩, st4⟩ := Jvm.LawKit.callS X3 hx (y := (⟨"com/example/dotname/dotname/PercentCoding", "hexDigitValue", "(IZ)I"⟩ : MethodName)) hown (mvT hZ (hw _ (List.mem_of_getElem? (i := 9) rfl))) (mvT hZ (hw _ (List.mem_of_getElem? (i := 10) rfl))) (mvT hZ (hw _ (List.mem_of_getElem? (i := 11) rfl))) (mvT hZ (hw _ (List.mem_of_getElem? (i := 12) rfl))) (by decide) (backOf (W := 0) (rm1 l Z a0 hw [] (own_lw.getD (p2 &&& (15 : Int32)).toNatClampNeg 0) lw h0 n0 Z0) hZ (hw _ (List.mem_of_getElem? (i := 12) rfl)) (hw _ (List.mem_of_getElem? (i := 11) rfl)) (by decide) (by decide)) (g := (mkF m 146 #[.val (.int p1), .val (.int p2), .val (.int p3), .val (.int lw), .val (.ref a4), .val (.ref a5), .val (.int (own_hex p1 lw)), .val (.int (1 : Int32)), .val (.int (p2 &&& (15 : Int32))), .val (.int (1 : Int32)), .val (.int (own_el lw (p2 &&& (15 : Int32)))), .unset] [(.int lw), (.int (own_lw.getD (p2 &&& (15 : Int32)).toNatClampNeg 0))])) rfl (by rw [hml]; rfl) (argsL := [(.int (own_lw.getD (p2 &&& (15 : Int32)).toNatClampNeg 0)), (.int lw)]) (rest := []) (lenOf pd_hex rfl) rfl (by show 2 * 0 + _ ≤ _; exact Nat.le_of_eq rfl) (hb hby at_146) (fun _ _ => ⟨rfl, e3, cl, sl⟩)
  dsimp only [Pt.U, Pt.locs, Pt.cells, Pt.slots] at X4 l4 y4 z4 st4 hQ4
  subst l4 y4 z4
  obtain ⟨rfl, N4q, e4⟩ := hQ4
  refine ⟨T4, _, #[.val (.int p1), .val (.int p2), .val (.int p3), .val (.int lw), .val (.ref a4), .val (.ref a5), .val (.int (own_hex p1 lw)), .val (.int (1 : Int32)), .val (.int (p2 &&& (15 : Int32))), .val (.int (1 : Int32)), .val (.int (own_el lw (p2 &&& (15 : Int32)))), .val (.int (1 : Int32))], X4, e4, Fr.app (Fr.app (Fr.app (Fr.app N0 (Fr.nil n0)) N2q) (Fr.nil n0)) N4q, fun target kt => ?_⟩
  show Steps p.tables e below (T0.setTop (mkF m 90 #[.val (.int p1), .val (.int p2), .val (.int p3), .val (.int lw), .val (.ref a4), .val (.ref a5), .val (.int (own_hex p1 lw)), .val (.int (1 : Int32)), .unset, .unset, .unset, .unset] [])) _
  refine XS.iloadN X0.here hx rfl (hb hby at_90) rfl ?_
  show Steps p.tables e below (T0.setTop (mkF m 91 #[.val (.int p1), .val (.int p2), .val (.int p3), .val (.int lw), .val (.ref a4), .val (.ref a5), .val (.int (own_hex p1 lw)), .val (.int (1 : Int32)), .unset, .unset, .unset, .unset] [(.int p2)])) _
  refine XS.bipush X0.here hx rfl (hb hby at_91) ?_
  show Steps p.tables e below (T0.setTop (mkF m 93 #[.val (.int p1), .val (.int p2), .val (.int p3), .val (.int lw), .val (.ref a4), .val (.ref a5), .val (.int (own_hex p1 lw)), .val (.int (1 : Int32)), .unset, .unset, .unset, .unset] [(.int (15 : Int32)), (.int p2)])) _
  refine XS.iand X0.here hx rfl (hb hby at_93) rfl ?_
  show Steps p.tables e below (T0.setTop (mkF m 94 #[.val (.int p1), .val (.int p2), .val (.int p3), .val (.int lw), .val (.ref a4), .val (.ref a5), .val (.int (own_hex p1 lw)), .val (.int (1 : Int32)), .unset, .unset, .unset, .unset] [(.int (p2 &&& (15 : Int32)))])) _
  refine XS.istore X0.here hx rfl (hb hby at_94) rfl (l' := #[.val (.int p1), .val (.int p2), .val (.int p3), .val (.int lw), .val (.ref a4), .val (.ref a5), .val (.int (own_hex p1 lw)), .val (.int (1 : Int32)), .val (.int (p2 &&& (15 : Int32))), .unset, .unset, .unset]) rfl ?_
  show Steps p.tables e below (T0.setTop (mkF m 96 #[.val (.int p1), .val (.int p2), .val (.int p3), .val (.int lw), .val (.ref a4), .val (.ref a5), .val (.int (own_hex p1 lw)), .val (.int (1 : Int32)), .val (.int (p2 &&& (15 : Int32))), .unset, .unset, .unset] [])) _
  refine XS.aload X0.here hx rfl (hb hby at_96) rfl rfl ?_
  show Steps p.tables e below (T0.setTop (mkF m 98 #[.val (.int p1), .val (.int p2), .val (.int p3), .val (.int lw), .val (.ref a4), .val (.ref a5), .val (.int (own_hex p1 lw)), .val (.int (1 : Int32)), .val (.int (p2 &&& (15 : Int32))), .unset, .unset, .unset] [(.ref a4)])) _
  refine XS.iload X0.here hx rfl (hb hby at_98) rfl ?_
  show Steps p.tables e below (T0.setTop (mkF m 100 #[.val (.int p1), .val (.int p2), .val (.int p3), .val (.int lw), .val (.ref a4), .val (.ref a5), .val (.int (own_hex p1 lw)), .val (.int (1 : Int32)), .val (.int (p2 &&& (15 : Int32))), .unset, .unset, .unset] [(.int (p2 &&& (15 : Int32))), (.ref a4)])) _
  refine st1.trans ?_
  show Steps p.tables e below (T1.setTop (mkF m 103 #[.val (.int p1), .val (.int p2), .val (.int p3), .val (.int lw), .val (.ref a4), .val (.ref a5), .val (.int (own_hex p1 lw)), .val (.int (1 : Int32)), .val (.int (p2 &&& (15 : Int32))), .unset, .unset, .unset] [(.int (own_up.getD (p2 &&& (15 : Int32)).toNatClampNeg 0))])) _
  refine XS.iloadN X1.here hx rfl (hb hby at_103) rfl ?_
  show Steps p.tables e below (T1.setTop (mkF m 104 #[.val (.int p1), .val (.int p2), .val (.int p3), .val (.int lw), .val (.ref a4), .val (.ref a5), .val (.int (own_hex p1 lw)), .val (.int (1 : Int32)), .val (.int (p2 &&& (15 : Int32))), .unset, .unset, .unset] [(.int lw), (.int (own_up.getD (p2 &&& (15 : Int32)).toNatClampNeg 0))])) _
  refine st2 _ ?_
  show Steps p.tables e below (T2.setTop (mkF m 107 #[.val (.int p1), .val (.int p2), .val (.int p3), .val (.int lw), .val (.ref a4), .val (.ref a5), .val (.int (own_hex p1 lw)), .val (.int (1 : Int32)), .val (.int (p2 &&& (15 : Int32))), .unset, .unset, .unset] [(.int (own_hex (own_up.getD (p2 &&& (15 : Int32)).toNatClampNeg 0) lw))])) _
  refine XS.iload X2.here hx rfl (hb hby at_107) rfl ?_
  show Steps p.tables e below (T2.setTop (mkF m 109 #[.val (.int p1), .val (.int p2), .val (.int p3), .val (.int lw), .val (.ref a4), .val (.ref a5), .val (.int (own_hex p1 lw)), .val (.int (1 : Int32)), .val (.int (p2 &&& (15 : Int32))), .unset, .unset, .unset] [(.int (p2 &&& (15 : Int32))), (.int (own_hex (own_up.getD (p2 &&& (15 : Int32)).toNatClampNeg 0) lw))])) _
  refine XS.icmpNo X2.here hx rfl (hb hby at_109) rfl (teq (own_h4 hlw p2)).2 ?_
  show Steps p.tables e below (T2.setTop (mkF m 112 #[.val (.int p1), .val (.int p2), .val (.int p3), .val (.int lw), .val (.ref a4), .val (.ref a5), .val (.int (own_hex p1 lw)), .val (.int (1 : Int32)), .val (.int (p2 &&& (15 : Int32))), .unset, .unset, .unset] [])) _
  refine XS.iconst X2.here hx rfl (hb hby at_112) ?_
  show Steps p.tables e below (T2.setTop (mkF m 113 #[.val (.int p1), .val (.int p2), .val (.int p3), .val (.int lw), .val (.ref a4), .val (.ref a5), .val (.int (own_hex p1 lw)), .val (.int (1 : Int32)), .val (.int (p2 &&& (15 : Int32))), .unset, .unset, .unset] [(.int (1 : Int32))])) _
  refine XS.goto X2.here hx rfl (pc0 := 113) (pc' := 117) rfl (hb hby at_113) (by decide) (by decide) ?_
  show Steps p.tables e below (T2.setTop (mkF m 117 #[.val (.int p1), .val (.int p2), .val (.int p3), .val (.int lw), .val (.ref a4), .val (.ref a5), .val (.int (own_hex p1 lw)), .val (.int (1 : Int32)), .val (.int (p2 &&& (15 : Int32))), .unset, .unset, .unset] [(.int (1 : Int32))])) _
  refine XS.istore X2.here hx rfl (hb hby at_117) rfl (l' := #[.val (.int p1), .val (.int p2), .val (.int p3), .val (.int lw), .val (.ref a4), .val (.ref a5), .val (.int (own_hex p1 lw)), .val (.int (1 : Int32)), .val (.int (p2 &&& (15 : Int32))), .val (.int (1 : Int32)), .unset, .unset]) rfl ?_
  show Steps p.tables e below (T2.setTop (mkF m 119 #[.val (.int p1), .val (.int p2), .val (.int p3), .val (.int lw), .val (.ref a4), .val (.ref a5), .val (.int (own_hex p1 lw)), .val (.int (1 : Int32)), .val (.int (p2 &&& (15 : Int32))), .val (.int (1 : Int32)), .unset, .unset] [])) _
  refine own_s2 X2 hx hZ hw hby hml hown _ ?_
  show Steps p.tables e below (T2.setTop (mkF m 136 #[.val (.int p1), .val (.int p2), .val (.int p3), .val (.int lw), .val (.ref a4), .val (.ref a5), .val (.int (own_hex p1 lw)), .val (.int (1 : Int32)), .val (.int (p2 &&& (15 : Int32))), .val (.int (1 : Int32)), .unset, .unset] [(.int (own_el lw (p2 &&& (15 : Int32))))])) _
  refine XS.istore X2.here hx rfl (hb hby at_136) rfl (l' := #[.val (.int p1), .val (.int p2), .val (.int p3), .val (.int lw), .val (.ref a4), .val (.ref a5), .val (.int (own_hex p1 lw)), .val (.int (1 : Int32)), .val (.int (p2 &&& (15 : Int32))), .val (.int (1 : Int32)), .val (.int (own_el lw (p2 &&& (15 : Int32)))), .unset]) rfl ?_
  show Steps p.tables e below (T2.setTop (mkF m 138 #[.val (.int p1), .val (.int p2), .val (.int p3), .val (.int lw), .val (.ref a4), .val (.ref a5), .val (.int (own_hex p1 lw)), .val (.int (1 : Int32)), .val (.int (p2 &&& (15 : Int32))), .val (.int (1 : Int32)), .val (.int (own_el lw (p2 &&& (15 : Int32)))), .unset] [])) _
  refine XS.aload X2.here hx rfl (hb hby at_138) rfl rfl ?_
  show Steps p.tables e below (T2.setTop (mkF m 140 #[.val (.int p1), .val (.int p2), .val (.int p3), .val (.int lw), .val (.ref a4), .val (.ref a5), .val (.int (own_hex p1 lw)), .val (.int (1 : Int32)), .val (.int (p2 &&& (15 : Int32))), .val (.int (1 : Int32)), .val (.int (own_el lw (p2 &&& (15 : Int32)))), .unset] [(.ref a5)])) _
  refine XS.iload X2.here hx rfl (hb hby at_140) rfl ?_
  show Steps p.tables e below (T2.setTop (mkF m 142 #[.val (.int p1), .val (.int p2), .val (.int p3), .val (.int lw), .val (.ref a4), .val (.ref a5), .val (.int (own_hex p1 lw)), .val (.int (1 : Int32)), .val (.int (p2 &&& (15 : Int32))), .val (.int (1 : Int32)), .val (.int (own_el lw (p2 &&& (15 : Int32)))), .unset] [(.int (p2 &&& (15 : Int32))), (.ref a5)])) _
  refine st3.trans ?_
  show Steps p.tables e below (T3.setTop (mkF m 145 #[.val (.int p1), .val (.int p2), .val (.int p3), .val (.int lw), .val (.ref a4), .val (.ref a5), .val (.int (own_hex p1 lw)), .val (.int (1 : Int32)), .val (.int (p2 &&& (15 : Int32))), .val (.int (1 : Int32)), .val (.int (own_el lw (p2 &&& (15 : Int32)))), .unset] [(.int (own_lw.getD (p2 &&& (15 : Int32)).toNatClampNeg 0))])) _
  refine XS.iloadN X3.here hx rfl (hb hby at_145) rfl ?_
  show Steps p.tables e below (T3.setTop (mkF m 146 #[.val (.int p1), .val (.int p2), .val (.int p3), .val (.int lw), .val (.ref a4), .val (.ref a5), .val (.int (own_hex p1 lw)), .val (.int (1 : Int32)), .val (.int (p2 &&& (15 : Int32))), .val (.int (1 : Int32)), .val (.int (own_el lw (p2 &&& (15 : Int32)))), .unset] [(.int lw), (.int (own_lw.getD (p2 &&& (15 : Int32)).toNatClampNeg 0))])) _
  refine st4 _ ?_
  show Steps p.tables e below (T4.setTop (mkF m 149 #[.val (.int p1), .val (.int p2), .val (.int p3), .val (.int lw), .val (.ref a4), .val (.ref a5), .val (.int (own_hex p1 lw)), .val (.int (1 : Int32)), .val (.int (p2 &&& (15 : Int32))), .val (.int (1 : Int32)), .val (.int (own_el lw (p2 &&& (15 : Int32)))), .unset] [(.int (own_hex (own_lw.getD (p2 &&& (15 : Int32)).toNatClampNeg 0) lw))])) _
  refine XS.iload X4.here hx rfl (hb hby at_149) rfl ?_
  show Steps p.tables e below (T4.setTop (mkF m 151 #[.val (.int p1), .val (.int p2), .val (.int p3), .val (.int lw), .val (.ref a4), .val (.ref a5), .val (.int (own_hex p1 lw)), .val (.int (1 : Int32)), .val (.int (p2 &&& (15 : Int32))), .val (.int (1 : Int32)), .val (.int (own_el lw (p2 &&& (15 : Int32)))), .unset] [(.int (own_el lw (p2 &&& (15 : Int32)))), (.int (own_hex (own_lw.getD (p2 &&& (15 : Int32)).toNatClampNeg 0) lw))])) _
  refine XS.icmpNo X4.here hx rfl (hb hby at_151) rfl (teq (own_h5 hlw p2)).2 ?_
  show Steps p.tables e below (T4.setTop (mkF m 154 #[.val (.int p1), .val (.int p2), .val (.int p3), .val (.int lw), .val (.ref a4), .val (.ref a5), .val (.int (own_hex p1 lw)), .val (.int (1 : Int32)), .val (.int (p2 &&& (15 : Int32))), .val (.int (1 : Int32)), .val (.int (own_el lw (p2 &&& (15 : Int32)))), .unset] [])) _
  refine XS.iconst X4.here hx rfl (hb hby at_154) ?_
  show Steps p.tables e below (T4.setTop (mkF m 155 #[.val (.int p1), .val (.int p2), .val (.int p3), .val (.int lw), .val (.ref a4), .val (.ref a5), .val (.int (own_hex p1 lw)), .val (.int (1 : Int32)), .val (.int (p2 &&& (15 : Int32))), .val (.int (1 : Int32)), .val (.int (own_el lw (p2 &&& (15 : Int32)))), .unset] [(.int (1 : Int32))])) _
  refine XS.goto X4.here hx rfl (pc0 := 155) (pc' := 159) rfl (hb hby at_155) (by decide) (by decide) ?_
  show Steps p.tables e below (T4.setTop (mkF m 159 #[.val (.int p1), .val (.int p2), .val (.int p3), .val (.int lw), .val (.ref a4), .val (.ref a5), .val (.int (own_hex p1 lw)), .val (.int (1 : Int32)), .val (.int (p2 &&& (15 : Int32))), .val (.int (1 : Int32)), .val (.int (own_el lw (p2 &&& (15 : Int32)))), .unset] [(.int (1 : Int32))])) _
  refine XS.istore X4.here hx rfl (hb hby at_159) rfl (l' := #[.val (.int p1), .val (.int p2), .val (.int p3), .val (.int lw), .val (.ref a4), .val (.ref a5), .val (.int (own_hex p1 lw)), .val (.int (1 : Int32)), .val (.int (p2 &&& (15 : Int32))), .val (.int (1 : Int32)), .val (.int (own_el lw (p2 &&& (15 : Int32)))), .val (.int (1 : Int32))]) rfl ?_
  show Steps p.tables e below (T4.setTop (mkF m 161 #[.val (.int p1), .val (.int p2), .val (.int p3), .val (.int lw), .val (.ref a4), .val (.ref a5), .val (.int (own_hex p1 lw)), .val (.int (1 : Int32)), .val (.int (p2 &&& (15 : Int32))), .val (.int (1 : Int32)), .val (.int (own_el lw (p2 &&& (15 : Int32)))), .val (.int (1 : Int32))] [])) _
  refine XS.iload X4.here hx rfl (hb hby at_161) rfl ?_
  show Steps p.tables e below (T4.setTop (mkF m 163 #[.val (.int p1), .val (.int p2), .val (.int p3), .val (.int lw), .val (.ref a4), .val (.ref a5), .val (.int (own_hex p1 lw)), .val (.int (1 : Int32)), .val (.int (p2 &&& (15 : Int32))), .val (.int (1 : Int32)), .val (.int (own_el lw (p2 &&& (15 : Int32)))), .val (.int (1 : Int32))] [(.int (1 : Int32))])) _
  refine XS.ifNo X4.here hx rfl (hb hby at_163) rfl ((if0 _ _).trans (feq (by decide : ¬ ((1 : Int32) = (0 : Int32)))).1) ?_
  show Steps p.tables e below (T4.setTop (mkF m 166 #[.val (.int p1), .val (.int p2), .val (.int p3), .val (.int lw), .val (.ref a4), .val (.ref a5), .val (.int (own_hex p1 lw)), .val (.int (1 : Int32)), .val (.int (p2 &&& (15 : Int32))), .val (.int (1 : Int32)), .val (.int (own_el lw (p2 &&& (15 : Int32)))), .val (.int (1 : Int32))] [])) _
  refine XS.iload X4.here hx rfl (hb hby at_166) rfl ?_
  show Steps p.tables e below (T4.setTop (mkF m 168 #[.val (.int p1), .val (.int p2), .val (.int p3), .val (.int lw), .val (.ref a4), .val (.ref a5), .val (.int (own_hex p1 lw)), .val (.int (1 : Int32)), .val (.int (p2 &&& (15 : Int32))), .val (.int (1 : Int32)), .val (.int (own_el lw (p2 &&& (15 : Int32)))), .val (.int (1 : Int32))] [(.int (1 : Int32))])) _
  refine XS.ifNo X4.here hx rfl (hb hby at_168) rfl ((if0 _ _).trans (feq (by decide : ¬ ((1 : Int32) = (0 : Int32)))).1) ?_
  show Steps p.tables e below (T4.setTop (mkF m 171 #[.val (.int p1), .val (.int p2), .val (.int p3), .val (.int lw), .val (.ref a4), .val (.ref a5), .val (.int (own_hex p1 lw)), .val (.int (1 : Int32)), .val (.int (p2 &&& (15 : Int32))), .val (.int (1 : Int32)), .val (.int (own_el lw (p2 &&& (15 : Int32)))), .val (.int (1 : Int32))] [])) _
  refine XS.iload X4.here hx rfl (hb hby at_171) rfl ?_
  show Steps p.tables e below (T4.setTop (mkF m 173 #[.val (.int p1), .val (.int p2), .val (.int p3), .val (.int lw), .val (.ref a4), .val (.ref a5), .val (.int (own_hex p1 lw)), .val (.int (1 : Int32)), .val (.int (p2 &&& (15 : Int32))), .val (.int (1 : Int32)), .val (.int (own_el lw (p2 &&& (15 : Int32)))), .val (.int (1 : Int32))] [(.int (1 : Int32))])) _
  refine XS.ifNo X4.here hx rfl (hb hby at_173) rfl ((if0 _ _).trans (feq (by decide : ¬ ((1 : Int32) = (0 : Int32)))).1) ?_
  show Steps p.tables e below (T4.setTop (mkF m 176 #[.val (.int p1), .val (.int p2), .val (.int p3), .val (.int lw), .val (.ref a4), .val (.ref a5), .val (.int (own_hex p1 lw)), .val (.int (1 : Int32)), .val (.int (p2 &&& (15 : Int32))), .val (.int (1 : Int32)), .val (.int (own_el lw (p2 &&& (15 : Int32)))), .val (.int (1 : Int32))] [])) _
  refine XS.iconst X4.here hx rfl (hb hby at_176) ?_
  show Steps p.tables e below (T4.setTop (mkF m 177 #[.val (.int p1), .val (.int p2), .val (.int p3), .val (.int lw), .val (.ref a4), .val (.ref a5), .val (.int (own_hex p1 lw)), .val (.int (1 : Int32)), .val (.int (p2 &&& (15 : Int32))), .val (.int (1 : Int32)), .val (.int (own_el lw (p2 &&& (15 : Int32)))), .val (.int (1 : Int32))] [(.int (1 : Int32))])) _
  refine XS.goto X4.here hx rfl (pc0 := 177) (pc' := 181) rfl (hb hby at_177) (by decide) (by decide) ?_
  exact kt
theorem pn_0 : plainName "com/example/dotname/dotname/PercentCodingHexDigitValuePinLaw" = true := by first | (simp [plainName, overriddenIn]; done) | decide +kernel
theorem ef_0 (m : MethodId) (x0 x1 x2 : Int32) : entryFrame m #[(.int x0), (.int x1), (.int x2)] maxLocals = mkF m 0 #[.val (.int x0), .val (.int x1), .val (.int x2), .unset, .unset, .unset, .unset, .unset, .unset, .unset, .unset, .unset] [] := by first | (simp [entryFrame, mkF, argsToLocals, Value.category, maxLocals]; done) | rfl
def Q0 (n0 : Nat) (v : Option Value) (h : Heap) (L : List Loc) : Prop := v = some (.int (1 : Int32)) ∧ Fr n0 L
theorem own_EW {Z : State} {a0 : Array Value} (hw : ∀ d ∈ tables_1, d.before a0 Z = true) : EW Z a0 consts_1 := EW.cons (hw _ (List.mem_of_getElem? (i := 0) rfl)) (by decide +kernel) (EW.cons (hw _ (List.mem_of_getElem? (i := 8) rfl)) (by decide +kernel) EW.nil)
theorem own_atoms {Z : State} {a0 : Array Value} (hw : ∀ d ∈ tables_1, d.before a0 Z = true) : ∀ d ∈ Bundle.stringAtoms, d.before a0 Z = true := fun d hd => hw d ((by decide +kernel : ∀ d ∈ Bundle.stringAtoms, d ∈ tables_1) d hd)
set_option maxRecDepth 65536 in
set_option maxHeartbeats 40000000 in
theorem rm0 (l : Launch) (Z : State) (a0 : Array Value) (hw : ∀ d ∈ tables_1, d.before a0 Z = true) (ws : List Jvm.Cond) (p1 p2 p3 : Int32) (G1 : Int32) (G3 : Value) (h0 : Heap) (n0 : Nat) (O2 : Sta Z Z.heap "java/lang/String" "COMPACT_STRINGS" "Z" (.int G1)) (O4 : Sta Z Z.heap "jdk/internal/util/Preconditions" "SIOOBE_FORMATTER" "Ljava/util/function/BiFunction;" G3) (P5 : ¬ (G1 = (0 : Int32))) (rG3 : G3.isRef = true) (X00 : Old Z n0 h0) (Z0 : n0 ≤ h0.size) :
    MetFree l x (head1 (Jvm.Cond.code x code maxLocals ret :: ws) room_1) (fun a U => a = #[(.int p1), (.int p2), (.int p3)] ∧ Z.Warmed39 U.vm ∧ U.heap = h0 ∧ CHv Z consts_1 U.vm h0) (fun _ _ _ _ _ => True) (fun _ U o U' => ∃ v L, o = .returned v ∧ Q0 n0 v U'.heap L ∧ ReturnedEndW U o U' L room_1.cells room_1.slots) := by
  refine MetFree.of_bodySF (plainFor_of_name pn_0) hisR ?_
  intro p e s m args below meth c s₁ Bd hml0 hP hK
  obtain ⟨rfl, hZ, hh, hH⟩ := hP
  have hx := Bd.exec
  have hby := Bd.bytes
  have hml : c.maxLocals = 12 := hml0
  have hown : s.vm.findClass "com/example/dotname/dotname/PercentCodingHexDigitValuePinLaw" = some m.cls := findClass_of_methodNamed Bd.named
  have X0 : Stand p l e room_1 s m #[(.int p1), (.int p2), (.int p3)] below meth c s₁ [] 0 0 := Stand.of_body Bd
  have e0 : s₁.heap = h0 := by rw [← hh, Bd.state]; rfl
  have N0 := Fr.nil n0
  have pre0 : ∀ t, Steps p.tables e below (s₁.setTop (mkF m 0 #[.val (.int p1), .val (.int p2), .val (.int p3), .unset, .unset, .unset, .unset, .unset, .unset, .unset, .unset, .unset] [])) t → Steps p.tables e below (s₁.setTop (entryFrame m #[(.int p1), (.int p2), (.int p3)] maxLocals)) t := fun t k => castTop (ef_0 m p1 p2 p3) k
  have hS0 : s.Since s.vm h0.size := ⟨State.Warmed39.refl s, own_booked s _⟩
  obtain ⟨a4, Ta, ha, ka1, b4, kb4, Xa, ea, Ea, hSa, hka, hZa, howna, Ex4, Fc4, Fv4, Av4, lta4, ltb4, CHa, Li4, Sf4, sta⟩ := ldcCH (s := s) (vm0 := s.vm) (own := "com/example/dotname/dotname/PercentCodingHexDigitValuePinLaw") (index := 7) (EL := consts_1) X0 hx hZ hown (hw _ (List.mem_of_getElem? (i := 0) rfl)) (own_atoms hw) e0 hS0 (Nat.le_refl _) (own_EW hw) (by decide +kernel) hH (vs := (own_up.map StrChars.lo8).map Value.int) (z := Int32.ofNat 16) (by decide +kernel) (by decide) (by decide +kernel) (g := (mkF m 12 #[.val (.int p1), .val (.int p2), .val (.int p3), .val (.int (own_lo p3)), .unset, .unset, .unset, .unset, .unset, .unset, .unset, .unset] [])) rfl (hb hby at_12) (n := 64) (by decide +kernel) (by decide) (by decide) (by decide)
  obtain ⟨a5, Tb, hb_, kb1, b5, kb5, Xb, eb, Eb, hSb, hkb, hZb, hownb, Ex5, Fc5, Fv5, Av5, lta5, ltb5, CHb, Li5, Sf5, stb⟩ := ldcCH (s := s) (vm0 := Ta.vm) (own := "com/example/dotname/dotname/PercentCodingHexDigitValuePinLaw") (index := 9) (EL := consts_1) Xa hx hZa howna (hw _ (List.mem_of_getElem? (i := 8) rfl)) (own_atoms hw) ea hSa hka (own_EW hw) (by decide +kernel) CHa.1 (vs := (own_lw.map StrChars.lo8).map Value.int) (z := Int32.ofNat 16) (by decide +kernel) (by decide) (by decide +kernel) (g := (mkF m 16 #[.val (.int p1), .val (.int p2), .val (.int p3), .val (.int (own_lo p3)), .val (.ref a4), .unset, .unset, .unset, .unset, .unset, .unset, .unset] [])) rfl (hb hby at_16) (n := 64) (by decide +kernel) (by decide) (by decide) (by decide)
  have Ob : Ext Z.heap hb_ := ⟨Nat.le_trans X00.2.1 (Nat.le_trans Ea.1 Eb.1), fun y c q => Eb.2 y c (Ea.2 y c (X00.2.2 y c q))⟩
  have Zb : n0 ≤ hb_.size := Nat.le_trans Z0 (Nat.le_trans Ea.1 Eb.1)
  obtain ⟨_, _, ⟨Tc, Lc, kkc, nnc⟩, -, Xc, ⟨Lcc, hQc, lc, yc, zc⟩, stc⟩ := Jvm.LawKit.callS Xb hx (y := (⟨"com/example/dotname/dotname/PercentCoding", "hexDigitValue", "(IZ)I"⟩ : MethodName)) hownb (mvT hZb (hw _ (List.mem_of_getElem? (i := 9) rfl))) (mvT hZb (hw _ (List.mem_of_getElem? (i := 10) rfl))) (mvT hZb (hw _ (List.mem_of_getElem? (i := 11) rfl))) (mvT hZb (hw _ (List.mem_of_getElem? (i := 12) rfl))) (by decide) (backOf (W := 0) (rm1 l Z a0 hw [] p1 (own_lo p3) hb_ n0 Zb) hZb (hw _ (List.mem_of_getElem? (i := 12) rfl)) (hw _ (List.mem_of_getElem? (i := 11) rfl)) (by decide) (by decide)) (g := (mkF m 22 #[.val (.int p1), .val (.int p2), .val (.int p3), .val (.int (own_lo p3)), .val (.ref a4), .val (.ref a5), .unset, .unset, .unset, .unset, .unset, .unset] [(.int (own_lo p3)), (.int p1)])) rfl (by rw [hml]; rfl) (argsL := [(.int p1), (.int (own_lo p3))]) (rest := []) (lenOf pd_hex rfl) rfl (by show 2 * 0 + _ ≤ _; exact Nat.le_of_eq rfl) (hb hby at_22) (fun _ _ => ⟨rfl, eb, (Nat.le_of_ble_eq_true rfl), (Nat.le_of_ble_eq_true rfl)⟩)
  dsimp only [Pt.U, Pt.locs, Pt.cells, Pt.slots] at Xc lc yc zc stc hQc
  subst lc yc zc
  obtain ⟨rfl, Ncq, ec⟩ := hQc
  have Nc := Fr.app N0 Ncq
  obtain ⟨Td, Ld, Xd, ed, Nd, std⟩ := own_mid (p1 := p1) (p2 := p2) (p3 := p3) (lw := (own_lo p3)) Xc hx hZb hw hby hml hownb ec Nc Zb (by decide) (by decide) (Ex4.ext Eb) (Fc4.ext Eb) (Fv4.ext Eb) (Av4.ext Eb) Ex5 Fc5 Fv5 Av5 (O2.ext Ob) P5 (O4.ext Ob) rG3
  obtain ⟨Te, Le, Lse, Xe, ee, Ne, ste⟩ := own_end (p1 := p1) (p2 := p2) (p3 := p3) (lw := (own_lo p3)) Xd hx hZb hw hby hml hownb ed Nd Zb (by decide) (by decide) (Ex4.ext Eb) (Fc4.ext Eb) (Fv4.ext Eb) (Av4.ext Eb) Ex5 Fc5 Fv5 Av5 (O2.ext Ob) P5 (O4.ext Ob) rG3 (own_lo01 p3)
  obtain ⟨fs, hr, hrun, hended, hEnd⟩ := Xe.leaveW hSb (by rw [ee]; exact hkb) (v := some (.int (1 : Int32))) (fun h => by rw [Bd.returns] at h; cases h)
  refine ⟨_, _, pre0 _ ?_, hrun, hended, _, _, rfl, ⟨rfl, Ne⟩, own_mono hEnd (by decide) (by decide)⟩
  show Steps p.tables e below (s₁.setTop (mkF m 0 #[.val (.int p1), .val (.int p2), .val (.int p3), .unset, .unset, .unset, .unset, .unset, .unset, .unset, .unset, .unset] [])) _
  refine own_s1 X0 hx hZ hw hby hml hown _ ?_
  show Steps p.tables e below (s₁.setTop (mkF m 11 #[.val (.int p1), .val (.int p2), .val (.int p3), .unset, .unset, .unset, .unset, .unset, .unset, .unset, .unset, .unset] [(.int (own_lo p3))])) _
  refine XS.istoreN X0.here hx rfl (hb hby at_11) rfl (l' := #[.val (.int p1), .val (.int p2), .val (.int p3), .val (.int (own_lo p3)), .unset, .unset, .unset, .unset, .unset, .unset, .unset, .unset]) rfl ?_
  show Steps p.tables e below (s₁.setTop (mkF m 12 #[.val (.int p1), .val (.int p2), .val (.int p3), .val (.int (own_lo p3)), .unset, .unset, .unset, .unset, .unset, .unset, .unset, .unset] [])) _
  refine sta _ ?_
  show Steps p.tables e below (Ta.setTop (mkF m 14 #[.val (.int p1), .val (.int p2), .val (.int p3), .val (.int (own_lo p3)), .unset, .unset, .unset, .unset, .unset, .unset, .unset, .unset] [(.ref a4)])) _
  refine XS.astore Xa.here hx rfl (hb hby at_14) rfl rfl (l' := #[.val (.int p1), .val (.int p2), .val (.int p3), .val (.int (own_lo p3)), .val (.ref a4), .unset, .unset, .unset, .unset, .unset, .unset, .unset]) rfl ?_
  show Steps p.tables e below (Ta.setTop (mkF m 16 #[.val (.int p1), .val (.int p2), .val (.int p3), .val (.int (own_lo p3)), .val (.ref a4), .unset, .unset, .unset, .unset, .unset, .unset, .unset] [])) _
  refine stb _ ?_
  show Steps p.tables e below (Tb.setTop (mkF m 18 #[.val (.int p1), .val (.int p2), .val (.int p3), .val (.int (own_lo p3)), .val (.ref a4), .unset, .unset, .unset, .unset, .unset, .unset, .unset] [(.ref a5)])) _
  refine XS.astore Xb.here hx rfl (hb hby at_18) rfl rfl (l' := #[.val (.int p1), .val (.int p2), .val (.int p3), .val (.int (own_lo p3)), .val (.ref a4), .val (.ref a5), .unset, .unset, .unset, .unset, .unset, .unset]) rfl ?_
  show Steps p.tables e below (Tb.setTop (mkF m 20 #[.val (.int p1), .val (.int p2), .val (.int p3), .val (.int (own_lo p3)), .val (.ref a4), .val (.ref a5), .unset, .unset, .unset, .unset, .unset, .unset] [])) _
  refine XS.iloadN Xb.here hx rfl (hb hby at_20) rfl ?_
  show Steps p.tables e below (Tb.setTop (mkF m 21 #[.val (.int p1), .val (.int p2), .val (.int p3), .val (.int (own_lo p3)), .val (.ref a4), .val (.ref a5), .unset, .unset, .unset, .unset, .unset, .unset] [(.int p1)])) _
  refine XS.iloadN Xb.here hx rfl (hb hby at_21) rfl ?_
  show Steps p.tables e below (Tb.setTop (mkF m 22 #[.val (.int p1), .val (.int p2), .val (.int p3), .val (.int (own_lo p3)), .val (.ref a4), .val (.ref a5), .unset, .unset, .unset, .unset, .unset, .unset] [(.int (own_lo p3)), (.int p1)])) _
  refine stc _ ?_
  show Steps p.tables e below (Tc.setTop (mkF m 25 #[.val (.int p1), .val (.int p2), .val (.int p3), .val (.int (own_lo p3)), .val (.ref a4), .val (.ref a5), .unset, .unset, .unset, .unset, .unset, .unset] [(.int (own_hex p1 (own_lo p3)))])) _
  refine XS.istore Xc.here hx rfl (hb hby at_25) rfl (l' := #[.val (.int p1), .val (.int p2), .val (.int p3), .val (.int (own_lo p3)), .val (.ref a4), .val (.ref a5), .val (.int (own_hex p1 (own_lo p3))), .unset, .unset, .unset, .unset, .unset]) rfl ?_
  show Steps p.tables e below (Tc.setTop (mkF m 27 #[.val (.int p1), .val (.int p2), .val (.int p3), .val (.int (own_lo p3)), .val (.ref a4), .val (.ref a5), .val (.int (own_hex p1 (own_lo p3))), .unset, .unset, .unset, .unset, .unset] [])) _
  refine std _ ?_
  refine ste _ ?_
  exact retN Xe hx (t := .boolean) Bd.returns (by simp) (hb hby at_181) hr
set_option maxRecDepth 65536 in
set_option maxHeartbeats 40000000 in
theorem comes_1 {Post : Tables → Env → Array Value → State → Outcome → State → Prop} (hpost : ∀ tb e args s v u, (limb_1_1.after args s (.returned v) u = true ∧ limb_1_2.after args s (.returned v) u = true ∧ True) → ReturnedEndW s (.returned v) u (Jvm.fieldLocs frame_1_writes args s ++ Jvm.arrayLocs frame_1_arrays args s ++ Jvm.staticLocs frame_1_statics s) room_1.cells room_1.slots → Post tb e args s (.returned v) u) :
    ArmFor flags0 classFile x code maxLocals ret World_1 tables_1 room_1 Calls_1 rest_1 Pre_1 Post := by
  intro l hfl _ _ p e ha hc hk s m args below hf hA hF happ hP
  obtain ⟨hcalls, hrest, hpre⟩ := hP
  obtain ⟨-, -, -, hnamed, -, -, -, hat⟩ := (Spec.applies_iff hf).mp happ
  obtain ⟨hg, hn⟩ := and_e (Cond.before_iff.mp (show (Jvm.Cond.and given_1 narrow_1).before args s = true from hpre))
  obtain ⟨g0, g1⟩ := and_e hg
  obtain ⟨u0, g2⟩ := and_e g1
  obtain ⟨u1, g3⟩ := and_e g2
  obtain ⟨w0, w1, w2, rfl⟩ : ∃ w0 w1 w2 : Value, args = #[w0, w1, w2] := by
    have hs : args.size = 3 := by simpa [Cond.value, given_1] using g0
    obtain ⟨L⟩ := args
    match L, hs with
    | [w0, w1, w2], _ => exact ⟨w0, w1, w2, rfl⟩
  have hw := fun d (hd : d ∈ tables_1) => atoms_spec (ws := Jvm.Cond.code x code maxLocals ret :: tables_1) hat d (List.mem_cons_of_mem _ hd)
  obtain ⟨hsets, hown0⟩ := atoms_of _ (rest_1_c_eq ▸ (show rest_1_c.before _ s = true from hrest))
  have n5 := not_v (Cond.before_iff.mp (hsets _ (List.mem_of_getElem? (i := 2) rfl)))
  obtain ⟨i0, ei0⟩ := is_v u0
  obtain rfl : w0 = (.int i0) := Option.some.inj ei0
  obtain ⟨i1, ei1⟩ := is_v u1
  obtain rfl : w1 = (.int i1) := Option.some.inj ei1
  obtain ⟨i2, ei2⟩ := is_v g3
  obtain rfl : w2 = (.int i2) := Option.some.inj ei2
  obtain ⟨i11, e10⟩ := is_v (Cond.before_iff.mp (hsets _ (List.mem_of_getElem? (i := 1) rfl)))
  have S12 : Sta s s.heap "java/lang/String" "COMPACT_STRINGS" "Z" (.int i11) := Sta.start e10 (Or.inl (hsets _ (List.mem_of_getElem? (i := 0) rfl)))
  obtain ⟨v13, e14, r15⟩ := isR_v (Cond.before_iff.mp (hsets _ (List.mem_of_getElem? (i := 8) rfl)))
  have S16 : Sta s s.heap "jdk/internal/util/Preconditions" "SIOOBE_FORMATTER" "Ljava/util/function/BiFunction;" v13 := Sta.start e14 (Or.inl (hsets _ (List.mem_of_getElem? (i := 7) rfl)))
  have c17 : ¬ (i11 = (0 : Int32)) := gotF (Cond.eq_ints e10 (Term.int_eval (0))) n5
  have CH0 : CHv s consts_1 s.vm s.heap := CHv.start (own_EW hw) hcalls.1 (hsets _ (List.mem_of_getElem? (i := 2) rfl)) (hw _ (List.mem_of_getElem? (i := 3) rfl)) (hw _ (List.mem_of_getElem? (i := 2) rfl))
  obtain ⟨n, o, h1, h2, h3, _, L, rfl, ⟨rfl, N⟩, hq⟩ := rm0 l s _ hw tables_1 i0 i1 i2 i11 v13 s.heap s.heap.size S12 S16 c17 r15 (Old.start s) (Nat.le_refl _) p e ha hc hk s m _ below hf ((Spec.applies_iff_loose hf).mp happ).1 ⟨rfl, State.Warmed39.refl s, rfl, CH0⟩ trivial
  refine ⟨n, _, h1, h2, h3, hpost _ _ _ _ _ _ ⟨Cond.after_iff.mpr rfl, Cond.after_iff.mpr (eq_i res_at (Term.int_eval (1)) rfl), trivial⟩ ⟨hq.1, hq.2.1, hq.2.2.1, (hq.2.2.2.sift fun y hy => Or.inr (N y hy)).mono (by decide) (by decide)⟩⟩
theorem main_1_1 : Claimed_1_1 := comes_1 fun _ _ _ _ _ _ h hF => ⟨h.1, hF⟩
theorem main_1_2 : Claimed_1_2 := comes_1 fun _ _ _ _ _ _ h hF => ⟨h.2.1, hF⟩
end Jvm.Pilot.@@N@@
namespace Jvm.Pilot.@@N@@
open Jvm Jvm.ClassFile Sem Op Lib Jvm.Free Jvm.Stand Jvm.Pilot.@@N@@.Jvm.D
/-! MADE BY PROGRAM (witnessworld.py) out of the Statement's table words and the real class files: 17 classes; the members and pool entries that the words name. The judged class is class 1, her method 1. -/
namespace start1
open Jvm.ClassFile
def u (s : String) : CpInfo := .utf8 (stringToUtf16 s)
/-- a pool by its gaps: so many unusable entries, then the entry; so many at the end -/
def gap : Nat → List CpInfo → List CpInfo
  | 0, r => r
  | n + 1, r => .unusable :: gap n r
def poolList (es : List (Nat × CpInfo)) (last : Nat) : List CpInfo := es.foldr (fun e r => gap e.1 (e.2 :: r)) (gap last [])
def pool (es : List (Nat × CpInfo)) (last : Nat) : Array CpInfo := ⟨poolList es last⟩
def fileOf (pool : Array CpInfo) (this : Nat) (attrs : Array Attribute := #[]) (ms : Array MethodInfo := #[]) (fl : Nat := 33) (sup : Nat := 0) (ifs : Array Nat := #[]) (fds : Array FieldInfo := #[]) : ClassFile where
  minorVersion := 0
  majorVersion := 65
  constantPool := pool
  accessFlags := fl
  thisClass := this
  superClass := sup
  interfaces := ifs
  fields := fds
  methods := ms
  attributes := attrs
def plain (name : String) (sup : Option ClassId) : Class where
  name := name
  kind := .ordinary
  loader := none
  accessFlags := 33
  super := sup
  interfaces := #[]
  cf := none
  fields := #[]
  methods := #[]
  instanceTypes := #[]
  staticTypes := #[]
  resolved := #[]
  callSites := []
  init := .initialized
  statics := none
  mirror := none

def pool0 : Array CpInfo := pool [(5, u "<init>"), (0, u "()V"), (1, .class_ 10), (1, u "java/lang/Object")] 113

def k0m0 : Method := { name := "<init>", desc := "()V", sig := { parameters := [], returnType := none }, accessFlags := 1, code := none }
/-- java/lang/Object -/
def k0 : Class := { plain "java/lang/Object" none with
  accessFlags := 33
  interfaces := #[]
  cf := some (fileOf pool0 8 #[] #[{ accessFlags := 1, nameIndex := 5, descriptorIndex := 6, attributes := #[] }] 33 0 #[] #[])
  fields := #[]
  methods := #[k0m0]
  instanceTypes := #[]
  staticTypes := #[]
  resolved := Array.replicate 124 none
  statics := none }

def pool1 : Array CpInfo := pool [(2, .class_ 4), (1, u "java/lang/Object"), (0, u "<init>"), (0, u "()V"), (0, .string 8), (0, u "0123456789ABCDEF"), (0, .string 10), (0, u "0123456789abcdef"), (0, .methodref 12 13), (0, .class_ 14), (0, .nameAndType 15 16), (0, u "com/example/dotname/dotname/PercentCoding"), (0, u "hexDigitValue"), (0, u "(IZ)I"), (0, .methodref 18 19), (0, .class_ 20), (0, .nameAndType 21 22), (0, u "java/lang/String"), (0, u "charAt"), (0, u "(I)C"), (0, .class_ 24), (0, u "com/example/dotname/dotname/PercentCodingHexDigitValuePinLaw"), (2, u "law"), (0, u "(III)Z")] 3

def k1m0 : Method := { name := "<init>", desc := "()V", sig := { parameters := [], returnType := none }, accessFlags := 1, code := none }
def k1c1 : Code := { maxStack := 2, maxLocals := 12, code := code, exceptionTable := #[], attributes := #[] }
def k1m1 : Method := { name := "law", desc := "(III)Z", sig := { parameters := [.int, .int, .int], returnType := some .boolean }, accessFlags := 9, code := some k1c1 }
/-- com/example/dotname/dotname/PercentCodingHexDigitValuePinLaw -/
def k1 : Class := { plain "com/example/dotname/dotname/PercentCodingHexDigitValuePinLaw" (some 0) with
  accessFlags := 49
  interfaces := #[]
  cf := some (fileOf pool1 23 #[] #[{ accessFlags := 1, nameIndex := 5, descriptorIndex := 6, attributes := #[] }, { accessFlags := 9, nameIndex := 27, descriptorIndex := 28, attributes := #[] }] 49 2 #[] #[])
  fields := #[]
  methods := #[k1m0, k1m1]
  instanceTypes := #[]
  staticTypes := #[]
  resolved := Array.replicate 32 none
  statics := none }

def pool2 : Array CpInfo := pool [(1, .class_ 2), (0, u "java/io/Serializable"), (0, .class_ 4), (0, u "java/lang/Object")] 2

/-- java/io/Serializable -/
def k2 : Class := { plain "java/io/Serializable" (some 0) with
  accessFlags := 1537
  interfaces := #[]
  cf := some (fileOf pool2 1 #[] #[] 1537 3 #[] #[])
  fields := #[]
  methods := #[]
  instanceTypes := #[]
  staticTypes := #[]
  resolved := Array.replicate 7 none
  statics := none }

def pool3 : Array CpInfo := pool [(1, .class_ 2), (0, u "java/lang/Comparable"), (0, .class_ 4), (0, u "java/lang/Object")] 7

/-- java/lang/Comparable -/
def k3 : Class := { plain "java/lang/Comparable" (some 0) with
  accessFlags := 1537
  interfaces := #[]
  cf := some (fileOf pool3 1 #[] #[] 1537 3 #[] #[])
  fields := #[]
  methods := #[]
  instanceTypes := #[]
  staticTypes := #[]
  resolved := Array.replicate 12 none
  statics := none }

def pool4 : Array CpInfo := pool [(2, .class_ 4), (1, u "java/lang/CharSequence"), (42, .class_ 48), (0, u "java/lang/CharSequence$1CodePointIterator"), (10, .class_ 60), (0, u "java/lang/CharSequence$1CharIterator"), (5, .class_ 67), (0, u "java/lang/Object")] 63

/-- java/lang/CharSequence -/
def k4 : Class := { plain "java/lang/CharSequence" (some 0) with
  accessFlags := 1537
  interfaces := #[]
  cf := some (fileOf pool4 2 #[.nestMembers #[47, 59]] #[] 1537 66 #[] #[])
  fields := #[]
  methods := #[]
  instanceTypes := #[]
  staticTypes := #[]
  resolved := Array.replicate 131 none
  statics := none }

def pool5 : Array CpInfo := pool [(1, .class_ 2), (0, u "java/lang/constant/Constable"), (0, .class_ 4), (0, u "java/lang/Object")] 6

/-- java/lang/constant/Constable -/
def k5 : Class := { plain "java/lang/constant/Constable" (some 0) with
  accessFlags := 1537
  interfaces := #[]
  cf := some (fileOf pool5 1 #[] #[] 1537 3 #[] #[])
  fields := #[]
  methods := #[]
  instanceTypes := #[]
  staticTypes := #[]
  resolved := Array.replicate 11 none
  statics := none }

def pool6 : Array CpInfo := pool [(1, .class_ 2), (0, u "java/lang/constant/ConstantDesc"), (0, .class_ 4), (0, u "java/lang/Object")] 32

/-- java/lang/constant/ConstantDesc -/
def k6 : Class := { plain "java/lang/constant/ConstantDesc" (some 0) with
  accessFlags := 1537
  interfaces := #[]
  cf := some (fileOf pool6 1 #[] #[] 1537 3 #[] #[])
  fields := #[]
  methods := #[]
  instanceTypes := #[]
  staticTypes := #[]
  resolved := Array.replicate 37 none
  statics := none }

def pool7 : Array CpInfo := pool [(2, .class_ 4), (1, u "java/lang/Object"), (0, u "<init>"), (0, u "()V"), (2, .fieldref 10 11), (0, .class_ 12), (0, .nameAndType 13 14), (0, u "java/lang/String"), (0, u "value"), (0, u "[B"), (0, .fieldref 10 16), (0, .nameAndType 17 18), (0, u "coder"), (0, u "B"), (2, u "hash"), (0, u "I"), (2, u "hashIsZero"), (0, u "Z"), (11, .fieldref 10 39), (0, .nameAndType 40 26), (0, u "COMPACT_STRINGS"), (66, .class_ 109), (1, u "java/lang/StringLatin1"), (32, u "()Z"), (220, u "([BI)C"), (27, u "(II)V"), (35, u "(I)C"), (64, .methodref 10 493), (0, .nameAndType 494 142), (0, u "isLatin1"), (0, .methodref 107 496), (0, .nameAndType 497 363), (0, u "charAt"), (3, u "checkIndex"), (73, .class_ 576), (0, u "java/lang/CharSequence"), (22, u "CASE_INSENSITIVE_ORDER"), (0, u "Ljava/util/Comparator;"), (452, .fieldref 1054 1055), (0, .class_ 1056), (0, .nameAndType 1057 1058), (0, u "jdk/internal/util/Preconditions"), (0, u "SIOOBE_FORMATTER"), (0, u "Ljava/util/function/BiFunction;"), (0, .methodref 1054 1060), (0, .nameAndType 501 1061), (0, u "(IILjava/util/function/BiFunction;)I"), (39, u "serialPersistentFields"), (0, u "[Ljava/io/ObjectStreamField;"), (0, .class_ 1104), (0, u "java/lang/String$CaseInsensitiveComparator"), (1, .class_ 1107), (0, u "java/io/Serializable"), (0, .class_ 1109), (0, u "java/lang/Comparable"), (0, .class_ 1111), (0, u "java/lang/constant/Constable"), (0, .class_ 1113), (0, u "java/lang/constant/ConstantDesc"), (2, u "serialVersionUID"), (0, u "J"), (3, u "REPL"), (0, u "C"), (2, u "LATIN1"), (1, u "UTF16")] 323

def k7m0 : Method := { name := "<init>", desc := "()V", sig := { parameters := [], returnType := none }, accessFlags := 1, code := none }
def k7c1 : Code := { maxStack := 2, maxLocals := 2, code := jdk_42_method_56_code, exceptionTable := #[], attributes := #[] }
def k7m1 : Method := { name := "charAt", desc := "(I)C", sig := { parameters := [.int], returnType := some .char }, accessFlags := 1, code := some k7c1 }
def k7c2 : Code := { maxStack := 1, maxLocals := 1, code := jdk_42_method_154_code, exceptionTable := #[], attributes := #[] }
def k7m2 : Method := { name := "isLatin1", desc := "()Z", sig := { parameters := [], returnType := some .boolean }, accessFlags := 0, code := some k7c2 }
def k7c3 : Code := { maxStack := 3, maxLocals := 2, code := jdk_42_method_155_code, exceptionTable := #[], attributes := #[] }
def k7m3 : Method := { name := "checkIndex", desc := "(II)V", sig := { parameters := [.int, .int], returnType := none }, accessFlags := 8, code := some k7c3 }
/-- java/lang/String -/
def k7 : Class := { plain "java/lang/String" (some 0) with
  accessFlags := 49
  interfaces := #[2, 3, 4, 5, 6]
  cf := some (fileOf pool7 10 #[.nestMembers #[1103]] #[{ accessFlags := 1, nameIndex := 5, descriptorIndex := 6, attributes := #[] }, { accessFlags := 1, nameIndex := 497, descriptorIndex := 427, attributes := #[] }, { accessFlags := 0, nameIndex := 494, descriptorIndex := 142, attributes := #[] }, { accessFlags := 8, nameIndex := 501, descriptorIndex := 391, attributes := #[] }] 49 2 #[1106, 1108, 575, 1110, 1112] #[{ accessFlags := 18, nameIndex := 13, descriptorIndex := 14, attributes := #[] }, { accessFlags := 18, nameIndex := 17, descriptorIndex := 18, attributes := #[] }, { accessFlags := 2, nameIndex := 21, descriptorIndex := 22, attributes := #[] }, { accessFlags := 2, nameIndex := 25, descriptorIndex := 26, attributes := #[] }, { accessFlags := 26, nameIndex := 1116, descriptorIndex := 1117, attributes := #[] }, { accessFlags := 24, nameIndex := 40, descriptorIndex := 26, attributes := #[] }, { accessFlags := 26, nameIndex := 1101, descriptorIndex := 1102, attributes := #[] }, { accessFlags := 26, nameIndex := 1121, descriptorIndex := 1122, attributes := #[] }, { accessFlags := 25, nameIndex := 599, descriptorIndex := 600, attributes := #[] }, { accessFlags := 24, nameIndex := 1125, descriptorIndex := 18, attributes := #[] }, { accessFlags := 24, nameIndex := 1127, descriptorIndex := 18, attributes := #[] }])
  fields := #[{ name := "value", type := (.array .byte), accessFlags := 18, slot := 0, constantValue := 0 }, { name := "coder", type := .byte, accessFlags := 18, slot := 1, constantValue := 0 }, { name := "hash", type := .int, accessFlags := 2, slot := 2, constantValue := 0 }, { name := "hashIsZero", type := .boolean, accessFlags := 2, slot := 3, constantValue := 0 }, { name := "serialVersionUID", type := .long, accessFlags := 26, slot := 0, constantValue := 0 }, { name := "COMPACT_STRINGS", type := .boolean, accessFlags := 24, slot := 1, constantValue := 0 }, { name := "serialPersistentFields", type := (.array (.object "java/io/ObjectStreamField")), accessFlags := 26, slot := 2, constantValue := 0 }, { name := "REPL", type := .char, accessFlags := 26, slot := 3, constantValue := 0 }, { name := "CASE_INSENSITIVE_ORDER", type := (.object "java/util/Comparator"), accessFlags := 25, slot := 4, constantValue := 0 }, { name := "LATIN1", type := .byte, accessFlags := 24, slot := 5, constantValue := 0 }, { name := "UTF16", type := .byte, accessFlags := 24, slot := 6, constantValue := 0 }]
  methods := #[k7m0, k7m1, k7m2, k7m3]
  instanceTypes := #[(.array .byte), .byte, .int, .boolean]
  staticTypes := #[.long, .boolean, (.array (.object "java/io/ObjectStreamField")), .char, (.object "java/util/Comparator"), .byte, .byte]
  resolved := Array.replicate 1451 none
  statics := some 0 }

def pool8 : Array CpInfo := pool [(2, .class_ 4), (1, u "java/lang/Object"), (3, .class_ 10), (1, u "com/example/dotname/dotname/PercentCoding"), (0, u "kept"), (0, u "[Z"), (12, u "plusForSpace"), (0, u "Z"), (2, u "strict"), (34, u "HEX_DIGITS"), (0, u "[C"), (2, u "hexDigitValue"), (0, u "(IZ)I"), (0, .class_ 71), (0, u "com/example/dotname/dotname/PercentCoding$Reader"), (9, u "ESCAPE"), (0, u "C"), (2, u "PLUS")] 17

def k8c0 : Code := { maxStack := 2, maxLocals := 3, code := prog_34_method_7_code, exceptionTable := #[], attributes := #[] }
def k8m0 : Method := { name := "hexDigitValue", desc := "(IZ)I", sig := { parameters := [.int, .boolean], returnType := some .int }, accessFlags := 8, code := some k8c0 }
/-- com/example/dotname/dotname/PercentCoding -/
def k8 : Class := { plain "com/example/dotname/dotname/PercentCoding" (some 0) with
  accessFlags := 48
  interfaces := #[]
  cf := some (fileOf pool8 8 #[.nestMembers #[70]] #[{ accessFlags := 8, nameIndex := 68, descriptorIndex := 69, attributes := #[] }] 48 2 #[] #[{ accessFlags := 24, nameIndex := 81, descriptorIndex := 82, attributes := #[] }, { accessFlags := 26, nameIndex := 85, descriptorIndex := 82, attributes := #[] }, { accessFlags := 26, nameIndex := 64, descriptorIndex := 65, attributes := #[] }, { accessFlags := 18, nameIndex := 11, descriptorIndex := 12, attributes := #[] }, { accessFlags := 18, nameIndex := 25, descriptorIndex := 26, attributes := #[] }, { accessFlags := 18, nameIndex := 29, descriptorIndex := 26, attributes := #[] }])
  fields := #[{ name := "ESCAPE", type := .char, accessFlags := 24, slot := 0, constantValue := 0 }, { name := "PLUS", type := .char, accessFlags := 26, slot := 1, constantValue := 0 }, { name := "HEX_DIGITS", type := (.array .char), accessFlags := 26, slot := 2, constantValue := 0 }, { name := "kept", type := (.array .boolean), accessFlags := 18, slot := 0, constantValue := 0 }, { name := "plusForSpace", type := .boolean, accessFlags := 18, slot := 1, constantValue := 0 }, { name := "strict", type := .boolean, accessFlags := 18, slot := 2, constantValue := 0 }]
  methods := #[k8m0]
  instanceTypes := #[(.array .boolean), .boolean, .boolean]
  staticTypes := #[.char, .char, (.array .char)]
  resolved := Array.replicate 103 none
  statics := none }

def pool9 : Array CpInfo := pool [(1, .class_ 2), (0, u "java/lang/String"), (1, .class_ 6), (1, u "java/lang/Object"), (0, u "<init>"), (0, u "()V"), (0, .methodref 1 10), (0, .nameAndType 11 12), (0, u "checkIndex"), (0, u "(II)V"), (1, .class_ 16), (1, u "java/lang/StringLatin1"), (36, u "([BI)C"), (67, u "$assertionsDisabled"), (0, u "Z"), (98, .class_ 223), (1, u "java/lang/StringLatin1$LinesSpliterator"), (28, u "charAt"), (137, .class_ 391), (0, u "java/lang/StringLatin1$CharsSpliterator")] 3

def k9m0 : Method := { name := "<init>", desc := "()V", sig := { parameters := [], returnType := none }, accessFlags := 0, code := none }
def k9c1 : Code := { maxStack := 2, maxLocals := 2, code := jdk_43_method_2_code, exceptionTable := #[], attributes := #[] }
def k9m1 : Method := { name := "charAt", desc := "([BI)C", sig := { parameters := [(.array .byte), .int], returnType := some .char }, accessFlags := 9, code := some k9c1 }
/-- java/lang/StringLatin1 -/
def k9 : Class := { plain "java/lang/StringLatin1" (some 0) with
  accessFlags := 48
  interfaces := #[]
  cf := some (fileOf pool9 14 #[.nestMembers #[390, 221]] #[{ accessFlags := 0, nameIndex := 7, descriptorIndex := 8, attributes := #[] }, { accessFlags := 9, nameIndex := 252, descriptorIndex := 53, attributes := #[] }] 48 4 #[] #[{ accessFlags := 4120, nameIndex := 121, descriptorIndex := 122, attributes := #[] }])
  fields := #[{ name := "$assertionsDisabled", type := .boolean, accessFlags := 4120, slot := 0, constantValue := 0 }]
  methods := #[k9m0, k9m1]
  instanceTypes := #[]
  staticTypes := #[.boolean]
  resolved := Array.replicate 395 none
  statics := none }

def pool10 : Array CpInfo := pool [(2, .class_ 4), (1, u "java/lang/Object"), (0, u "<init>"), (0, u "()V"), (17, .class_ 26), (1, u "jdk/internal/util/Preconditions"), (6, u "checkIndex"), (21, .class_ 56), (0, u "jdk/internal/util/Preconditions$4"), (57, .class_ 115), (0, u "jdk/internal/util/Preconditions$1"), (7, u "SIOOBE_FORMATTER"), (0, u "Ljava/util/function/BiFunction;"), (0, .class_ 126), (0, u "jdk/internal/util/Preconditions$2"), (3, u "AIOOBE_FORMATTER"), (0, .class_ 132), (0, u "jdk/internal/util/Preconditions$3"), (3, u "IOOBE_FORMATTER"), (41, u "(IILjava/util/function/BiFunction;)I")] 15

def k10m0 : Method := { name := "<init>", desc := "()V", sig := { parameters := [], returnType := none }, accessFlags := 1, code := none }
def k10c1 : Code := { maxStack := 3, maxLocals := 3, code := jdk_41_method_11_code, exceptionTable := #[], attributes := #[] }
def k10m1 : Method := { name := "checkIndex", desc := "(IILjava/util/function/BiFunction;)I", sig := { parameters := [.int, .int, (.object "java/util/function/BiFunction")], returnType := some .int }, accessFlags := 9, code := some k10c1 }
/-- jdk/internal/util/Preconditions -/
def k10 : Class := { plain "jdk/internal/util/Preconditions" (some 0) with
  accessFlags := 33
  interfaces := #[]
  cf := some (fileOf pool10 24 #[.nestMembers #[55, 131, 125, 114]] #[{ accessFlags := 1, nameIndex := 5, descriptorIndex := 6, attributes := #[] }, { accessFlags := 9, nameIndex := 33, descriptorIndex := 178, attributes := #[] }] 33 2 #[] #[{ accessFlags := 25, nameIndex := 123, descriptorIndex := 124, attributes := #[] }, { accessFlags := 25, nameIndex := 130, descriptorIndex := 124, attributes := #[] }, { accessFlags := 25, nameIndex := 136, descriptorIndex := 124, attributes := #[] }])
  fields := #[{ name := "SIOOBE_FORMATTER", type := (.object "java/util/function/BiFunction"), accessFlags := 25, slot := 0, constantValue := 0 }, { name := "AIOOBE_FORMATTER", type := (.object "java/util/function/BiFunction"), accessFlags := 25, slot := 1, constantValue := 0 }, { name := "IOOBE_FORMATTER", type := (.object "java/util/function/BiFunction"), accessFlags := 25, slot := 2, constantValue := 0 }]
  methods := #[k10m0, k10m1]
  instanceTypes := #[]
  staticTypes := #[(.object "java/util/function/BiFunction"), (.object "java/util/function/BiFunction"), (.object "java/util/function/BiFunction")]
  resolved := Array.replicate 194 none
  statics := some 1 }

def pool11 : Array CpInfo := pool [(9, u "<init>"), (6, .class_ 18), (1, u "java/lang/Object"), (0, u "()V"), (1, .class_ 23), (1, u "jdk/internal/util/ArraysSupport"), (0, u "LOG2_ARRAY_LONG_INDEX_SCALE"), (0, u "I"), (2, u "U"), (0, u "Ljdk/internal/misc/Unsafe;"), (8, u "BIG_ENDIAN"), (0, u "Z"), (8, u "LOG2_BYTE_BIT_SIZE"), (4, u "LOG2_ARRAY_INT_INDEX_SCALE"), (54, u "JLA"), (0, u "Ljdk/internal/access/JavaLangAccess;"), (11, u "LOG2_ARRAY_BOOLEAN_INDEX_SCALE"), (9, u "LOG2_ARRAY_BYTE_INDEX_SCALE"), (5, u "LOG2_ARRAY_CHAR_INDEX_SCALE"), (5, u "LOG2_ARRAY_SHORT_INDEX_SCALE"), (18, u "LOG2_ARRAY_FLOAT_INDEX_SCALE"), (24, u "LOG2_ARRAY_DOUBLE_INDEX_SCALE"), (89, u "T_BOOLEAN"), (2, u "T_CHAR"), (1, u "T_FLOAT"), (1, u "T_DOUBLE"), (1, u "T_BYTE"), (1, u "T_SHORT"), (1, u "T_INT"), (1, u "T_LONG"), (1, u "SOFT_MAX_ARRAY_LENGTH")] 83

def k11m0 : Method := { name := "<init>", desc := "()V", sig := { parameters := [], returnType := none }, accessFlags := 2, code := none }
/-- jdk/internal/util/ArraysSupport -/
def k11 : Class := { plain "jdk/internal/util/ArraysSupport" (some 0) with
  accessFlags := 33
  interfaces := #[]
  cf := some (fileOf pool11 21 #[] #[{ accessFlags := 2, nameIndex := 9, descriptorIndex := 19, attributes := #[] }] 33 16 #[] #[{ accessFlags := 24, nameIndex := 28, descriptorIndex := 29, attributes := #[] }, { accessFlags := 26, nameIndex := 38, descriptorIndex := 39, attributes := #[] }, { accessFlags := 25, nameIndex := 121, descriptorIndex := 25, attributes := #[] }, { accessFlags := 25, nameIndex := 131, descriptorIndex := 25, attributes := #[] }, { accessFlags := 25, nameIndex := 137, descriptorIndex := 25, attributes := #[] }, { accessFlags := 25, nameIndex := 143, descriptorIndex := 25, attributes := #[] }, { accessFlags := 25, nameIndex := 53, descriptorIndex := 25, attributes := #[] }, { accessFlags := 25, nameIndex := 24, descriptorIndex := 25, attributes := #[] }, { accessFlags := 25, nameIndex := 162, descriptorIndex := 25, attributes := #[] }, { accessFlags := 25, nameIndex := 187, descriptorIndex := 25, attributes := #[] }, { accessFlags := 26, nameIndex := 48, descriptorIndex := 25, attributes := #[] }, { accessFlags := 25, nameIndex := 277, descriptorIndex := 25, attributes := #[] }, { accessFlags := 25, nameIndex := 280, descriptorIndex := 25, attributes := #[] }, { accessFlags := 25, nameIndex := 282, descriptorIndex := 25, attributes := #[] }, { accessFlags := 25, nameIndex := 284, descriptorIndex := 25, attributes := #[] }, { accessFlags := 25, nameIndex := 286, descriptorIndex := 25, attributes := #[] }, { accessFlags := 25, nameIndex := 288, descriptorIndex := 25, attributes := #[] }, { accessFlags := 25, nameIndex := 290, descriptorIndex := 25, attributes := #[] }, { accessFlags := 25, nameIndex := 292, descriptorIndex := 25, attributes := #[] }, { accessFlags := 26, nameIndex := 108, descriptorIndex := 109, attributes := #[] }, { accessFlags := 25, nameIndex := 294, descriptorIndex := 25, attributes := #[] }])
  fields := #[{ name := "U", type := (.object "jdk/internal/misc/Unsafe"), accessFlags := 24, slot := 0, constantValue := 0 }, { name := "BIG_ENDIAN", type := .boolean, accessFlags := 26, slot := 1, constantValue := 0 }, { name := "LOG2_ARRAY_BOOLEAN_INDEX_SCALE", type := .int, accessFlags := 25, slot := 2, constantValue := 0 }, { name := "LOG2_ARRAY_BYTE_INDEX_SCALE", type := .int, accessFlags := 25, slot := 3, constantValue := 0 }, { name := "LOG2_ARRAY_CHAR_INDEX_SCALE", type := .int, accessFlags := 25, slot := 4, constantValue := 0 }, { name := "LOG2_ARRAY_SHORT_INDEX_SCALE", type := .int, accessFlags := 25, slot := 5, constantValue := 0 }, { name := "LOG2_ARRAY_INT_INDEX_SCALE", type := .int, accessFlags := 25, slot := 6, constantValue := 0 }, { name := "LOG2_ARRAY_LONG_INDEX_SCALE", type := .int, accessFlags := 25, slot := 7, constantValue := 0 }, { name := "LOG2_ARRAY_FLOAT_INDEX_SCALE", type := .int, accessFlags := 25, slot := 8, constantValue := 0 }, { name := "LOG2_ARRAY_DOUBLE_INDEX_SCALE", type := .int, accessFlags := 25, slot := 9, constantValue := 0 }, { name := "LOG2_BYTE_BIT_SIZE", type := .int, accessFlags := 26, slot := 10, constantValue := 0 }, { name := "T_BOOLEAN", type := .int, accessFlags := 25, slot := 11, constantValue := 0 }, { name := "T_CHAR", type := .int, accessFlags := 25, slot := 12, constantValue := 0 }, { name := "T_FLOAT", type := .int, accessFlags := 25, slot := 13, constantValue := 0 }, { name := "T_DOUBLE", type := .int, accessFlags := 25, slot := 14, constantValue := 0 }, { name := "T_BYTE", type := .int, accessFlags := 25, slot := 15, constantValue := 0 }, { name := "T_SHORT", type := .int, accessFlags := 25, slot := 16, constantValue := 0 }, { name := "T_INT", type := .int, accessFlags := 25, slot := 17, constantValue := 0 }, { name := "T_LONG", type := .int, accessFlags := 25, slot := 18, constantValue := 0 }, { name := "JLA", type := (.object "jdk/internal/access/JavaLangAccess"), accessFlags := 26, slot := 19, constantValue := 0 }, { name := "SOFT_MAX_ARRAY_LENGTH", type := .int, accessFlags := 25, slot := 20, constantValue := 0 }]
  methods := #[k11m0]
  instanceTypes := #[]
  staticTypes := #[(.object "jdk/internal/misc/Unsafe"), .boolean, .int, .int, .int, .int, .int, .int, .int, .int, .int, .int, .int, .int, .int, .int, .int, .int, .int, (.object "jdk/internal/access/JavaLangAccess"), .int]
  resolved := Array.replicate 378 none
  statics := none }

def pool12 : Array CpInfo := pool [(1, u "java/lang/Cloneable"), (0, .class_ 1), (0, u "java/lang/Object"), (0, .class_ 3)] 3

/-- java/lang/Cloneable -/
def k12 : Class := { plain "java/lang/Cloneable" (some 0) with
  accessFlags := 1537
  interfaces := #[]
  cf := some (fileOf pool12 2 #[] #[] 1537 4 #[] #[])
  fields := #[]
  methods := #[]
  instanceTypes := #[]
  staticTypes := #[]
  resolved := Array.replicate 8 none
  statics := none }

/-- the primitive byte -/
def k13 : Class := { plain "byte" none with kind := .primitive 'B', accessFlags := 0x411 }
/-- [B -/
def k14 : Class := { plain "[B" (some 0) with kind := .array 13 .byte, interfaces := #[12, 2], accessFlags := 1041 }

/-- the primitive int -/
def k15 : Class := { plain "int" none with kind := .primitive 'I', accessFlags := 0x411 }
/-- [I -/
def k16 : Class := { plain "[I" (some 0) with kind := .array 15 .int, interfaces := #[12, 2], accessFlags := 1041 }

def heap : Heap := #[{ cls := 7, slots := #[.long 0, .int 1, .null, .int 0, .null, .int 0, .int 0], vm := .statics 7 },
  { cls := 10, slots := #[.null, .null, .null], vm := .statics 10 }]
def classes : Array Class := #[k0, k1, k2, k3, k4, k5, k6, k7, k8, k9, k10, k11, k12, k13, k14, k15, k16]
def interned : List (Array UInt16 × Addr) := []
def slotsUsed : Nat := 10
def theMethod : MethodId := ⟨1, 1⟩
def args0 : Array Value := #[.int 110, .int 5, .int 1]
def aboutOver (below : List Frame) : State where
  vm := { classes := classes, interned := interned.toArray }
  heap := heap
  slotsUsed := slotsUsed
  threads := #[{ frames := .invoking theMethod args0 :: below }]
def below0 : List Frame := [.native { method := ⟨0, 0⟩, args := #[] }]
def about1 : State := aboutOver below0
def p0 : Program := .bare "" "" ""
def e0 : Env := launch0.env 0 0 0
theorem w_frames : about1.frames = Frame.invoking theMethod args0 :: below0 := rfl
set_option maxRecDepth 65536 in
theorem w_args : argsFit about1.vm theMethod args0 = true := by decide +kernel
set_option maxRecDepth 65536 in
theorem w_heap : heapFits about1 = true := by decide +kernel
set_option maxRecDepth 65536 in
theorem w_runnable : about1.curStatus? = some .runnable := by decide +kernel
set_option maxRecDepth 65536 in
theorem w_alone : about1.alone = true := by decide +kernel
set_option maxRecDepth 65536 in
theorem w_named : about1.methodNamed? x = some theMethod := by decide +kernel
set_option maxRecDepth 65536 in
theorem w_hears : about1.hears theMethod below0 = true := by decide +kernel
set_option maxRecDepth 65536 in
theorem w_ripe : about1.ripe theMethod args0 below0 = true := by decide +kernel
theorem w_running : about1.status = .running := rfl
set_option maxRecDepth 65536 in
theorem w_room : about1.hasRoom e0.platform room_1 = true :=
  launch0.hasRoom_least _ room_1 (by decide +kernel) (by decide +kernel) (by decide +kernel) (by decide +kernel) (by decide +kernel) (by decide +kernel)
theorem allAtoms_all (ts : List Jvm.Cond) (a : Array Jvm.Value) (st : Jvm.State) : (allAtoms ts).before a st = ts.all (fun c => c.before a st) := by
  induction ts with
  | nil => rfl
  | cons c t ih =>
    show (Jvm.Cond.and c (allAtoms t)).before a st = _
    rw [Jvm.Cond.before_and, ih, List.all_cons]
def words1 : List Jvm.Cond := Jvm.Cond.code x code maxLocals ret :: tables_1
/-- a 'code' word, met by the world's own term for the bytes: nothing is compared byte by byte -/
theorem code_word {y : MethodName} {bytes : ByteArray} {mx : Nat} {rt : Option FieldType} {a : Array Value} {s : State} {m : MethodId} {meth : Method} {c : Code} (h1 : s.methodNamed? y = some m) (h2 : s.vm.method? m = some meth) (h3 : meth.code = some c) (h4 : c.code = bytes)
    (h5 : (c.maxLocals == mx && c.exceptionTable.isEmpty && decide (c.maxStack ≤ mostOperands) && decide (meth.sig.returnType = rt) && !meth.locks && decide (parseMethodDescriptor y.desc = some meth.sig)) = true) : (Jvm.Cond.code y bytes mx rt).before a s = true := by
  simp only [Bool.and_eq_true, beq_iff_eq, Bool.not_eq_true', decide_eq_true_eq] at h5
  obtain ⟨⟨⟨⟨⟨g1, g2⟩, g3⟩, g4⟩, g5⟩, g6⟩ := h5
  simp [Cond.before, Cond.holds, Cond.value, h1, h2, h3, h4, g1, g2, g3, g4, g5, g6]
def isCode : Jvm.Cond → Bool
  | .code _ _ _ _ => true
  | _ => false
theorem all_split {L : List Jvm.Cond} {P : Jvm.Cond → Bool} (h1 : L.all (fun c => isCode c || P c) = true) (h2 : ∀ c ∈ L.filter isCode, P c = true) : L.all P = true := by
  refine List.all_eq_true.mpr fun c hc => ?_
  have h := List.all_eq_true.mp h1 c hc
  rcases Bool.eq_false_or_eq_true (isCode c) with hi | hi
  · exact h2 c (List.mem_filter.mpr ⟨hc, hi⟩)
  · simpa [hi] using h
set_option maxRecDepth 65536 in
theorem w_c0 : (Jvm.Cond.code x code maxLocals ret).before args0 about1 = true := code_word (m := ⟨1, 1⟩) (meth := k1m1) (c := k1c1) (by decide +kernel) rfl rfl rfl (by decide +kernel)
set_option maxRecDepth 65536 in
theorem w_c1 : (Jvm.Cond.code ({ cls := "com/example/dotname/dotname/PercentCoding", name := "hexDigitValue", desc := "(IZ)I" } : Jvm.MethodName) prog_34_method_7_code (3 : Nat) (Option.some Jvm.ClassFile.FieldType.int)).before args0 about1 = true := code_word (m := ⟨8, 0⟩) (meth := k8m0) (c := k8c0) (by decide +kernel) rfl rfl rfl (by decide +kernel)
set_option maxRecDepth 65536 in
theorem w_c2 : (Jvm.Cond.code ({ cls := "java/lang/String", name := "charAt", desc := "(I)C" } : Jvm.MethodName) jdk_42_method_56_code (2 : Nat) (Option.some Jvm.ClassFile.FieldType.char)).before args0 about1 = true := code_word (m := ⟨7, 1⟩) (meth := k7m1) (c := k7c1) (by decide +kernel) rfl rfl rfl (by decide +kernel)
set_option maxRecDepth 65536 in
theorem w_c3 : (Jvm.Cond.code ({ cls := "java/lang/String", name := "isLatin1", desc := "()Z" } : Jvm.MethodName) jdk_42_method_154_code (1 : Nat) (Option.some Jvm.ClassFile.FieldType.boolean)).before args0 about1 = true := code_word (m := ⟨7, 2⟩) (meth := k7m2) (c := k7c2) (by decide +kernel) rfl rfl rfl (by decide +kernel)
set_option maxRecDepth 65536 in
theorem w_c4 : (Jvm.Cond.code ({ cls := "java/lang/StringLatin1", name := "charAt", desc := "([BI)C" } : Jvm.MethodName) jdk_43_method_2_code (2 : Nat) (Option.some Jvm.ClassFile.FieldType.char)).before args0 about1 = true := code_word (m := ⟨9, 1⟩) (meth := k9m1) (c := k9c1) (by decide +kernel) rfl rfl rfl (by decide +kernel)
set_option maxRecDepth 65536 in
theorem w_c5 : (Jvm.Cond.code ({ cls := "java/lang/String", name := "checkIndex", desc := "(II)V" } : Jvm.MethodName) jdk_42_method_155_code (2 : Nat) (Option.none : Option Jvm.ClassFile.FieldType)).before args0 about1 = true := code_word (m := ⟨7, 3⟩) (meth := k7m3) (c := k7c3) (by decide +kernel) rfl rfl rfl (by decide +kernel)
set_option maxRecDepth 65536 in
theorem w_c6 : (Jvm.Cond.code ({ cls := "jdk/internal/util/Preconditions", name := "checkIndex", desc := "(IILjava/util/function/BiFunction;)I" } : Jvm.MethodName) jdk_41_method_11_code (3 : Nat) (Option.some Jvm.ClassFile.FieldType.int)).before args0 about1 = true := code_word (m := ⟨10, 1⟩) (meth := k10m1) (c := k10c1) (by decide +kernel) rfl rfl rfl (by decide +kernel)
def codes1 : List Jvm.Cond := [Jvm.Cond.code x code maxLocals ret, Jvm.Cond.code ({ cls := "com/example/dotname/dotname/PercentCoding", name := "hexDigitValue", desc := "(IZ)I" } : Jvm.MethodName) prog_34_method_7_code (3 : Nat) (Option.some Jvm.ClassFile.FieldType.int), Jvm.Cond.code ({ cls := "java/lang/String", name := "charAt", desc := "(I)C" } : Jvm.MethodName) jdk_42_method_56_code (2 : Nat) (Option.some Jvm.ClassFile.FieldType.char), Jvm.Cond.code ({ cls := "java/lang/String", name := "isLatin1", desc := "()Z" } : Jvm.MethodName) jdk_42_method_154_code (1 : Nat) (Option.some Jvm.ClassFile.FieldType.boolean), Jvm.Cond.code ({ cls := "java/lang/StringLatin1", name := "charAt", desc := "([BI)C" } : Jvm.MethodName) jdk_43_method_2_code (2 : Nat) (Option.some Jvm.ClassFile.FieldType.char), Jvm.Cond.code ({ cls := "java/lang/String", name := "checkIndex", desc := "(II)V" } : Jvm.MethodName) jdk_42_method_155_code (2 : Nat) (Option.none : Option Jvm.ClassFile.FieldType), Jvm.Cond.code ({ cls := "jdk/internal/util/Preconditions", name := "checkIndex", desc := "(IILjava/util/function/BiFunction;)I" } : Jvm.MethodName) jdk_41_method_11_code (3 : Nat) (Option.some Jvm.ClassFile.FieldType.int)]
set_option maxRecDepth 65536 in
theorem codes_eq : words1.filter isCode = codes1 := rfl
theorem w_codes : ∀ c ∈ words1.filter isCode, c.before args0 about1 = true := by
  rw [codes_eq]
  intro c hc
  simp only [codes1, List.mem_cons, List.not_mem_nil, or_false] at hc
  rcases hc with rfl | rfl | rfl | rfl | rfl | rfl | rfl
  · exact w_c0
  · exact w_c1
  · exact w_c2
  · exact w_c3
  · exact w_c4
  · exact w_c5
  · exact w_c6
set_option maxRecDepth 65536 in
theorem w_t1 : (words1.take 24).all (fun c => isCode c || c.before args0 about1) = true := by decide +kernel
set_option maxRecDepth 65536 in
theorem w_t2 : (words1.drop 24).all (fun c => isCode c || c.before args0 about1) = true := by decide +kernel
theorem w_tables : (allAtoms (Jvm.Cond.code x code maxLocals ret :: tables_1)).before args0 about1 = true := by
  rw [allAtoms_all]
  show words1.all (fun c => c.before args0 about1) = true
  refine all_split ?_ w_codes
  rw [← List.take_append_drop 24 words1, List.all_append, w_t1, w_t2]
  rfl
set_option maxRecDepth 65536 in
theorem w_rest : rest_1_c.before args0 about1 = true := by decide +kernel
set_option maxRecDepth 65536 in
theorem w_case : (Jvm.Cond.and given_1 narrow_1).before args0 about1 = true := by decide +kernel
set_option maxRecDepth 65536 in
theorem w_consts : constsHeld consts_1 about1 := Jvm.Lit.constsHeldB_iff.mp (by decide +kernel)
theorem w_applies : (headSpec (Jvm.Cond.code x code maxLocals ret :: tables_1) room_1).applies x e0.platform about1 = true :=
  (Spec.applies_iff w_frames).mpr ⟨w_running, w_runnable, w_alone, w_named, w_hears, w_ripe, w_room, w_tables⟩
theorem atStart : AtStart classFile x code maxLocals ret World_1 tables_1 room_1 Calls_1 rest_1 Pre_1 launch0 p0 e0 about1 theMethod args0 below0 :=
  ⟨lists_1, trivial, launch0.admits_env _ _ _, launch0.least_env, fairChoices_fair.cas, fairChoices_fair.clock, w_frames, w_args, w_heap, w_applies, ⟨w_consts, trivial⟩, w_rest, w_case⟩
end start1
theorem witness_1 : WitnessClaimed_1 := ⟨start1.p0, start1.e0, start1.about1, start1.theMethod, start1.args0, start1.below0, start1.atStart⟩
end Jvm.Pilot.@@N@@
