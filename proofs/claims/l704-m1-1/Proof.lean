import JvmDerived
import JvmDerived.Pilot.@@N@@Statement
import JvmDerived.Pilot.@@N@@Code
set_option linter.unusedVariables false
set_option linter.unusedSimpArgs false
namespace Jvm.RoadKit
open Sem ClassFile Op Lib Jvm.Stand Jvm.Free Jvm.LawKit
section New
variable {p : Program} {l : Launch} {e : Env} {R : Room} {s : State} {m : MethodId} {args : Array Value} {below : List Frame} {meth : Method} {c : Code} {T : State} {locs : List Loc} {cells slots : Nat}
theorem retI (X : Stand p l e R s m args below meth c T locs cells slots) (hx : p.tables.exec = Jvm.exec) {pc : Nat} {Ls : Array Slot} {z : Int32} {rest : List Value} (hret : meth.sig.returnType = some .int) (hd : decode c.code pc = .ok (.ireturn, 1)) {fs : List Frame}
    (hl : ∀ (f : JFrame) (acts : List Action), f.method = m → f.locked = none → f.entered = [] → (doReturn e (T.setTop f) acts (some (.int z))).1 = T.setFrames fs) : Steps p.tables e below (T.setTop (mkF m pc Ls (.int z :: rest))) (T.setFrames fs) := by
  have hm' : T.vm.method? m = some meth := X.method'
  have hn : narrow .int (.int z) = .int z := rfl
  show Steps p.tables e below (T.setTop { method := m, pc := pc, locals := Ls, stack := _ :: rest, locked := none }) _
  jvm_step X.here [X.here.top, hx, hd, hm', hret, hn]
  first | (intro acts; rw [hl _ acts rfl rfl rfl]) | rw [hl _ _ rfl rfl rfl]
  exact Steps.refl _
/-- from the state A the body comes to its end, and Q holds there -/
def own_G (tb : Tables) (e : Env) (below : List Frame) (Q : Outcome → State → Prop) (A : State) : Prop := ∃ s₂ o, Steps tb e below A s₂ ∧ s₂.status = .running ∧ Ended s₂ below o ∧ Q o s₂
theorem own_fs {tb : Tables} {Q : Outcome → State → Prop} {A B : State} (h : Steps tb e below A B) (g : own_G tb e below Q B) : own_G tb e below Q A := by
  obtain ⟨s₂, o, h1, r⟩ := g
  exact ⟨s₂, o, h.trans h1, r⟩
/-- what a body's contract says of its end -/
def own_P (s : State) (QQ : Option Value → Heap → List Loc → Prop) (rc rs : Nat) (o : Outcome) (U : State) : Prop := ∃ v L, o = .returned v ∧ QQ v U.heap L ∧ FrameEnd s o U L rc rs
variable {QQ : Option Value → Heap → List Loc → Prop} {rc rs : Nat} {h : Heap}
theorem own_start {tb : Tables} {g g' : JFrame} (q : g = g') (k : own_G tb e below (own_P s QQ rc rs) (T.setTop g')) : ∃ s₂ o, Steps tb e below (T.setTop g) s₂ ∧ s₂.status = .running ∧ Ended s₂ below o ∧ ∃ v L, o = .returned v ∧ QQ v s₂.heap L ∧ FrameEnd s o s₂ L rc rs := q ▸ k
theorem own_retI (X : Stand p l e R s m args below meth c T locs cells slots) (hx : p.tables.exec = Jvm.exec) {pc : Nat} {Ls : Array Slot} {z : Int32} {rest : List Value} (hret : meth.sig.returnType = some .int) (hlk : meth.locks = false) (hd : decode c.code pc = .ok (.ireturn, 1)) (hc : cells ≤ rc) (hs : slots ≤ rs) (eT : T.heap = h) (hQ : QQ (some (.int z)) h locs) :
    own_G p.tables e below (own_P s QQ rc rs) (T.setTop (mkF m pc Ls (.int z :: rest))) := by
  obtain ⟨fs, hr, hrun, hended, hW, hsame⟩ := X.leave (v := some (.int z)) (fun h => by rw [hret] at h; cases h) hlk
  exact ⟨_, _, retI X hx hret hd hr, hrun, hended, _, _, rfl, (by show QQ _ T.heap _; rw [eT]; exact hQ), ⟨_, rfl⟩, hW, hsame.mono hc hs⟩
theorem own_retN (X : Stand p l e R s m args below meth c T locs cells slots) (hx : p.tables.exec = Jvm.exec) {pc : Nat} {Ls : Array Slot} {z : Int32} {t : FieldType} {rest : List Value} (hret : meth.sig.returnType = some t) (hlk : meth.locks = false) (ht : t = .boolean ∨ t = .byte ∨ t = .char ∨ t = .short) (hd : decode c.code pc = .ok (.ireturn, 1)) (hc : cells ≤ rc) (hs : slots ≤ rs) (eT : T.heap = h) (hQ : QQ (some (.int (nar t z))) h locs) :
    own_G p.tables e below (own_P s QQ rc rs) (T.setTop (mkF m pc Ls (.int z :: rest))) := by
  obtain ⟨fs, hr, hrun, hended, hW, hsame⟩ := X.leave (v := some (.int (nar t z))) (fun h => by rw [hret] at h; cases h) hlk
  exact ⟨_, _, retN X hx hret ht hd hr, hrun, hended, _, _, rfl, (by show QQ _ T.heap _; rw [eT]; exact hQ), ⟨_, rfl⟩, hW, hsame.mono hc hs⟩
theorem own_retJ (X : Stand p l e R s m args below meth c T locs cells slots) (hx : p.tables.exec = Jvm.exec) {pc : Nat} {Ls : Array Slot} {z : Int64} {rest : List Value} (hret : meth.sig.returnType = some .long) (hlk : meth.locks = false) (hd : decode c.code pc = .ok (.lreturn, 1)) (hc : cells ≤ rc) (hs : slots ≤ rs) (eT : T.heap = h) (hQ : QQ (some (.long z)) h locs) :
    own_G p.tables e below (own_P s QQ rc rs) (T.setTop (mkF m pc Ls (.long z :: rest))) := by
  obtain ⟨fs, hr, hrun, hended, hW, hsame⟩ := X.leave (v := some (.long z)) (fun h => by rw [hret] at h; cases h) hlk
  exact ⟨_, _, retOut X hx hret rfl (Or.inr (Or.inl ⟨rfl, rfl, z, rfl⟩)) hd hr, hrun, hended, _, _, rfl, (by show QQ _ T.heap _; rw [eT]; exact hQ), ⟨_, rfl⟩, hW, hsame.mono hc hs⟩
theorem own_narR {t : FieldType} {w : Value} (hw : w.isRef = true) : narrow t w = w := by rcases ref_cases hw with rfl | ⟨a, rfl⟩ <;> cases t <;> rfl
theorem own_fitR {t : FieldType} {w : Value} (hw : w.isRef = true) (ht : t.isReference = true := by rfl) : fits t w = true := by rcases ref_cases hw with rfl | ⟨a, rfl⟩ <;> cases t <;> first | rfl | cases ht
theorem own_retA (X : Stand p l e R s m args below meth c T locs cells slots) (hx : p.tables.exec = Jvm.exec) {pc : Nat} {Ls : Array Slot} {w : Value} {t : FieldType} {rest : List Value} (hret : meth.sig.returnType = some t) (hlk : meth.locks = false) (ht : t.isReference = true) (hw : w.isRef = true) (hd : decode c.code pc = .ok (.areturn, 1)) (hc : cells ≤ rc) (hs : slots ≤ rs) (eT : T.heap = h) (hQ : QQ (some w) h locs) :
    own_G p.tables e below (own_P s QQ rc rs) (T.setTop (mkF m pc Ls (w :: rest))) := by
  obtain ⟨fs, hr, hrun, hended, hW, hsame⟩ := X.leave (v := some w) (fun h => by rw [hret] at h; cases h) hlk
  exact ⟨_, _, retOut X hx hret (own_narR hw) (Or.inr (Or.inr (Or.inr (Or.inr ⟨rfl, ht, hw⟩)))) hd hr, hrun, hended, _, _, rfl, (by show QQ _ T.heap _; rw [eT]; exact hQ), ⟨_, rfl⟩, hW, hsame.mono hc hs⟩
theorem own_retV (X : Stand p l e R s m args below meth c T locs cells slots) (hx : p.tables.exec = Jvm.exec) {pc : Nat} {Ls : Array Slot} (hret : meth.sig.returnType = none) (hlk : meth.locks = false) (hd : decode c.code pc = .ok (.return_, 1)) (hc : cells ≤ rc) (hs : slots ≤ rs) (eT : T.heap = h) (hQ : QQ none h locs) :
    own_G p.tables e below (own_P s QQ rc rs) (T.setTop (mkF m pc Ls [])) := by
  obtain ⟨fs, hr, hrun, hended, hW, hsame⟩ := X.leave (v := none) (fun _ => rfl) hlk
  exact ⟨_, _, X.returnOut hx hret hd hr, hrun, hended, _, _, rfl, (by show QQ _ T.heap _; rw [eT]; exact hQ), ⟨_, rfl⟩, hW, hsame.mono hc hs⟩
theorem own_nar0 : nar .boolean (0 : Int32) = (0 : Int32) := rfl
theorem own_nar1 : nar .boolean (1 : Int32) = (1 : Int32) := rfl
theorem own_nar1s : some (Value.int (nar .boolean (1 : Int32))) = some (Value.int (1 : Int32)) := rfl
end New
end Jvm.RoadKit
namespace Jvm.Pilot.@@N@@
open Jvm Jvm.ClassFile Sem Op Lib Jvm.Free Jvm.Stand Jvm.LawKit Jvm.RoadKit Bundle Jvm.Pilot.@@N@@.Jvm.D
theorem own_d10_0 : decode jdk_29_method_65_code 0 = .ok (.iload_n 0, 1) := by decide +kernel
theorem own_d10_1 : decode jdk_29_method_65_code 1 = .ok (.iload_n 1, 1) := by decide +kernel
theorem own_d10_2 : decode jdk_29_method_65_code 2 = .ok (.if_icmp .lt 7, 3) := by decide +kernel
theorem own_d10_9 : decode jdk_29_method_65_code 9 = .ok (.iload_n 1, 1) := by decide +kernel
theorem own_d10_10 : decode jdk_29_method_65_code 10 = .ok (.ireturn, 1) := by decide +kernel
theorem own_d10_5 : decode jdk_29_method_65_code 5 = .ok (.iload_n 0, 1) := by decide +kernel
theorem own_d10_6 : decode jdk_29_method_65_code 6 = .ok (.goto 4, 3) := by decide +kernel
theorem own_d4_0 : decode jdk_29_method_69_code 0 = .ok (.iload_n 0, 1) := by decide +kernel
theorem own_d4_1 : decode jdk_29_method_69_code 1 = .ok (.iload_n 1, 1) := by decide +kernel
theorem own_d4_2 : decode jdk_29_method_69_code 2 = .ok (.if_icmp .gt 7, 3) := by decide +kernel
theorem own_d4_9 : decode jdk_29_method_69_code 9 = .ok (.iload_n 1, 1) := by decide +kernel
theorem own_d4_10 : decode jdk_29_method_69_code 10 = .ok (.ireturn, 1) := by decide +kernel
theorem own_d4_5 : decode jdk_29_method_69_code 5 = .ok (.iload_n 0, 1) := by decide +kernel
theorem own_d4_6 : decode jdk_29_method_69_code 6 = .ok (.goto 4, 3) := by decide +kernel
theorem own_pn0 : plainName "java/lang/Integer" = true := by first | (simp [plainName, overriddenIn]; done) | decide +kernel
theorem own_d8_0 : decode jdk_33_method_48_code 0 = .ok (.iload_n 0, 1) := by decide +kernel
theorem own_d8_1 : decode jdk_33_method_48_code 1 = .ok (.iconst (-1), 1) := by decide +kernel
theorem own_d8_2 : decode jdk_33_method_48_code 2 = .ok (.ixor, 1) := by decide +kernel
theorem own_d8_3 : decode jdk_33_method_48_code 3 = .ok (.iload_n 0, 1) := by decide +kernel
theorem own_d8_4 : decode jdk_33_method_48_code 4 = .ok (.iconst 1, 1) := by decide +kernel
theorem own_d8_5 : decode jdk_33_method_48_code 5 = .ok (.isub, 1) := by decide +kernel
theorem own_d8_6 : decode jdk_33_method_48_code 6 = .ok (.iand, 1) := by decide +kernel
theorem own_d8_7 : decode jdk_33_method_48_code 7 = .ok (.istore_n 0, 1) := by decide +kernel
theorem own_d8_8 : decode jdk_33_method_48_code 8 = .ok (.iload_n 0, 1) := by decide +kernel
theorem own_d8_9 : decode jdk_33_method_48_code 9 = .ok (.ifCond .gt 8, 3) := by decide +kernel
theorem own_d8_17 : decode jdk_33_method_48_code 17 = .ok (.iconst 1, 1) := by decide +kernel
theorem own_d8_18 : decode jdk_33_method_48_code 18 = .ok (.istore_n 1, 1) := by decide +kernel
theorem own_d8_19 : decode jdk_33_method_48_code 19 = .ok (.iload_n 0, 1) := by decide +kernel
theorem own_d8_20 : decode jdk_33_method_48_code 20 = .ok (.ldc_w 264, 3) := by decide +kernel
theorem own_d8_23 : decode jdk_33_method_48_code 23 = .ok (.if_icmp .le 11, 3) := by decide +kernel
theorem own_d8_26 : decode jdk_33_method_48_code 26 = .ok (.iinc 1 16, 3) := by decide +kernel
theorem own_d8_29 : decode jdk_33_method_48_code 29 = .ok (.iload_n 0, 1) := by decide +kernel
theorem own_d8_30 : decode jdk_33_method_48_code 30 = .ok (.bipush 16, 2) := by decide +kernel
theorem own_d8_32 : decode jdk_33_method_48_code 32 = .ok (.iushr, 1) := by decide +kernel
theorem own_d8_33 : decode jdk_33_method_48_code 33 = .ok (.istore_n 0, 1) := by decide +kernel
theorem own_d8_34 : decode jdk_33_method_48_code 34 = .ok (.iload_n 0, 1) := by decide +kernel
theorem own_d8_35 : decode jdk_33_method_48_code 35 = .ok (.sipush 256, 3) := by decide +kernel
theorem own_d8_38 : decode jdk_33_method_48_code 38 = .ok (.if_icmp .le 11, 3) := by decide +kernel
theorem own_d8_41 : decode jdk_33_method_48_code 41 = .ok (.iinc 1 8, 3) := by decide +kernel
theorem own_d8_44 : decode jdk_33_method_48_code 44 = .ok (.iload_n 0, 1) := by decide +kernel
theorem own_d8_45 : decode jdk_33_method_48_code 45 = .ok (.bipush 8, 2) := by decide +kernel
theorem own_d8_47 : decode jdk_33_method_48_code 47 = .ok (.iushr, 1) := by decide +kernel
theorem own_d8_48 : decode jdk_33_method_48_code 48 = .ok (.istore_n 0, 1) := by decide +kernel
theorem own_d8_49 : decode jdk_33_method_48_code 49 = .ok (.iload_n 0, 1) := by decide +kernel
theorem own_d8_50 : decode jdk_33_method_48_code 50 = .ok (.bipush 16, 2) := by decide +kernel
theorem own_d8_52 : decode jdk_33_method_48_code 52 = .ok (.if_icmp .le 10, 3) := by decide +kernel
theorem own_d8_55 : decode jdk_33_method_48_code 55 = .ok (.iinc 1 4, 3) := by decide +kernel
theorem own_d8_58 : decode jdk_33_method_48_code 58 = .ok (.iload_n 0, 1) := by decide +kernel
theorem own_d8_59 : decode jdk_33_method_48_code 59 = .ok (.iconst 4, 1) := by decide +kernel
theorem own_d8_60 : decode jdk_33_method_48_code 60 = .ok (.iushr, 1) := by decide +kernel
theorem own_d8_61 : decode jdk_33_method_48_code 61 = .ok (.istore_n 0, 1) := by decide +kernel
theorem own_d8_62 : decode jdk_33_method_48_code 62 = .ok (.iload_n 0, 1) := by decide +kernel
theorem own_d8_63 : decode jdk_33_method_48_code 63 = .ok (.iconst 4, 1) := by decide +kernel
theorem own_d8_64 : decode jdk_33_method_48_code 64 = .ok (.if_icmp .le 10, 3) := by decide +kernel
theorem own_d8_67 : decode jdk_33_method_48_code 67 = .ok (.iinc 1 2, 3) := by decide +kernel
theorem own_d8_70 : decode jdk_33_method_48_code 70 = .ok (.iload_n 0, 1) := by decide +kernel
theorem own_d8_71 : decode jdk_33_method_48_code 71 = .ok (.iconst 2, 1) := by decide +kernel
theorem own_d8_72 : decode jdk_33_method_48_code 72 = .ok (.iushr, 1) := by decide +kernel
theorem own_d8_73 : decode jdk_33_method_48_code 73 = .ok (.istore_n 0, 1) := by decide +kernel
theorem own_d8_74 : decode jdk_33_method_48_code 74 = .ok (.iload_n 1, 1) := by decide +kernel
theorem own_d8_75 : decode jdk_33_method_48_code 75 = .ok (.iload_n 0, 1) := by decide +kernel
theorem own_d8_76 : decode jdk_33_method_48_code 76 = .ok (.iconst 1, 1) := by decide +kernel
theorem own_d8_77 : decode jdk_33_method_48_code 77 = .ok (.iushr, 1) := by decide +kernel
theorem own_d8_78 : decode jdk_33_method_48_code 78 = .ok (.iadd, 1) := by decide +kernel
theorem own_d8_79 : decode jdk_33_method_48_code 79 = .ok (.ireturn, 1) := by decide +kernel
theorem own_d8_12 : decode jdk_33_method_48_code 12 = .ok (.iload_n 0, 1) := by decide +kernel
theorem own_d8_13 : decode jdk_33_method_48_code 13 = .ok (.bipush 32, 2) := by decide +kernel
theorem own_d8_15 : decode jdk_33_method_48_code 15 = .ok (.iand, 1) := by decide +kernel
theorem own_d8_16 : decode jdk_33_method_48_code 16 = .ok (.ireturn, 1) := by decide +kernel
theorem own_pn1 : plainName "java/lang/Long" = true := by first | (simp [plainName, overriddenIn]; done) | decide +kernel
theorem own_d7_0 : decode jdk_35_method_49_code 0 = .ok (.lload_n 0, 1) := by decide +kernel
theorem own_d7_1 : decode jdk_35_method_49_code 1 = .ok (.l2i, 1) := by decide +kernel
theorem own_d7_2 : decode jdk_35_method_49_code 2 = .ok (.istore_n 2, 1) := by decide +kernel
theorem own_d7_3 : decode jdk_35_method_49_code 3 = .ok (.iload_n 2, 1) := by decide +kernel
theorem own_d7_4 : decode jdk_35_method_49_code 4 = .ok (.ifCond .ne 17, 3) := by decide +kernel
theorem own_d7_7 : decode jdk_35_method_49_code 7 = .ok (.bipush 32, 2) := by decide +kernel
theorem own_d7_9 : decode jdk_35_method_49_code 9 = .ok (.lload_n 0, 1) := by decide +kernel
theorem own_d7_10 : decode jdk_35_method_49_code 10 = .ok (.bipush 32, 2) := by decide +kernel
theorem own_d7_12 : decode jdk_35_method_49_code 12 = .ok (.lushr, 1) := by decide +kernel
theorem own_d7_13 : decode jdk_35_method_49_code 13 = .ok (.l2i, 1) := by decide +kernel
theorem own_d7_14 : decode jdk_35_method_49_code 14 = .ok (.invokestatic 311, 3) := by decide +kernel
theorem own_pd0 : parseMethodDescriptor "(I)I" = some ⟨[.int], some .int⟩ := by decide +kernel
theorem own_d7_17 : decode jdk_35_method_49_code 17 = .ok (.iadd, 1) := by decide +kernel
theorem own_d7_18 : decode jdk_35_method_49_code 18 = .ok (.goto 7, 3) := by decide +kernel
theorem own_d7_25 : decode jdk_35_method_49_code 25 = .ok (.ireturn, 1) := by decide +kernel
theorem own_d7_21 : decode jdk_35_method_49_code 21 = .ok (.iload_n 2, 1) := by decide +kernel
theorem own_d7_22 : decode jdk_35_method_49_code 22 = .ok (.invokestatic 311, 3) := by decide +kernel
theorem own_pn2 : plainName "com/example/diligent_tableau/diligenttableau/tableau/WorklistRemovePinLaw" = true := by first | (simp [plainName, overriddenIn]; done) | decide +kernel
theorem own_d9_0 : decode method_2_code 0 = .ok (.iconst (-1), 1) := by decide +kernel
theorem own_d9_1 : decode method_2_code 1 = .ok (.istore 5, 2) := by decide +kernel
theorem own_d9_3 : decode method_2_code 3 = .ok (.iload_n 2, 1) := by decide +kernel
theorem own_d9_4 : decode method_2_code 4 = .ok (.ifCond .eq 11, 3) := by decide +kernel
theorem own_d9_15 : decode method_2_code 15 = .ok (.iload 4, 2) := by decide +kernel
theorem own_d9_17 : decode method_2_code 17 = .ok (.ifCond .eq 22, 3) := by decide +kernel
theorem own_d9_39 : decode method_2_code 39 = .ok (.iload 5, 2) := by decide +kernel
theorem own_d9_41 : decode method_2_code 41 = .ok (.ireturn, 1) := by decide +kernel
theorem own_d9_20 : decode method_2_code 20 = .ok (.iload_n 3, 1) := by decide +kernel
theorem own_d9_21 : decode method_2_code 21 = .ok (.iload_n 0, 1) := by decide +kernel
theorem own_d9_22 : decode method_2_code 22 = .ok (.if_icmp .lt 17, 3) := by decide +kernel
theorem own_d9_25 : decode method_2_code 25 = .ok (.iload 5, 2) := by decide +kernel
theorem own_d9_27 : decode method_2_code 27 = .ok (.ifCond .lt 9, 3) := by decide +kernel
theorem own_d9_36 : decode method_2_code 36 = .ok (.iload_n 3, 1) := by decide +kernel
theorem own_d9_37 : decode method_2_code 37 = .ok (.istore 5, 2) := by decide +kernel
theorem own_d9_7 : decode method_2_code 7 = .ok (.iload_n 1, 1) := by decide +kernel
theorem own_d9_8 : decode method_2_code 8 = .ok (.iload_n 0, 1) := by decide +kernel
theorem own_d9_9 : decode method_2_code 9 = .ok (.if_icmp .lt 6, 3) := by decide +kernel
theorem own_d9_12 : decode method_2_code 12 = .ok (.iload_n 1, 1) := by decide +kernel
theorem own_d9_13 : decode method_2_code 13 = .ok (.istore 5, 2) := by decide +kernel
theorem own_d9_30 : decode method_2_code 30 = .ok (.iload_n 3, 1) := by decide +kernel
theorem own_d9_31 : decode method_2_code 31 = .ok (.iload 5, 2) := by decide +kernel
theorem own_d9_33 : decode method_2_code 33 = .ok (.if_icmp .ge 6, 3) := by decide +kernel
theorem own_pn3 : plainName "java/util/Arrays" = true := by first | (simp [plainName, overriddenIn]; done) | decide +kernel
theorem own_d11_0 : decode jdk_65_method_124_code 0 = .ok (.iload_n 1, 1) := by decide +kernel
theorem own_d11_1 : decode jdk_65_method_124_code 1 = .ok (.aload_n 0, 1) := by decide +kernel
theorem own_d11_2 : decode jdk_65_method_124_code 2 = .ok (.arraylength, 1) := by decide +kernel
theorem own_d11_3 : decode jdk_65_method_124_code 3 = .ok (.if_icmp .ne 11, 3) := by decide +kernel
theorem own_d11_14 : decode jdk_65_method_124_code 14 = .ok (.iload_n 1, 1) := by decide +kernel
theorem own_d11_15 : decode jdk_65_method_124_code 15 = .ok (.newarray .long, 2) := by decide +kernel
theorem own_d11_17 : decode jdk_65_method_124_code 17 = .ok (.astore_n 2, 1) := by decide +kernel
theorem own_d11_18 : decode jdk_65_method_124_code 18 = .ok (.aload_n 0, 1) := by decide +kernel
theorem own_d11_19 : decode jdk_65_method_124_code 19 = .ok (.iconst 0, 1) := by decide +kernel
theorem own_d11_20 : decode jdk_65_method_124_code 20 = .ok (.aload_n 2, 1) := by decide +kernel
theorem own_d11_21 : decode jdk_65_method_124_code 21 = .ok (.iconst 0, 1) := by decide +kernel
theorem own_d11_22 : decode jdk_65_method_124_code 22 = .ok (.aload_n 0, 1) := by decide +kernel
theorem own_d11_23 : decode jdk_65_method_124_code 23 = .ok (.arraylength, 1) := by decide +kernel
theorem own_d11_24 : decode jdk_65_method_124_code 24 = .ok (.iload_n 1, 1) := by decide +kernel
theorem own_d11_25 : decode jdk_65_method_124_code 25 = .ok (.invokestatic 304, 3) := by decide +kernel
theorem own_pd1 : parseMethodDescriptor "(II)I" = some ⟨[.int, .int], some .int⟩ := by decide +kernel
theorem own_d11_28 : decode jdk_65_method_124_code 28 = .ok (.invokestatic 150, 3) := by decide +kernel
theorem own_d11_31 : decode jdk_65_method_124_code 31 = .ok (.aload_n 2, 1) := by decide +kernel
theorem own_d11_32 : decode jdk_65_method_124_code 32 = .ok (.areturn, 1) := by decide +kernel
theorem own_pn4 : plainName "com/example/diligent_tableau/diligenttableau/tableau/Worklist" = true := by first | (simp [plainName, overriddenIn]; done) | decide +kernel
theorem own_d1_0 : decode prog_64_method_1_code 0 = .ok (.aload_n 0, 1) := by decide +kernel
theorem own_d1_1 : decode prog_64_method_1_code 1 = .ok (.invokespecial 1, 3) := by decide +kernel
theorem own_d1_4 : decode prog_64_method_1_code 4 = .ok (.aload_n 0, 1) := by decide +kernel
theorem own_d1_5 : decode prog_64_method_1_code 5 = .ok (.iconst 1, 1) := by decide +kernel
theorem own_d1_6 : decode prog_64_method_1_code 6 = .ok (.newarray .long, 2) := by decide +kernel
theorem own_d1_8 : decode prog_64_method_1_code 8 = .ok (.putfield 7, 3) := by decide +kernel
theorem own_d1_11 : decode prog_64_method_1_code 11 = .ok (.return_, 1) := by decide +kernel
theorem own_d3_0 : decode prog_64_method_2_code 0 = .ok (.iload_n 1, 1) := by decide +kernel
theorem own_d3_1 : decode prog_64_method_2_code 1 = .ok (.bipush 64, 2) := by decide +kernel
theorem own_d3_3 : decode prog_64_method_2_code 3 = .ok (.idiv, 1) := by decide +kernel
theorem own_d3_4 : decode prog_64_method_2_code 4 = .ok (.istore_n 2, 1) := by decide +kernel
theorem own_d3_5 : decode prog_64_method_2_code 5 = .ok (.iload_n 2, 1) := by decide +kernel
theorem own_d3_6 : decode prog_64_method_2_code 6 = .ok (.aload_n 0, 1) := by decide +kernel
theorem own_d3_7 : decode prog_64_method_2_code 7 = .ok (.getfield 7, 3) := by decide +kernel
theorem own_d3_10 : decode prog_64_method_2_code 10 = .ok (.arraylength, 1) := by decide +kernel
theorem own_d3_11 : decode prog_64_method_2_code 11 = .ok (.if_icmp .lt 27, 3) := by decide +kernel
theorem own_d3_38 : decode prog_64_method_2_code 38 = .ok (.aload_n 0, 1) := by decide +kernel
theorem own_d3_39 : decode prog_64_method_2_code 39 = .ok (.getfield 7, 3) := by decide +kernel
theorem own_d3_42 : decode prog_64_method_2_code 42 = .ok (.iload_n 2, 1) := by decide +kernel
theorem own_d3_43 : decode prog_64_method_2_code 43 = .ok (.dup2, 1) := by decide +kernel
theorem own_d3_44 : decode prog_64_method_2_code 44 = .ok (.laload, 1) := by decide +kernel
theorem own_d3_45 : decode prog_64_method_2_code 45 = .ok (.lconst 1, 1) := by decide +kernel
theorem own_d3_46 : decode prog_64_method_2_code 46 = .ok (.iload_n 1, 1) := by decide +kernel
theorem own_d3_47 : decode prog_64_method_2_code 47 = .ok (.lshl, 1) := by decide +kernel
theorem own_d3_48 : decode prog_64_method_2_code 48 = .ok (.lor, 1) := by decide +kernel
theorem own_d3_49 : decode prog_64_method_2_code 49 = .ok (.lastore, 1) := by decide +kernel
theorem own_d3_50 : decode prog_64_method_2_code 50 = .ok (.aload_n 0, 1) := by decide +kernel
theorem own_d3_51 : decode prog_64_method_2_code 51 = .ok (.aload_n 0, 1) := by decide +kernel
theorem own_d3_52 : decode prog_64_method_2_code 52 = .ok (.getfield 27, 3) := by decide +kernel
theorem own_d3_55 : decode prog_64_method_2_code 55 = .ok (.iload_n 1, 1) := by decide +kernel
theorem own_d3_56 : decode prog_64_method_2_code 56 = .ok (.invokestatic 31, 3) := by decide +kernel
theorem own_d3_59 : decode prog_64_method_2_code 59 = .ok (.putfield 27, 3) := by decide +kernel
theorem own_d3_62 : decode prog_64_method_2_code 62 = .ok (.return_, 1) := by decide +kernel
theorem own_d3_14 : decode prog_64_method_2_code 14 = .ok (.aload_n 0, 1) := by decide +kernel
theorem own_d3_15 : decode prog_64_method_2_code 15 = .ok (.aload_n 0, 1) := by decide +kernel
theorem own_d3_16 : decode prog_64_method_2_code 16 = .ok (.getfield 7, 3) := by decide +kernel
theorem own_d3_19 : decode prog_64_method_2_code 19 = .ok (.iconst 2, 1) := by decide +kernel
theorem own_d3_20 : decode prog_64_method_2_code 20 = .ok (.aload_n 0, 1) := by decide +kernel
theorem own_d3_21 : decode prog_64_method_2_code 21 = .ok (.getfield 7, 3) := by decide +kernel
theorem own_d3_24 : decode prog_64_method_2_code 24 = .ok (.arraylength, 1) := by decide +kernel
theorem own_d3_25 : decode prog_64_method_2_code 25 = .ok (.imul, 1) := by decide +kernel
theorem own_d3_26 : decode prog_64_method_2_code 26 = .ok (.iload_n 2, 1) := by decide +kernel
theorem own_d3_27 : decode prog_64_method_2_code 27 = .ok (.iconst 1, 1) := by decide +kernel
theorem own_d3_28 : decode prog_64_method_2_code 28 = .ok (.iadd, 1) := by decide +kernel
theorem own_d3_29 : decode prog_64_method_2_code 29 = .ok (.invokestatic 15, 3) := by decide +kernel
theorem own_d3_32 : decode prog_64_method_2_code 32 = .ok (.invokestatic 21, 3) := by decide +kernel
theorem own_pd2 : parseMethodDescriptor "([JI)[J" = some ⟨[(.array .long), .int], some (.array .long)⟩ := by decide +kernel
theorem own_d3_35 : decode prog_64_method_2_code 35 = .ok (.putfield 7, 3) := by decide +kernel
theorem own_d5_0 : decode prog_64_method_4_code 0 = .ok (.iload_n 1, 1) := by decide +kernel
theorem own_d5_1 : decode prog_64_method_4_code 1 = .ok (.bipush 64, 2) := by decide +kernel
theorem own_d5_3 : decode prog_64_method_4_code 3 = .ok (.idiv, 1) := by decide +kernel
theorem own_d5_4 : decode prog_64_method_4_code 4 = .ok (.istore_n 2, 1) := by decide +kernel
theorem own_d5_5 : decode prog_64_method_4_code 5 = .ok (.iload_n 2, 1) := by decide +kernel
theorem own_d5_6 : decode prog_64_method_4_code 6 = .ok (.aload_n 0, 1) := by decide +kernel
theorem own_d5_7 : decode prog_64_method_4_code 7 = .ok (.getfield 7, 3) := by decide +kernel
theorem own_d5_10 : decode prog_64_method_4_code 10 = .ok (.arraylength, 1) := by decide +kernel
theorem own_d5_11 : decode prog_64_method_4_code 11 = .ok (.if_icmp .ge 19, 3) := by decide +kernel
theorem own_d5_14 : decode prog_64_method_4_code 14 = .ok (.aload_n 0, 1) := by decide +kernel
theorem own_d5_15 : decode prog_64_method_4_code 15 = .ok (.getfield 7, 3) := by decide +kernel
theorem own_d5_18 : decode prog_64_method_4_code 18 = .ok (.iload_n 2, 1) := by decide +kernel
theorem own_d5_19 : decode prog_64_method_4_code 19 = .ok (.dup2, 1) := by decide +kernel
theorem own_d5_20 : decode prog_64_method_4_code 20 = .ok (.laload, 1) := by decide +kernel
theorem own_d5_21 : decode prog_64_method_4_code 21 = .ok (.lconst 1, 1) := by decide +kernel
theorem own_d5_22 : decode prog_64_method_4_code 22 = .ok (.iload_n 1, 1) := by decide +kernel
theorem own_d5_23 : decode prog_64_method_4_code 23 = .ok (.lshl, 1) := by decide +kernel
theorem own_d5_24 : decode prog_64_method_4_code 24 = .ok (.ldc2_w 38, 3) := by decide +kernel
theorem own_d5_27 : decode prog_64_method_4_code 27 = .ok (.lxor, 1) := by decide +kernel
theorem own_d5_28 : decode prog_64_method_4_code 28 = .ok (.land, 1) := by decide +kernel
theorem own_d5_29 : decode prog_64_method_4_code 29 = .ok (.lastore, 1) := by decide +kernel
theorem own_d5_30 : decode prog_64_method_4_code 30 = .ok (.return_, 1) := by decide +kernel
theorem own_d6_0 : decode prog_64_method_7_code 0 = .ok (.iload_n 1, 1) := by decide +kernel
theorem own_d6_1 : decode prog_64_method_7_code 1 = .ok (.bipush 64, 2) := by decide +kernel
theorem own_d6_3 : decode prog_64_method_7_code 3 = .ok (.idiv, 1) := by decide +kernel
theorem own_d6_4 : decode prog_64_method_7_code 4 = .ok (.istore_n 2, 1) := by decide +kernel
theorem own_d6_5 : decode prog_64_method_7_code 5 = .ok (.iload_n 2, 1) := by decide +kernel
theorem own_d6_6 : decode prog_64_method_7_code 6 = .ok (.aload_n 0, 1) := by decide +kernel
theorem own_d6_7 : decode prog_64_method_7_code 7 = .ok (.getfield 7, 3) := by decide +kernel
theorem own_d6_10 : decode prog_64_method_7_code 10 = .ok (.arraylength, 1) := by decide +kernel
theorem own_d6_11 : decode prog_64_method_7_code 11 = .ok (.if_icmp .lt 5, 3) := by decide +kernel
theorem own_d6_16 : decode prog_64_method_7_code 16 = .ok (.aload_n 0, 1) := by decide +kernel
theorem own_d6_17 : decode prog_64_method_7_code 17 = .ok (.getfield 7, 3) := by decide +kernel
theorem own_d6_20 : decode prog_64_method_7_code 20 = .ok (.iload_n 2, 1) := by decide +kernel
theorem own_d6_21 : decode prog_64_method_7_code 21 = .ok (.laload, 1) := by decide +kernel
theorem own_d6_22 : decode prog_64_method_7_code 22 = .ok (.ldc2_w 38, 3) := by decide +kernel
theorem own_d6_25 : decode prog_64_method_7_code 25 = .ok (.iload_n 1, 1) := by decide +kernel
theorem own_d6_26 : decode prog_64_method_7_code 26 = .ok (.lshl, 1) := by decide +kernel
theorem own_d6_27 : decode prog_64_method_7_code 27 = .ok (.land, 1) := by decide +kernel
theorem own_d6_28 : decode prog_64_method_7_code 28 = .ok (.lstore_n 3, 1) := by decide +kernel
theorem own_d6_29 : decode prog_64_method_7_code 29 = .ok (.lload_n 3, 1) := by decide +kernel
theorem own_d6_30 : decode prog_64_method_7_code 30 = .ok (.lconst 0, 1) := by decide +kernel
theorem own_d6_31 : decode prog_64_method_7_code 31 = .ok (.lcmp, 1) := by decide +kernel
theorem own_d6_32 : decode prog_64_method_7_code 32 = .ok (.ifCond .ne 27, 3) := by decide +kernel
theorem own_d6_35 : decode prog_64_method_7_code 35 = .ok (.iinc 2 1, 3) := by decide +kernel
theorem own_d6_38 : decode prog_64_method_7_code 38 = .ok (.iload_n 2, 1) := by decide +kernel
theorem own_d6_39 : decode prog_64_method_7_code 39 = .ok (.aload_n 0, 1) := by decide +kernel
theorem own_d6_40 : decode prog_64_method_7_code 40 = .ok (.getfield 7, 3) := by decide +kernel
theorem own_d6_43 : decode prog_64_method_7_code 43 = .ok (.arraylength, 1) := by decide +kernel
theorem own_d6_44 : decode prog_64_method_7_code 44 = .ok (.if_icmp .ne 5, 3) := by decide +kernel
theorem own_d6_47 : decode prog_64_method_7_code 47 = .ok (.iconst (-1), 1) := by decide +kernel
theorem own_d6_48 : decode prog_64_method_7_code 48 = .ok (.ireturn, 1) := by decide +kernel
theorem own_d6_49 : decode prog_64_method_7_code 49 = .ok (.aload_n 0, 1) := by decide +kernel
theorem own_d6_50 : decode prog_64_method_7_code 50 = .ok (.getfield 7, 3) := by decide +kernel
theorem own_d6_53 : decode prog_64_method_7_code 53 = .ok (.iload_n 2, 1) := by decide +kernel
theorem own_d6_54 : decode prog_64_method_7_code 54 = .ok (.laload, 1) := by decide +kernel
theorem own_d6_55 : decode prog_64_method_7_code 55 = .ok (.lstore_n 3, 1) := by decide +kernel
theorem own_d6_56 : decode prog_64_method_7_code 56 = .ok (.goto (-27), 3) := by decide +kernel
theorem own_d6_59 : decode prog_64_method_7_code 59 = .ok (.iload_n 2, 1) := by decide +kernel
theorem own_d6_60 : decode prog_64_method_7_code 60 = .ok (.bipush 64, 2) := by decide +kernel
theorem own_d6_62 : decode prog_64_method_7_code 62 = .ok (.imul, 1) := by decide +kernel
theorem own_d6_63 : decode prog_64_method_7_code 63 = .ok (.lload_n 3, 1) := by decide +kernel
theorem own_d6_64 : decode prog_64_method_7_code 64 = .ok (.invokestatic 52, 3) := by decide +kernel
theorem own_pd3 : parseMethodDescriptor "(J)I" = some ⟨[.long], some .int⟩ := by decide +kernel
theorem own_d6_67 : decode prog_64_method_7_code 67 = .ok (.iadd, 1) := by decide +kernel
theorem own_d6_68 : decode prog_64_method_7_code 68 = .ok (.ireturn, 1) := by decide +kernel
theorem own_d6_14 : decode prog_64_method_7_code 14 = .ok (.iconst (-1), 1) := by decide +kernel
theorem own_d6_15 : decode prog_64_method_7_code 15 = .ok (.ireturn, 1) := by decide +kernel
theorem own_pd4 : parseMethodDescriptor "()V" = some ⟨[], none⟩ := by decide +kernel
theorem own_pd5 : parseMethodDescriptor "(I)V" = some ⟨[.int], none⟩ := by decide +kernel
theorem own_pd6 : parseMethodDescriptor "(IIZIZ)I" = some ⟨[.int, .int, .boolean, .int, .boolean], some .int⟩ := by decide +kernel
def own_z : Nat → Int64 := fun _ => 0
def own_L (f : Nat → Int64) : List Value := (List.range 16).map (fun i => Value.long (f i))
def own_upd (f : Nat → Int64) (j : Nat) (w : Int64) : Nat → Int64 := fun i => if i = j then w else f i
theorem own_L_get {f : Nat → Int64} (hf : ∀ i, 16 ≤ i → f i = 0) (i : Nat) : (own_L f).getD i (.long (0 : Int64)) = .long (f i) := by
  unfold own_L
  rw [List.getD_eq_getElem?_getD, List.getElem?_map]
  by_cases h : i < 16
  · rw [List.getElem?_range h]; rfl
  · rw [List.getElem?_eq_none (by simpa using h), hf i (by omega)]; rfl
theorem own_L_len (f : Nat → Int64) : (own_L f).length = 16 := by simp [own_L]
theorem own_L_set {f : Nat → Int64} (hf : ∀ i, 16 ≤ i → f i = 0) {j : Nat} (hj : j < 16) (w : Int64) (i : Nat) : (own_L (own_upd f j w)).getD i (.long (0 : Int64)) = ((own_L f).set j (.long w)).getD i (.long (0 : Int64)) := by
  have h2 : ∀ i, 16 ≤ i → own_upd f j w i = 0 := fun i hi => by
    unfold own_upd; rw [if_neg (by omega)]; exact hf i hi
  rw [own_L_get h2, List.getD_eq_getElem?_getD, List.getElem?_set]
  by_cases e : j = i
  · subst e
    rw [if_pos rfl, if_pos (by rw [own_L_len]; exact hj)]
    simp [own_upd]
  · rw [if_neg e, ← List.getD_eq_getElem?_getD, own_L_get hf]
    unfold own_upd; rw [if_neg (fun q => e q.symm)]
theorem own_pad1 (i : Nat) : (own_L own_z).getD i (.long (0 : Int64)) = [Value.long (0 : Int64)].getD i (.long (0 : Int64)) := by
  rw [own_L_get (f := own_z) (fun _ _ => rfl)]
  match i with
  | 0 => rfl
  | i + 1 => rfl
theorem own_pad0 (i : Nat) : (own_L own_z).getD i (.long (0 : Int64)) = ([] : List Value).getD i (.long (0 : Int64)) := by
  rw [own_L_get (f := own_z) (fun _ _ => rfl)]; rfl
theorem own_padC {f : Nat → Int64} {z : Nat} (hf : ∀ i, z ≤ i → f i = 0) (hz : z ≤ 16) (i : Nat) :
    (own_L f).getD i (.long (0 : Int64)) = ((own_L own_z).take 0 ++ ((List.range z).map fun i => (own_L f).getD (0 + i) (.long (0 : Int64))) ++ (own_L own_z).drop (0 + z)).getD i (.long (0 : Int64)) := by
  have hf16 : ∀ i, 16 ≤ i → f i = 0 := fun i hi => hf i (by omega)
  rw [own_L_get hf16]
  simp only [List.take_zero, List.nil_append, Nat.zero_add]
  rw [List.getD_eq_getElem?_getD, List.getElem?_append]
  simp only [List.length_map, List.length_range]
  by_cases h : i < z
  · rw [if_pos h, List.getElem?_map, List.getElem?_range h]
    show _ = (own_L f).getD i (.long (0 : Int64))
    rw [own_L_get hf16]
  · rw [if_neg h, hf i (by omega), List.getElem?_drop, ← List.getD_eq_getElem?_getD, own_L_get (f := own_z) (fun _ _ => rfl)]; rfl
/-- the index i is in the set -/
def own_mem (f : Nat → Int64) (i : Nat) : Bool := (f (i / 64)).toBitVec.getLsbD (i % 64)
def own_bit (q : Int32) : Int64 := ((1 : Int64) <<< (q &&& 0x3f).toInt64)
def own_add (f : Nat → Int64) (q : Int32) : Nat → Int64 := own_upd f (q / (64 : Int32)).toNatClampNeg (f (q / (64 : Int32)).toNatClampNeg ||| own_bit q)
def own_rem (f : Nat → Int64) (q : Int32) : Nat → Int64 := own_upd f (q / (64 : Int32)).toNatClampNeg (f (q / (64 : Int32)).toNatClampNeg &&& (own_bit q ^^^ (-1 : Int64)))
theorem own_ushr6 {q : Int32} (h : ¬ q < 0) : (q / (64 : Int32)).toInt = q.toInt / 64 ∧ ¬ (q / (64 : Int32)) < 0 ∧ (q / (64 : Int32)).toNatClampNeg = q.toNatClampNeg / 64 ∧ 0 ≤ q.toInt := by
  have h0 : 0 ≤ q.toInt := by rw [Int32.lt_iff_toInt_lt, show (0 : Int32).toInt = 0 from by decide] at h; omega
  have e := (c_idiv q 64 64 (by decide) (by decide)).1 h0
  have n1 : ¬ (q / (64 : Int32)) < 0 := by rw [Int32.lt_iff_toInt_lt, show (0 : Int32).toInt = 0 from by decide]; omega
  have a := nat_of h
  have b := nat_of n1
  exact ⟨e, n1, by omega, h0⟩
theorem own_bitB {q : Int32} (h : ¬ q < 0) (j : Nat) (hj : j < 64) : (own_bit q).toBitVec.getLsbD j = decide (j = q.toNatClampNeg % 64) := by
  have a := nat_of h
  have hq : q.toBitVec.toNat = q.toNatClampNeg := by
    have : (q.toInt : Int) = (q.toBitVec.toNat : Int) := by
      show q.toBitVec.toInt = _
      rw [BitVec.toInt_eq_toNat_of_lt]
      have r := rng32 q
      have : q.toBitVec.toInt = q.toInt := rfl
      rw [BitVec.toInt_eq_toNat_cond] at this
      split at this
      · assumption
      · have := q.toBitVec.isLt; omega
    omega
  obtain ⟨s1, s2⟩ := sm64 q (q.toNatClampNeg % 64) (by rw [hq])
  show (((1 : Int64).toBitVec <<< ((q &&& 0x3f).toInt64.toBitVec.smod 64))).getLsbD j = _
  rw [s1]
  show ((1#64) <<< ((BitVec.ofNat 64 (q.toNatClampNeg % 64)).smod 64).toNat).getLsbD j = _
  rw [smod64 _ s2, BitVec.getLsbD_shiftLeft]
  generalize q.toNatClampNeg % 64 = k at *
  by_cases e : j = k
  · subst e; simp [hj]
  · by_cases l : j < k
    · simp [e, l]
    · have : j - k ≠ 0 := by omega
      simp [e, l, hj, this]
theorem own_mem_add {f : Nat → Int64} {q : Int32} (h : ¬ q < 0) (i : Nat) : own_mem (own_add f q) i = (own_mem f i || decide (i = q.toNatClampNeg)) := by
  obtain ⟨-, -, e3, -⟩ := own_ushr6 h
  unfold own_mem own_add own_upd
  rw [e3]
  by_cases e : i / 64 = q.toNatClampNeg / 64
  · rw [if_pos e]
    show (((f (q.toNatClampNeg / 64)).toBitVec ||| (own_bit q).toBitVec)).getLsbD (i % 64) = _
    rw [BitVec.getLsbD_or, own_bitB h _ (Nat.mod_lt _ (by decide)), e]
    congr 1
    apply decide_eq_decide.mpr
    omega
  · rw [if_neg e]
    have : i ≠ q.toNatClampNeg := fun x => e (by rw [x])
    simp [this]
theorem own_mem_rem {f : Nat → Int64} {q : Int32} (h : ¬ q < 0) (i : Nat) : own_mem (own_rem f q) i = (own_mem f i && decide (i ≠ q.toNatClampNeg)) := by
  obtain ⟨-, -, e3, -⟩ := own_ushr6 h
  unfold own_mem own_rem own_upd
  rw [e3]
  by_cases e : i / 64 = q.toNatClampNeg / 64
  · rw [if_pos e]
    show (((f (q.toNatClampNeg / 64)).toBitVec &&& ((own_bit q).toBitVec ^^^ (-1 : Int64).toBitVec))).getLsbD (i % 64) = _
    rw [BitVec.getLsbD_and, BitVec.getLsbD_xor, own_bitB h _ (Nat.mod_lt _ (by decide)), e]
    have m1 : (-1 : Int64).toBitVec.getLsbD (i % 64) = true := by
      have : (-1 : Int64).toBitVec = BitVec.allOnes 64 := by decide
      rw [this, BitVec.getLsbD_allOnes]; exact decide_eq_true (Nat.mod_lt _ (by decide))
    rw [m1]
    congr 1
    by_cases x : i % 64 = q.toNatClampNeg % 64
    · have : i = q.toNatClampNeg := by omega
      simp [x, this]
    · have : i ≠ q.toNatClampNeg := fun y => x (by rw [y])
      simp [x, this]
  · rw [if_neg e]
    have : i ≠ q.toNatClampNeg := fun x => e (by rw [x])
    simp [this]
/-- what next(from) answers -/
def own_isNext (f : Nat → Int64) (q : Int32) (r : Int32) : Prop := (r = (-1 : Int32) ∧ ∀ i, q.toNatClampNeg ≤ i → own_mem f i = false) ∨ (¬ r < 0 ∧ q.toNatClampNeg ≤ r.toNatClampNeg ∧ own_mem f r.toNatClampNeg = true ∧ ∀ i, q.toNatClampNeg ≤ i → i < r.toNatClampNeg → own_mem f i = false)
def own_least (fr a ina b inb : Int32) : Int32 :=
  if ina = (0 : Int32) then (if inb = (0 : Int32) then (-1 : Int32) else if b < fr then (-1 : Int32) else b)
  else if a < fr then (if inb = (0 : Int32) then (-1 : Int32) else if b < fr then (-1 : Int32) else b)
  else (if inb = (0 : Int32) then a else if b < fr then a else if a < (0 : Int32) then b else if b < a then b else a)
def own_ne (a r : Int32) : Int32 := if a = r then (0 : Int32) else (1 : Int32)
theorem own_final {f : Nat → Int64} {fr a b r v : Int32} (hfr : ¬ fr < 0) (ha : ¬ a < 0) (hb : ¬ b < 0) (hr : ¬ r < 0)
    (hm : ∀ i, own_mem f i = ((decide (i = a.toNatClampNeg) || decide (i = b.toNatClampNeg)) && decide (i ≠ r.toNatClampNeg))) (hv : own_isNext f fr v) : v = own_least fr a (own_ne a r) b (own_ne b r) := by
  have na := nat_of ha
  have nb := nat_of hb
  have nr := nat_of hr
  have nf := nat_of hfr
  have e0 : (0 : Int32).toInt = 0 := by decide
  have em : ∀ i, own_mem f i = true ↔ ((i = a.toNatClampNeg ∨ i = b.toNatClampNeg) ∧ i ≠ r.toNatClampNeg) := fun i => by rw [hm]; simp
  have ef : ∀ i, own_mem f i = false ↔ ¬ ((i = a.toNatClampNeg ∨ i = b.toNatClampNeg) ∧ i ≠ r.toNatClampNeg) := fun i => by rw [← em]; simp
  have key : ∀ x y : Int32, x.toInt = y.toInt → x = y := fun x y h => Int32.toInt_inj.mp h
  have ea : a = r ↔ a.toNatClampNeg = r.toNatClampNeg := ⟨fun h => by rw [h], fun h => key _ _ (by omega)⟩
  have eb : b = r ↔ b.toNatClampNeg = r.toNatClampNeg := ⟨fun h => by rw [h], fun h => key _ _ (by omega)⟩
  have a0 : ¬ a < (0 : Int32) := ha
  have l1 : a < fr ↔ a.toNatClampNeg < fr.toNatClampNeg := by rw [Int32.lt_iff_toInt_lt]; omega
  have l2 : b < fr ↔ b.toNatClampNeg < fr.toNatClampNeg := by rw [Int32.lt_iff_toInt_lt]; omega
  have l3 : b < a ↔ b.toNatClampNeg < a.toNatClampNeg := by rw [Int32.lt_iff_toInt_lt]; omega
  unfold own_isNext at hv
  simp only [ef, em] at hv
  generalize hA : a.toNatClampNeg = A at *
  generalize hB : b.toNatClampNeg = B at *
  generalize hR : r.toNatClampNeg = R at *
  generalize hF : fr.toNatClampNeg = F at *
  have v1 : ∀ x : Int32, ¬ v < 0 → ¬ x < 0 → v.toNatClampNeg = x.toNatClampNeg → v = x := fun x h1 h2 h3 => key _ _ (by rw [nat_of h1, nat_of h2, h3])
  have one : ¬ ((1 : Int32) = 0) := by decide
  unfold own_least own_ne
  by_cases cA : a = r
  · have cA' := ea.mp cA
    rw [if_pos cA, if_pos rfl]
    by_cases cB : b = r
    · have cB' := eb.mp cB
      rw [if_pos cB, if_pos rfl]
      rcases hv with ⟨h, -⟩ | ⟨h0, h1, h2, h3⟩
      · exact h
      · exfalso; omega
    · have cB' : ¬ B = R := fun q => cB (eb.mpr q)
      rw [if_neg cB, if_neg one]
      by_cases lb : b < fr
      · have lb' := l2.mp lb
        rw [if_pos lb]
        rcases hv with ⟨h, -⟩ | ⟨h0, h1, h2, h3⟩
        · exact h
        · exfalso; omega
      · have lb' : ¬ B < F := fun q => lb (l2.mpr q)
        rw [if_neg lb]
        rcases hv with ⟨h, h'⟩ | ⟨h0, h1, h2, h3⟩
        · exact absurd ⟨Or.inr rfl, cB'⟩ (h' B (by omega))
        · refine v1 b h0 hb ?_; rw [hB]; omega
  · have cA' : ¬ A = R := fun q => cA (ea.mpr q)
    rw [if_neg cA, if_neg one]
    by_cases la : a < fr
    · have la' := l1.mp la
      rw [if_pos la]
      by_cases cB : b = r
      · have cB' := eb.mp cB
        rw [if_pos cB, if_pos rfl]
        rcases hv with ⟨h, -⟩ | ⟨h0, h1, h2, h3⟩
        · exact h
        · exfalso; omega
      · have cB' : ¬ B = R := fun q => cB (eb.mpr q)
        rw [if_neg cB, if_neg one]
        by_cases lb : b < fr
        · have lb' := l2.mp lb
          rw [if_pos lb]
          rcases hv with ⟨h, -⟩ | ⟨h0, h1, h2, h3⟩
          · exact h
          · exfalso; omega
        · have lb' : ¬ B < F := fun q => lb (l2.mpr q)
          rw [if_neg lb]
          rcases hv with ⟨h, h'⟩ | ⟨h0, h1, h2, h3⟩
          · exact absurd ⟨Or.inr rfl, cB'⟩ (h' B (by omega))
          · refine v1 b h0 hb ?_; rw [hB]; omega
    · have la' : ¬ A < F := fun q => la (l1.mpr q)
      rw [if_neg la]
      by_cases cB : b = r
      · have cB' := eb.mp cB
        rw [if_pos cB, if_pos rfl]
        rcases hv with ⟨h, h'⟩ | ⟨h0, h1, h2, h3⟩
        · exact absurd ⟨Or.inl rfl, cA'⟩ (h' A (by omega))
        · refine v1 a h0 ha ?_; rw [hA]; omega
      · have cB' : ¬ B = R := fun q => cB (eb.mpr q)
        rw [if_neg cB, if_neg one]
        by_cases lb : b < fr
        · have lb' := l2.mp lb
          rw [if_pos lb]
          rcases hv with ⟨h, h'⟩ | ⟨h0, h1, h2, h3⟩
          · exact absurd ⟨Or.inl rfl, cA'⟩ (h' A (by omega))
          · refine v1 a h0 ha ?_; rw [hA]; omega
        · have lb' : ¬ B < F := fun q => lb (l2.mpr q)
          rw [if_neg lb, if_neg a0]
          rcases hv with ⟨h, h'⟩ | ⟨h0, h1, h2, h3⟩
          · exact absurd ⟨Or.inl rfl, cA'⟩ (h' A (by omega))
          · by_cases c : b < a
            · have c' := l3.mp c
              rw [if_pos c]
              refine v1 b h0 hb ?_; rw [hB]
              have := h3 B (by omega)
              omega
            · have c' : ¬ B < A := fun q => c (l3.mpr q)
              rw [if_neg c]
              refine v1 a h0 ha ?_; rw [hA]
              have := h3 A (by omega)
              omega

/-! the lowest set bit -/
def own_us (y k : Int32) : Int32 := ((y.toUInt32 >>> (k &&& 31).toUInt32).toInt32)
def own_s1 (n y : Int32) : Int32 := (n + ((y.toUInt32 >>> ((1 : Int32) &&& 31).toUInt32).toInt32))
def own_s2 (n y : Int32) : Int32 := if (4 : Int32) < y then own_s1 (n + (2 : Int32)) ((y.toUInt32 >>> ((2 : Int32) &&& 31).toUInt32).toInt32) else own_s1 n y
def own_s4 (n y : Int32) : Int32 := if (16 : Int32) < y then own_s2 (n + (4 : Int32)) ((y.toUInt32 >>> ((4 : Int32) &&& 31).toUInt32).toInt32) else own_s2 n y
def own_s8 (n y : Int32) : Int32 := if (256 : Int32) < y then own_s4 (n + (8 : Int32)) ((y.toUInt32 >>> ((8 : Int32) &&& 31).toUInt32).toInt32) else own_s4 n y
def own_s16 (n y : Int32) : Int32 := if (65536 : Int32) < y then own_s8 (n + (16 : Int32)) ((y.toUInt32 >>> ((16 : Int32) &&& 31).toUInt32).toInt32) else own_s8 n y
def own_ntzY (y : Int32) : Int32 := if (0 : Int32) < y then own_s16 (1 : Int32) y else (y &&& (32 : Int32))
def own_ntzI (x : Int32) : Int32 := own_ntzY ((x ^^^ (-1 : Int32)) &&& (x - (1 : Int32)))
def own_ntzL (q : Int64) : Int32 := if (q.toInt32) = (0 : Int32) then ((32 : Int32) + own_ntzI ((((q.toUInt64 >>> ((32 : Int32) &&& 0x3f).toInt64.toUInt64).toInt64)).toInt32)) else own_ntzI (q.toInt32)
theorem own_min (P : Nat → Bool) : ∀ n, P n = true → ∃ k, k ≤ n ∧ P k = true ∧ ∀ j, j < k → P j = false := by
  intro n
  induction n using Nat.strongRecOn with
  | ind n ih =>
    intro h
    by_cases q : ∃ j, j < n ∧ P j = true
    · obtain ⟨j, hj, pj⟩ := q
      obtain ⟨k, h1, h2, h3⟩ := ih j hj pj
      exact ⟨k, by omega, h2, h3⟩
    · refine ⟨n, Nat.le_refl _, h, fun j hj => ?_⟩
      cases e : P j with
      | false => rfl
      | true => exact absurd ⟨j, hj, e⟩ q
theorem own_low (N k : Nat) (h1 : N.testBit k = true) (h2 : ∀ j, j < k → N.testBit j = false) : ∃ m, N = 2 ^ (k + 1) * m + 2 ^ k := by
  refine ⟨N / 2 ^ (k + 1), ?_⟩
  have e : N % 2 ^ (k + 1) = 2 ^ k := by
    apply Nat.eq_of_testBit_eq
    intro j
    rw [Nat.testBit_mod_two_pow, Nat.testBit_two_pow]
    by_cases a : j < k
    · rw [h2 j a]; simp; omega
    · by_cases b : j = k
      · subst b; rw [h1]; simp
      · have : ¬ j < k + 1 := by omega
        simp [this]; omega
  have := Nat.div_add_mod N (2 ^ (k + 1))
  omega
theorem own_pred (N k m : Nat) (h : N = 2 ^ (k + 1) * m + 2 ^ k) (j : Nat) : (N - 1).testBit j = if j < k then true else if j = k then false else N.testBit j := by
  have p : 0 < 2 ^ k := Nat.two_pow_pos k
  have q : 2 ^ (k + 1) = 2 * 2 ^ k := by rw [Nat.pow_succ]; omega
  have e : N - 1 = 2 ^ (k + 1) * m + (2 ^ k - 1) := by omega
  rw [e, h, Nat.testBit_two_pow_mul_add _ (by omega), Nat.testBit_two_pow_mul_add _ (by omega)]
  by_cases a : j < k
  · rw [if_pos (by omega), if_pos a, Nat.testBit_two_pow_sub_one]; simp [a]
  · rw [if_neg a]
    by_cases b : j = k
    · subst b
      rw [if_pos (by omega), if_pos rfl, Nat.testBit_two_pow_sub_one]; simp
    · rw [if_neg (by omega), if_neg b, if_neg (by omega)]
theorem own_tab (k : Fin 32) : own_ntzY (Int32.ofBitVec (BitVec.ofNat 32 (2 ^ k.1 - 1))) = Int32.ofBitVec (BitVec.ofNat 32 k.1) := by
  revert k; decide +kernel
theorem own_tabI (k : Fin 32) : (Int32.ofBitVec (BitVec.ofNat 32 k.1)).toInt = (k.1 : Int) := by revert k; decide +kernel
theorem own_bitsB (X : BitVec 32) (h : X ≠ 0) : ∃ k, k < 32 ∧ X.getLsbD k = true ∧ (∀ j, j < k → X.getLsbD j = false) ∧ (X ^^^ (-1 : Int32).toBitVec) &&& (X - (1 : Int32).toBitVec) = BitVec.ofNat 32 (2 ^ k - 1) := by
  have ex : ∃ n, X.getLsbD n = true := by
    by_cases q : ∃ n, X.getLsbD n = true
    · exact q
    · exfalso; apply h
      apply BitVec.eq_of_getLsbD_eq
      intro i hi
      cases e : X.getLsbD i with
      | false => simp
      | true => exact absurd ⟨i, e⟩ q
  obtain ⟨n, hn⟩ := ex
  obtain ⟨k, -, k1, k2⟩ := own_min (fun j => X.getLsbD j) n hn
  have kl : k < 32 := by
    by_cases q : k < 32
    · exact q
    · exfalso
      rw [BitVec.getLsbD_of_ge _ _ (by omega)] at k1; cases k1
  refine ⟨k, kl, k1, k2, ?_⟩
  obtain ⟨m, hm⟩ := own_low X.toNat k k1 k2
  have pos : 1 ≤ X.toNat := by
    have : 0 < 2 ^ k := Nat.two_pow_pos k
    omega
  have sub : (X - (1 : Int32).toBitVec).toNat = X.toNat - 1 := by
    have o : (1 : Int32).toBitVec = 1#32 := by decide
    rw [o, BitVec.toNat_sub_of_le (by simp [BitVec.le_def]; exact pos)]
    rfl
  apply BitVec.eq_of_getLsbD_eq
  intro j hj
  have m1 : (-1 : Int32).toBitVec.getLsbD j = true := by
    have : (-1 : Int32).toBitVec = BitVec.allOnes 32 := by decide
    rw [this, BitVec.getLsbD_allOnes]; exact decide_eq_true hj
  rw [BitVec.getLsbD_and, BitVec.getLsbD_xor, m1]
  have s : (X - (1 : Int32).toBitVec).getLsbD j = if j < k then true else if j = k then false else X.getLsbD j := by
    show (X - (1 : Int32).toBitVec).toNat.testBit j = _
    rw [sub, own_pred _ _ _ hm]; rfl
  rw [s, BitVec.getLsbD_ofNat, Nat.testBit_two_pow_sub_one]
  by_cases a : j < k
  · rw [if_pos a, k2 j a]; simp [a, hj]
  · rw [if_neg a]
    by_cases b : j = k
    · subst b; simp
    · rw [if_neg b]
      cases X.getLsbD j <;> simp [a]
theorem own_ntzI_spec (x : Int32) (h : x ≠ 0) : ∃ k : Nat, k < 32 ∧ (own_ntzI x).toInt = (k : Int) ∧ x.toBitVec.getLsbD k = true ∧ ∀ j, j < k → x.toBitVec.getLsbD j = false := by
  obtain ⟨k, a, b, c, d⟩ := own_bitsB x.toBitVec (fun e => h (Int32.toBitVec_inj.mp e))
  refine ⟨k, a, ?_, b, c⟩
  have : ((x ^^^ (-1 : Int32)) &&& (x - (1 : Int32))) = Int32.ofBitVec (BitVec.ofNat 32 (2 ^ k - 1)) := Int32.toBitVec_inj.mp d
  unfold own_ntzI
  rw [this, own_tab ⟨k, a⟩, own_tabI ⟨k, a⟩]
theorem own_ntzL_spec (q : Int64) (h : q ≠ 0) : ∃ k : Nat, k < 64 ∧ (own_ntzL q).toInt = (k : Int) ∧ q.toBitVec.getLsbD k = true ∧ ∀ j, j < k → q.toBitVec.getLsbD j = false := by
  have lo : ∀ j, q.toInt32.toBitVec.getLsbD j = (decide (j < 32) && q.toBitVec.getLsbD j) := fun j => by
    show (q.toBitVec.signExtend 32).getLsbD j = _
    rw [BitVec.getLsbD_signExtend]
    by_cases a : j < 32
    · simp [a]; omega
    · simp [a]
  have hi : ∀ j, (((q.toUInt64 >>> ((32 : Int32) &&& 0x3f).toInt64.toUInt64).toInt64)).toInt32.toBitVec.getLsbD j = (decide (j < 32) && q.toBitVec.getLsbD (32 + j)) := fun j => by
    show ((q.toBitVec >>> (32 : Nat)).signExtend 32).getLsbD j = _
    rw [BitVec.getLsbD_signExtend]
    by_cases a : j < 32
    · simp [a]; omega
    · simp [a]
  unfold own_ntzL
  by_cases z : q.toInt32 = (0 : Int32)
  · rw [if_pos z]
    have l0 : ∀ j, j < 32 → q.toBitVec.getLsbD j = false := fun j hj => by
      have := lo j
      rw [z] at this
      simp [hj] at this
      exact this
    have nz : (((q.toUInt64 >>> ((32 : Int32) &&& 0x3f).toInt64.toUInt64).toInt64)).toInt32 ≠ 0 := fun e => h (by
      apply Int64.toBitVec_inj.mp
      apply BitVec.eq_of_getLsbD_eq
      intro i hi'
      by_cases a : i < 32
      · rw [l0 i a]; simp
      · have := hi (i - 32)
        rw [e] at this
        have e2 : 32 + (i - 32) = i := by omega
        rw [e2] at this
        have a2 : i - 32 < 32 := by omega
        simp [a2] at this
        rw [this]; simp)
    obtain ⟨k, a, b, c, d⟩ := own_ntzI_spec _ nz
    rw [hi k] at c
    refine ⟨32 + k, by omega, ?_, by simpa [a] using c, fun j hj => ?_⟩
    · have := c_iadd (32 : Int32) (own_ntzI (((q.toUInt64 >>> ((32 : Int32) &&& 0x3f).toInt64.toUInt64).toInt64)).toInt32)
      rw [b, show (32 : Int32).toInt = 32 from by decide] at this
      have r := rng32 ((32 : Int32) + own_ntzI (((q.toUInt64 >>> ((32 : Int32) &&& 0x3f).toInt64.toUInt64).toInt64)).toInt32)
      omega
    · by_cases q1 : j < 32
      · exact l0 j q1
      · have := d (j - 32) (by omega)
        rw [hi] at this
        have e2 : 32 + (j - 32) = j := by omega
        rw [e2] at this
        have a2 : j - 32 < 32 := by omega
        simpa [a2] using this
  · rw [if_neg z]
    obtain ⟨k, a, b, c, d⟩ := own_ntzI_spec _ z
    rw [lo k] at c
    refine ⟨k, by omega, b, by simpa [a] using c, fun j hj => ?_⟩
    have := d j hj
    rw [lo j] at this
    have a2 : j < 32 := by omega
    simpa [a2] using this
/-! next's loop -/
def own_inv (f : Nat → Int64) (q w : Int32) (bits : Int64) : Prop := (∀ j, j < 64 → bits.toBitVec.getLsbD j = (own_mem f (64 * w.toNatClampNeg + j) && decide (q.toNatClampNeg ≤ 64 * w.toNatClampNeg + j))) ∧ (∀ i, q.toNatClampNeg ≤ i → i < 64 * w.toNatClampNeg → own_mem f i = false) ∧ q.toNatClampNeg < 64 * w.toNatClampNeg + 64
theorem own_memW (f : Nat → Int64) (w j : Nat) (hj : j < 64) : own_mem f (64 * w + j) = (f w).toBitVec.getLsbD j := by
  unfold own_mem
  have a : (64 * w + j) / 64 = w := by omega
  have b : (64 * w + j) % 64 = j := by omega
  rw [a, b]
theorem own_shl (q : Int32) (h : ¬ q < 0) (j : Nat) (hj : j < 64) : ((-1 : Int64) <<< (q &&& 0x3f).toInt64).toBitVec.getLsbD j = decide (q.toNatClampNeg % 64 ≤ j) := by
  have a := nat_of h
  have hq : q.toBitVec.toNat = q.toNatClampNeg := by
    have r := rng32 q
    have t : q.toBitVec.toInt = q.toInt := rfl
    rw [BitVec.toInt_eq_toNat_cond] at t
    have := q.toBitVec.isLt
    split at t <;> omega
  obtain ⟨s1, s2⟩ := sm64 q (q.toNatClampNeg % 64) (by rw [hq])
  show (((-1 : Int64).toBitVec <<< ((q &&& 0x3f).toInt64.toBitVec.smod 64))).getLsbD j = _
  rw [s1]
  show ((-1 : Int64).toBitVec <<< ((BitVec.ofNat 64 (q.toNatClampNeg % 64)).smod 64).toNat).getLsbD j = _
  rw [smod64 _ s2, BitVec.getLsbD_shiftLeft]
  have : (-1 : Int64).toBitVec = BitVec.allOnes 64 := by decide
  rw [this, BitVec.getLsbD_allOnes]
  generalize q.toNatClampNeg % 64 = k at *
  by_cases l : j < k
  · first | (simp [l]; done) | (simp [l]; omega)
  · have : j - k < 64 := by omega
    first | (simp [l, hj, this]; done) | (simp [l, hj, this]; omega)
theorem own_inv0 (f : Nat → Int64) (q : Int32) (h : ¬ q < 0) : own_inv f q (q / (64 : Int32)) (f (q / (64 : Int32)).toNatClampNeg &&& ((-1 : Int64) <<< (q &&& 0x3f).toInt64)) := by
  obtain ⟨-, -, e3, -⟩ := own_ushr6 h
  refine ⟨fun j hj => ?_, fun i h1 h2 => ?_, ?_⟩
  · show ((f (q / (64 : Int32)).toNatClampNeg).toBitVec &&& ((-1 : Int64) <<< (q &&& 0x3f).toInt64).toBitVec).getLsbD j = _
    rw [BitVec.getLsbD_and, own_shl q h j hj, own_memW _ _ _ hj, e3]
    congr 1
    apply decide_eq_decide.mpr
    omega
  · rw [e3] at h2; omega
  · rw [e3]; omega
theorem own_zero0 (j : Nat) : (0 : Int64).toBitVec.getLsbD j = false := by
  have : (0 : Int64).toBitVec = 0#64 := by decide
  rw [this]; simp
theorem own_invN {f : Nat → Int64} {q w : Int32} (h : own_inv f q w 0) : ∀ i, q.toNatClampNeg ≤ i → i < 64 * (w.toNatClampNeg + 1) → own_mem f i = false := by
  intro i h1 h2
  by_cases a : i < 64 * w.toNatClampNeg
  · exact h.2.1 i h1 a
  · have := h.1 (i - 64 * w.toNatClampNeg) (by omega)
    have e : 64 * w.toNatClampNeg + (i - 64 * w.toNatClampNeg) = i := by omega
    rw [own_zero0, e] at this
    have d : decide (q.toNatClampNeg ≤ i) = true := decide_eq_true h1
    rw [d] at this
    simpa using this.symm
theorem own_w1 {w z : Int32} (hw : ¬ w < 0) (hz : w < z) (h16 : z.toInt ≤ 16) : ¬ (w + (1 : Int32)) < 0 ∧ (w + (1 : Int32)).toNatClampNeg = w.toNatClampNeg + 1 ∧ (¬ (w + (1 : Int32)) = z → (w + (1 : Int32)) < z) ∧ ((w + (1 : Int32)) = z → z.toNatClampNeg = w.toNatClampNeg + 1) := by
  have a := nat_of hw
  have c := c_iadd w 1
  rw [show (1 : Int32).toInt = 1 from by decide] at c
  have r := rng32 (w + 1)
  rw [Int32.lt_iff_toInt_lt] at hz
  have n : ¬ (w + (1 : Int32)) < 0 := by rw [Int32.lt_iff_toInt_lt, show (0 : Int32).toInt = 0 from by decide]; omega
  have b := nat_of n
  refine ⟨n, by omega, fun ne => ?_, fun e => by rw [← e]; omega⟩
  rw [Int32.lt_iff_toInt_lt]
  have : (w + 1).toInt ≠ z.toInt := fun e => ne (Int32.toInt_inj.mp e)
  omega
theorem own_invS {f : Nat → Int64} {q w z : Int32} (hw : ¬ w < 0) (hz : w < z) (h16 : z.toInt ≤ 16) (h : own_inv f q w 0) : own_inv f q (w + (1 : Int32)) (f (w + (1 : Int32)).toNatClampNeg) := by
  obtain ⟨-, e, -⟩ := own_w1 hw hz h16
  have n := own_invN h
  have p := h.2.2
  refine ⟨fun j hj => ?_, fun i h1 h2 => n i h1 (by rw [e] at h2; omega), by rw [e]; omega⟩
  rw [own_memW _ _ _ hj, e]
  have d : decide (q.toNatClampNeg ≤ 64 * (w.toNatClampNeg + 1) + j) = true := decide_eq_true (by omega)
  rw [d]; simp
theorem own_invE {f : Nat → Int64} {q w z : Int32} (hw : ¬ w < 0) (hz : w < z) (h16 : z.toInt ≤ 16) (hf : ∀ i, z.toNatClampNeg ≤ i → f i = 0) (h : own_inv f q w 0) (e : (w + (1 : Int32)) = z) : own_isNext f q (-1 : Int32) := by
  obtain ⟨-, -, -, e2⟩ := own_w1 hw hz h16
  have e3 := e2 e
  refine Or.inl ⟨rfl, fun i h1 => ?_⟩
  by_cases a : i < 64 * (w.toNatClampNeg + 1)
  · exact own_invN h i h1 a
  · unfold own_mem
    rw [hf (i / 64) (by omega), own_zero0]
theorem own_invH {f : Nat → Int64} {q w z : Int32} {bits : Int64} (hw : ¬ w < 0) (hz : w < z) (h16 : z.toInt ≤ 16) (h : own_inv f q w bits) (nz : ¬ bits = (0 : Int64)) : own_isNext f q ((w * (64 : Int32)) + own_ntzL bits) := by
  obtain ⟨k, k1, k2, k3, k4⟩ := own_ntzL_spec bits nz
  have a := nat_of hw
  rw [Int32.lt_iff_toInt_lt] at hz
  have m := c_imul w 64
  rw [show (64 : Int32).toInt = 64 from by decide] at m
  have rm := rng32 (w * 64)
  have s := c_iadd (w * (64 : Int32)) (own_ntzL bits)
  have rs := rng32 ((w * (64 : Int32)) + own_ntzL bits)
  have x1 : (w * 64).toInt = w.toInt * 64 := by omega
  have x2 : ((w * (64 : Int32)) + own_ntzL bits).toInt = w.toInt * 64 + (k : Int) := by omega
  clear m s
  have n : ¬ ((w * (64 : Int32)) + own_ntzL bits) < 0 := by rw [Int32.lt_iff_toInt_lt, show (0 : Int32).toInt = 0 from by decide]; omega
  have b := nat_of n
  have e : ((w * (64 : Int32)) + own_ntzL bits).toNatClampNeg = 64 * w.toNatClampNeg + k := by omega
  rw [h.1 k k1] at k3
  simp only [Bool.and_eq_true, decide_eq_true_eq] at k3
  refine Or.inr ⟨n, by rw [e]; exact k3.2, by rw [e]; exact k3.1, fun i h1 h2 => ?_⟩
  rw [e] at h2
  by_cases c : i < 64 * w.toNatClampNeg
  · exact h.2.1 i h1 c
  · have := k4 (i - 64 * w.toNatClampNeg) (by omega)
    rw [h.1 _ (by omega)] at this
    have e2 : 64 * w.toNatClampNeg + (i - 64 * w.toNatClampNeg) = i := by omega
    rw [e2, decide_eq_true h1] at this
    simpa using this
theorem own_invO {f : Nat → Int64} {q z : Int32} (h : ¬ q < 0) (hz0 : ¬ z < 0) (hf : ∀ i, z.toNatClampNeg ≤ i → f i = 0) (hz : ¬ (q / (64 : Int32)) < z) : own_isNext f q (-1 : Int32) := by
  obtain ⟨e1, e2, e3, -⟩ := own_ushr6 h
  rw [Int32.lt_iff_toInt_lt] at hz
  have a := nat_of e2
  have b := nat_of hz0
  refine Or.inl ⟨rfl, fun i h1 => ?_⟩
  unfold own_mem
  rw [hf (i / 64) (by omega), own_zero0]

def own_mx (a b : Int32) : Int32 := if a < b then b else a
def own_mn (a b : Int32) : Int32 := if b < a then b else a
theorem own_i0 : (0 : Int32).toInt = 0 := by decide
theorem own_n0 : (0 : Int32).toNatClampNeg = 0 := by decide
theorem own_nn {q : Int32} (h : 0 ≤ q.toInt) : ¬ q < 0 := by rw [Int32.lt_iff_toInt_lt, own_i0]; omega
theorem own_nn' {q : Int32} (h : ¬ q < 0) : 0 ≤ q.toInt := by rw [Int32.lt_iff_toInt_lt, own_i0] at h; omega
theorem own_cap {z1 p1 : Int32} (hz1 : ¬ z1 < 0) (hlt : z1 < p1) (hp16 : p1.toInt ≤ 16) : ¬ p1 < 0 ∧ p1.toNatClampNeg ≤ 16 ∧ (0 : Int32).toNatClampNeg + z1.toNatClampNeg ≤ z1.toNatClampNeg ∧ (0 : Int32).toNatClampNeg + z1.toNatClampNeg ≤ p1.toNatClampNeg ∧ (0 : Int32).toNatClampNeg + z1.toNatClampNeg ≤ 16 := by
  rw [Int32.lt_iff_toInt_lt] at hlt
  have a := own_nn' hz1
  have b : ¬ p1 < 0 := own_nn (by omega)
  have c := nat_of hz1
  have d := nat_of b
  rw [own_n0]
  exact ⟨b, by omega, by omega, by omega, by omega⟩
theorem own_mnl {z1 p1 : Int32} (hlt : z1 < p1) : own_mn z1 p1 = z1 := by
  unfold own_mn
  rw [if_neg]
  rw [Int32.lt_iff_toInt_lt] at *; omega
theorem own_ltne {z1 p1 : Int32} (hlt : z1 < p1) : ¬ (p1 = z1) := fun e => by
  rw [e, Int32.lt_iff_toInt_lt] at hlt; omega
theorem own_grow {z1 p1 : Int32} (hz1 : ¬ z1 < 0) (hz8 : z1.toInt ≤ 8) (hzp : 0 < z1.toInt) (hp : ¬ p1 < 0) (hp512 : p1.toInt < 512) (hc : ¬ ((p1 / (64 : Int32)) < z1)) :
    z1 < own_mx ((2 : Int32) * z1) ((p1 / (64 : Int32)) + (1 : Int32)) ∧ (own_mx ((2 : Int32) * z1) ((p1 / (64 : Int32)) + (1 : Int32))).toInt ≤ 16 := by
  obtain ⟨e1, e2, e3, e4⟩ := own_ushr6 hp
  have m := c_imul 2 z1
  rw [show (2 : Int32).toInt = 2 from by decide] at m
  have rm := rng32 ((2 : Int32) * z1)
  have s := c_iadd (p1 / (64 : Int32)) 1
  rw [show (1 : Int32).toInt = 1 from by decide] at s
  have rs := rng32 ((p1 / (64 : Int32)) + (1 : Int32))
  rw [Int32.lt_iff_toInt_lt] at hc
  unfold own_mx
  simp only [Int32.lt_iff_toInt_lt]
  split <;> constructor <;> omega
theorem own_liA {z1 p1 : Int32} (hz1 : ¬ z1 < 0) (hz16 : z1.toInt ≤ 16) (hp : ¬ p1 < 0) (hc : (p1 / (64 : Int32)) < z1) : ¬ (p1 / (64 : Int32)) < 0 ∧ (p1 / (64 : Int32)) < z1 ∧ (p1 / (64 : Int32)).toNatClampNeg < 16 := by
  obtain ⟨e1, e2, e3, e4⟩ := own_ushr6 hp
  refine ⟨e2, hc, ?_⟩
  rw [Int32.lt_iff_toInt_lt] at hc
  have := nat_of e2
  omega
theorem own_liB {z1 p1 : Int32} (hz1 : ¬ z1 < 0) (hz8 : z1.toInt ≤ 8) (hzp : 0 < z1.toInt) (hp : ¬ p1 < 0) (hp512 : p1.toInt < 512) (hc : ¬ ((p1 / (64 : Int32)) < z1)) :
    ¬ (p1 / (64 : Int32)) < 0 ∧ (p1 / (64 : Int32)) < own_mx ((2 : Int32) * z1) ((p1 / (64 : Int32)) + (1 : Int32)) ∧ (p1 / (64 : Int32)).toNatClampNeg < 16 := by
  obtain ⟨e1, e2, e3, e4⟩ := own_ushr6 hp
  have m := c_imul 2 z1
  rw [show (2 : Int32).toInt = 2 from by decide] at m
  have rm := rng32 ((2 : Int32) * z1)
  have s := c_iadd (p1 / (64 : Int32)) 1
  rw [show (1 : Int32).toInt = 1 from by decide] at s
  have rs := rng32 ((p1 / (64 : Int32)) + (1 : Int32))
  have n := nat_of e2
  refine ⟨e2, ?_, by omega⟩
  unfold own_mx
  simp only [Int32.lt_iff_toInt_lt]
  split <;> omega
theorem own_f16 {z1 : Int32} {ff : Nat → Int64} (hfz : ∀ i, z1.toNatClampNeg ≤ i → ff i = 0) (hz16 : z1.toInt ≤ 16) (hz1 : ¬ z1 < 0) : ∀ i, 16 ≤ i → ff i = 0 := fun i hi => hfz i (by have := nat_of hz1; omega)
def own_zok (ff : Nat → Int64) (p1 z1 z2 : Int32) : Prop := (∀ i, z2.toNatClampNeg ≤ i → own_add ff p1 i = 0) ∧ ¬ z2 < 0 ∧ z2.toInt ≤ 16 ∧ (z1.toInt ≤ 1 → z2.toInt ≤ 8) ∧ 0 < z2.toInt
theorem own_zokA {ff : Nat → Int64} {p1 z1 : Int32} (hfz : ∀ i, z1.toNatClampNeg ≤ i → ff i = 0) (hz1 : ¬ z1 < 0) (hz16 : z1.toInt ≤ 16) (hp : ¬ p1 < 0) (hc : (p1 / (64 : Int32)) < z1) : own_zok ff p1 z1 z1 := by
  obtain ⟨e1, e2, e3, e4⟩ := own_ushr6 hp
  rw [Int32.lt_iff_toInt_lt] at hc
  have a := nat_of hz1
  have b := nat_of e2
  refine ⟨fun i hi => ?_, hz1, hz16, by omega, by omega⟩
  unfold own_add own_upd
  rw [if_neg (by omega)]
  exact hfz i hi
theorem own_zokB {ff : Nat → Int64} {p1 z1 : Int32} (hfz : ∀ i, z1.toNatClampNeg ≤ i → ff i = 0) (hz1 : ¬ z1 < 0) (hz8 : z1.toInt ≤ 8) (hzp : 0 < z1.toInt) (hp : ¬ p1 < 0) (hp512 : p1.toInt < 512) (hc : ¬ ((p1 / (64 : Int32)) < z1)) :
    own_zok ff p1 z1 (own_mx ((2 : Int32) * z1) ((p1 / (64 : Int32)) + (1 : Int32))) := by
  obtain ⟨g1, g2⟩ := own_grow hz1 hz8 hzp hp hp512 hc
  obtain ⟨l1, l2, l3⟩ := own_liB hz1 hz8 hzp hp hp512 hc
  obtain ⟨e1, e2, e3, e4⟩ := own_ushr6 hp
  have m := c_imul 2 z1
  rw [show (2 : Int32).toInt = 2 from by decide] at m
  have rm := rng32 ((2 : Int32) * z1)
  have s := c_iadd (p1 / (64 : Int32)) 1
  rw [show (1 : Int32).toInt = 1 from by decide] at s
  have rs := rng32 ((p1 / (64 : Int32)) + (1 : Int32))
  have k : z1.toInt ≤ 1 → (own_mx ((2 : Int32) * z1) ((p1 / (64 : Int32)) + (1 : Int32))).toInt ≤ 8 := by
    intro h
    unfold own_mx
    simp only [Int32.lt_iff_toInt_lt]
    split <;> omega
  generalize own_mx ((2 : Int32) * z1) ((p1 / (64 : Int32)) + (1 : Int32)) = y at *
  rw [Int32.lt_iff_toInt_lt] at g1 l2
  have a := nat_of hz1
  have b := nat_of e2
  have ny : ¬ y < 0 := own_nn (by omega)
  have c := nat_of ny
  refine ⟨fun i hi => ?_, ny, g2, k, by omega⟩
  unfold own_add own_upd
  rw [if_neg (by omega)]
  exact hfz i (by omega)
theorem own_remO {ff : Nat → Int64} {p1 z1 : Int32} (hfz : ∀ i, z1.toNatClampNeg ≤ i → ff i = 0) (hz1 : ¬ z1 < 0) (hz16 : z1.toInt ≤ 16) (hp : ¬ p1 < 0) (hc : ¬ ((p1 / (64 : Int32)) < z1)) (i : Nat) : (own_L (own_rem ff p1)).getD i (.long (0 : Int64)) = (own_L ff).getD i (.long (0 : Int64)) := by
  have e : own_rem ff p1 = ff := by
    obtain ⟨e1, e2, e3, e4⟩ := own_ushr6 hp
    rw [Int32.lt_iff_toInt_lt] at hc
    have a := nat_of hz1
    have b := nat_of e2
    funext i
    unfold own_rem own_upd
    by_cases q : i = (p1 / (64 : Int32)).toNatClampNeg
    · rw [if_pos q, q, hfz _ (by omega)]
      apply Int64.toBitVec_inj.mp
      show (0 : Int64).toBitVec &&& _ = _
      rw [show (0 : Int64).toBitVec = 0#64 from by decide]
      simp
    · rw [if_neg q]
  rw [e]
theorem own_notz {w z : Int32} (hw : ¬ w < 0) (hz : w < z) (hz1 : ¬ z < 0) : ¬ (z.toNatClampNeg ≤ w.toNatClampNeg + 0) := by
  have a := nat_of hw
  have b := nat_of hz1
  rw [Int32.lt_iff_toInt_lt] at hz
  omega
theorem own_511 (q : Int32) : ¬ (q &&& (511 : Int32)) < 0 ∧ (q &&& (511 : Int32)).toInt < 512 := by
  have h := c_mask q 511 9 (by decide) (by decide)
  simp only [show ((2 ^ 9 : Nat) : Int) = 512 from by decide] at h
  exact ⟨own_nn (by omega), by omega⟩
theorem own_r1 (q : Int32) : ¬ (((q.toUInt32 >>> ((2 : Int32) &&& 31).toUInt32).toInt32) &&& (511 : Int32)) < 0 := (own_511 _).1
theorem own_r2 (q : Int32) : ¬ ((q.toUInt32 >>> ((2 : Int32) &&& 31).toUInt32).toInt32) < 0 := by
  have h := c_iushr q 2 2 (by decide) (by decide)
  simp only [show ((2 ^ 2 : Nat) : Int) = 4 from by decide] at h
  exact own_nn (by omega)
theorem own_remz {ff : Nat → Int64} {z r : Int32} (h : ∀ i, z.toNatClampNeg ≤ i → ff i = 0) (hr : ¬ r < 0) : ∀ i, z.toNatClampNeg ≤ i → own_rem ff r i = 0 := fun i hi => by
  unfold own_rem own_upd
  by_cases q : i = (r / (64 : Int32)).toNatClampNeg
  · rw [if_pos q, ← q, h i hi]
    apply Int64.toBitVec_inj.mp
    show (0 : Int64).toBitVec &&& _ = _
    rw [show (0 : Int64).toBitVec = 0#64 from by decide]
    simp
  · rw [if_neg q]; exact h i hi
theorem own_memz (i : Nat) : own_mem own_z i = false := own_zero0 _
theorem own_fin {pa pb rr ia ib fr r : Int32} (hA : ¬ pa < 0) (hB : ¬ pb < 0) (hr : ¬ rr < 0) (ha : own_ne pa rr = ia) (hb : own_ne pb rr = ib) (hfr : ¬ fr < 0) (hv : own_isNext (own_rem (own_add (own_add own_z pa) pb) rr) fr r) : r = own_least fr pa ia pb ib := by
  subst ha hb
  refine own_final hfr hA hB hr (fun i => ?_) hv
  rw [own_mem_rem hr, own_mem_add hB, own_mem_add hA, own_memz]
  simp

theorem own_max_ef (m : MethodId) (x0 : Int32) (x1 : Int32) : entryFrame m #[(.int x0), (.int x1)] 2 = mkF m 0 #[.val (.int x0), .val (.int x1)] [] := by first | (simp [entryFrame, mkF, argsToLocals, Value.category]; done) | rfl
def own_max_Q (Z : State) (p1 : Int32) (p2 : Int32) (h0 : Heap) (n0 : Nat) (v : Option Value) (h : Heap) (L : List Loc) : Prop := (v = some (.int (own_mx p1 p2)) ∧ Fr n0 L ∧ h = h0)
set_option maxRecDepth 65536 in
set_option maxHeartbeats 40000000 in
theorem own_max (l : Launch) (Z : State) (a0 : Array Value) (hw : ∀ d ∈ tables_1, d.before a0 Z = true) (ws : List Jvm.Cond) (p1 : Int32) (p2 : Int32) (h0 : Heap) (n0 : Nat) (Z0 : n0 ≤ h0.size)  :
    MetFree l (⟨"java/lang/Math", "max", "(II)I"⟩ : MethodName) (head1 (Jvm.Cond.code (⟨"java/lang/Math", "max", "(II)I"⟩ : MethodName) jdk_29_method_65_code 2 (some .int) :: ws) ({ frames := 0, cells := 0, slots := 0, locals := 0 } : Room)) (fun a U => a = #[(.int p1), (.int p2)] ∧ Z.Warmed39 U.vm ∧ U.heap = h0) (fun _ _ _ _ _ => True) (fun _ U o U' => ∃ v L, o = .returned v ∧ own_max_Q Z p1 p2 h0 n0 v U'.heap L ∧ FrameEnd U o U' L ({ frames := 0, cells := 0, slots := 0, locals := 0 } : Room).cells ({ frames := 0, cells := 0, slots := 0, locals := 0 } : Room).slots) := by
  refine MetFree.of_bodySF (Jvm.Free.JP.mathPlain rfl (by decide +kernel)) hisR ?_
  intro p e s m args below meth c s₁ Bd hml0 hP hK
  obtain ⟨rfl, hZ, hh⟩ := hP
  have hx := Bd.exec
  have hby := Bd.bytes
  have hlk : meth.locks = false := BodyLoose.notSynchronized Bd
  have hml : c.maxLocals = 2 := hml0
  have hown : s.vm.findClass "java/lang/Math" = some m.cls := findClass_of_methodNamed Bd.named
  have hnm := (name_of_methodNamed Bd.named Bd.method).1
  have X0 : Stand p l e ({ frames := 0, cells := 0, slots := 0, locals := 0 } : Room) s m #[(.int p1), (.int p2)] below meth c s₁ [] 0 0 := Stand.of_body Bd
  have e0 : s₁.heap = h0 := by rw [← hh, Bd.state]; rfl
  have N0 := Fr.nil n0
  refine own_start (QQ := own_max_Q Z p1 p2 h0 n0) (rc := ({ frames := 0, cells := 0, slots := 0, locals := 0 } : Room).cells) (rs := ({ frames := 0, cells := 0, slots := 0, locals := 0 } : Room).slots) (own_max_ef m p1 p2 ) ?_
  show own_G p.tables e below _ (s₁.setTop (mkF m 0 #[.val (.int p1), .val (.int p2)] []))
  refine own_fs (XS.iloadN X0.here hx rfl (hb hby own_d10_0) rfl (Steps.refl _)) ?_
  show own_G p.tables e below _ (s₁.setTop (mkF m 1 #[.val (.int p1), .val (.int p2)] [(.int p1)]))
  refine own_fs (XS.iloadN X0.here hx rfl (hb hby own_d10_1) rfl (Steps.refl _)) ?_
  show own_G p.tables e below _ (s₁.setTop (mkF m 2 #[.val (.int p1), .val (.int p2)] [(.int p2), (.int p1)]))
  by_cases hc2 : p1 < p2
  · refine own_fs (XS.icmpYes X0.here hx rfl (pc0 := 2) (pc' := 9) rfl (hb hby own_d10_2) rfl (XT.ii_lt_t hc2) (by decide) (by decide) (Steps.refl _)) ?_
    show own_G p.tables e below _ (s₁.setTop (mkF m 9 #[.val (.int p1), .val (.int p2)] []))
    refine own_fs (XS.iloadN X0.here hx rfl (hb hby own_d10_9) rfl (Steps.refl _)) ?_
    show own_G p.tables e below _ (s₁.setTop (mkF m 10 #[.val (.int p1), .val (.int p2)] [(.int p2)]))
    exact own_retI X0 hx Bd.returns hlk (hb hby own_d10_10) (by decide) (by decide) e0 ⟨(by simp only [own_mx, if_pos hc2]), N0, rfl⟩
  · refine own_fs (XS.icmpNo X0.here hx rfl (hb hby own_d10_2) rfl (XT.ii_lt_f hc2) (Steps.refl _)) ?_
    show own_G p.tables e below _ (s₁.setTop (mkF m 5 #[.val (.int p1), .val (.int p2)] []))
    refine own_fs (XS.iloadN X0.here hx rfl (hb hby own_d10_5) rfl (Steps.refl _)) ?_
    show own_G p.tables e below _ (s₁.setTop (mkF m 6 #[.val (.int p1), .val (.int p2)] [(.int p1)]))
    refine own_fs (XS.goto X0.here hx rfl (pc0 := 6) (pc' := 10) rfl (hb hby own_d10_6) (by decide) (by decide) (Steps.refl _)) ?_
    show own_G p.tables e below _ (s₁.setTop (mkF m 10 #[.val (.int p1), .val (.int p2)] [(.int p1)]))
    exact own_retI X0 hx Bd.returns hlk (hb hby own_d10_10) (by decide) (by decide) e0 ⟨(by simp only [own_mx, if_neg hc2]), N0, rfl⟩
theorem own_min2_ef (m : MethodId) (x0 : Int32) (x1 : Int32) : entryFrame m #[(.int x0), (.int x1)] 2 = mkF m 0 #[.val (.int x0), .val (.int x1)] [] := by first | (simp [entryFrame, mkF, argsToLocals, Value.category]; done) | rfl
def own_min2_Q (Z : State) (p1 : Int32) (p2 : Int32) (h0 : Heap) (n0 : Nat) (v : Option Value) (h : Heap) (L : List Loc) : Prop := (v = some (.int (own_mn p1 p2)) ∧ Fr n0 L ∧ h = h0)
set_option maxRecDepth 65536 in
set_option maxHeartbeats 40000000 in
theorem own_min2 (l : Launch) (Z : State) (a0 : Array Value) (hw : ∀ d ∈ tables_1, d.before a0 Z = true) (ws : List Jvm.Cond) (p1 : Int32) (p2 : Int32) (h0 : Heap) (n0 : Nat) (Z0 : n0 ≤ h0.size)  :
    MetFree l (⟨"java/lang/Math", "min", "(II)I"⟩ : MethodName) (head1 (Jvm.Cond.code (⟨"java/lang/Math", "min", "(II)I"⟩ : MethodName) jdk_29_method_69_code 2 (some .int) :: ws) ({ frames := 0, cells := 0, slots := 0, locals := 0 } : Room)) (fun a U => a = #[(.int p1), (.int p2)] ∧ Z.Warmed39 U.vm ∧ U.heap = h0) (fun _ _ _ _ _ => True) (fun _ U o U' => ∃ v L, o = .returned v ∧ own_min2_Q Z p1 p2 h0 n0 v U'.heap L ∧ FrameEnd U o U' L ({ frames := 0, cells := 0, slots := 0, locals := 0 } : Room).cells ({ frames := 0, cells := 0, slots := 0, locals := 0 } : Room).slots) := by
  refine MetFree.of_bodySF (Jvm.Free.JP.mathPlain rfl (by decide +kernel)) hisR ?_
  intro p e s m args below meth c s₁ Bd hml0 hP hK
  obtain ⟨rfl, hZ, hh⟩ := hP
  have hx := Bd.exec
  have hby := Bd.bytes
  have hlk : meth.locks = false := BodyLoose.notSynchronized Bd
  have hml : c.maxLocals = 2 := hml0
  have hown : s.vm.findClass "java/lang/Math" = some m.cls := findClass_of_methodNamed Bd.named
  have hnm := (name_of_methodNamed Bd.named Bd.method).1
  have X0 : Stand p l e ({ frames := 0, cells := 0, slots := 0, locals := 0 } : Room) s m #[(.int p1), (.int p2)] below meth c s₁ [] 0 0 := Stand.of_body Bd
  have e0 : s₁.heap = h0 := by rw [← hh, Bd.state]; rfl
  have N0 := Fr.nil n0
  refine own_start (QQ := own_min2_Q Z p1 p2 h0 n0) (rc := ({ frames := 0, cells := 0, slots := 0, locals := 0 } : Room).cells) (rs := ({ frames := 0, cells := 0, slots := 0, locals := 0 } : Room).slots) (own_min2_ef m p1 p2 ) ?_
  show own_G p.tables e below _ (s₁.setTop (mkF m 0 #[.val (.int p1), .val (.int p2)] []))
  refine own_fs (XS.iloadN X0.here hx rfl (hb hby own_d4_0) rfl (Steps.refl _)) ?_
  show own_G p.tables e below _ (s₁.setTop (mkF m 1 #[.val (.int p1), .val (.int p2)] [(.int p1)]))
  refine own_fs (XS.iloadN X0.here hx rfl (hb hby own_d4_1) rfl (Steps.refl _)) ?_
  show own_G p.tables e below _ (s₁.setTop (mkF m 2 #[.val (.int p1), .val (.int p2)] [(.int p2), (.int p1)]))
  by_cases hc2 : p2 < p1
  · refine own_fs (XS.icmpYes X0.here hx rfl (pc0 := 2) (pc' := 9) rfl (hb hby own_d4_2) rfl (XT.ii_gt_t hc2) (by decide) (by decide) (Steps.refl _)) ?_
    show own_G p.tables e below _ (s₁.setTop (mkF m 9 #[.val (.int p1), .val (.int p2)] []))
    refine own_fs (XS.iloadN X0.here hx rfl (hb hby own_d4_9) rfl (Steps.refl _)) ?_
    show own_G p.tables e below _ (s₁.setTop (mkF m 10 #[.val (.int p1), .val (.int p2)] [(.int p2)]))
    exact own_retI X0 hx Bd.returns hlk (hb hby own_d4_10) (by decide) (by decide) e0 ⟨(by simp only [own_mn, if_pos hc2]), N0, rfl⟩
  · refine own_fs (XS.icmpNo X0.here hx rfl (hb hby own_d4_2) rfl (XT.ii_gt_f hc2) (Steps.refl _)) ?_
    show own_G p.tables e below _ (s₁.setTop (mkF m 5 #[.val (.int p1), .val (.int p2)] []))
    refine own_fs (XS.iloadN X0.here hx rfl (hb hby own_d4_5) rfl (Steps.refl _)) ?_
    show own_G p.tables e below _ (s₁.setTop (mkF m 6 #[.val (.int p1), .val (.int p2)] [(.int p1)]))
    refine own_fs (XS.goto X0.here hx rfl (pc0 := 6) (pc' := 10) rfl (hb hby own_d4_6) (by decide) (by decide) (Steps.refl _)) ?_
    show own_G p.tables e below _ (s₁.setTop (mkF m 10 #[.val (.int p1), .val (.int p2)] [(.int p1)]))
    exact own_retI X0 hx Bd.returns hlk (hb hby own_d4_10) (by decide) (by decide) e0 ⟨(by simp only [own_mn, if_neg hc2]), N0, rfl⟩
theorem own_rntzI_ef (m : MethodId) (x0 : Int32) : entryFrame m #[(.int x0)] 2 = mkF m 0 #[.val (.int x0), .unset] [] := by first | (simp [entryFrame, mkF, argsToLocals, Value.category]; done) | rfl
def own_rntzI_Q (Z : State) (p1 : Int32) (h0 : Heap) (n0 : Nat) (v : Option Value) (h : Heap) (L : List Loc) : Prop := (v = some (.int (own_ntzI p1)) ∧ Fr n0 L ∧ h = h0)
set_option maxRecDepth 65536 in
set_option maxHeartbeats 40000000 in
theorem own_rntzI (l : Launch) (Z : State) (a0 : Array Value) (hw : ∀ d ∈ tables_1, d.before a0 Z = true) (ws : List Jvm.Cond) (p1 : Int32) (h0 : Heap) (n0 : Nat) (Z0 : n0 ≤ h0.size)  :
    MetFree l (⟨"java/lang/Integer", "numberOfTrailingZeros", "(I)I"⟩ : MethodName) (head1 (Jvm.Cond.code (⟨"java/lang/Integer", "numberOfTrailingZeros", "(I)I"⟩ : MethodName) jdk_33_method_48_code 2 (some .int) :: ws) ({ frames := 0, cells := 0, slots := 0, locals := 0 } : Room)) (fun a U => a = #[(.int p1)] ∧ Z.Warmed39 U.vm ∧ U.heap = h0) (fun _ _ _ _ _ => True) (fun _ U o U' => ∃ v L, o = .returned v ∧ own_rntzI_Q Z p1 h0 n0 v U'.heap L ∧ FrameEnd U o U' L ({ frames := 0, cells := 0, slots := 0, locals := 0 } : Room).cells ({ frames := 0, cells := 0, slots := 0, locals := 0 } : Room).slots) := by
  refine MetFree.of_bodySF (plainFor_of_name own_pn0) hisR ?_
  intro p e s m args below meth c s₁ Bd hml0 hP hK
  obtain ⟨rfl, hZ, hh⟩ := hP
  have hx := Bd.exec
  have hby := Bd.bytes
  have hlk : meth.locks = false := BodyLoose.notSynchronized Bd
  have hml : c.maxLocals = 2 := hml0
  have hown : s.vm.findClass "java/lang/Integer" = some m.cls := findClass_of_methodNamed Bd.named
  have hnm := (name_of_methodNamed Bd.named Bd.method).1
  have X0 : Stand p l e ({ frames := 0, cells := 0, slots := 0, locals := 0 } : Room) s m #[(.int p1)] below meth c s₁ [] 0 0 := Stand.of_body Bd
  have e0 : s₁.heap = h0 := by rw [← hh, Bd.state]; rfl
  have N0 := Fr.nil n0
  refine own_start (QQ := own_rntzI_Q Z p1 h0 n0) (rc := ({ frames := 0, cells := 0, slots := 0, locals := 0 } : Room).cells) (rs := ({ frames := 0, cells := 0, slots := 0, locals := 0 } : Room).slots) (own_rntzI_ef m p1 ) ?_
  show own_G p.tables e below _ (s₁.setTop (mkF m 0 #[.val (.int p1), .unset] []))
  refine own_fs (XS.iloadN X0.here hx rfl (hb hby own_d8_0) rfl (Steps.refl _)) ?_
  show own_G p.tables e below _ (s₁.setTop (mkF m 1 #[.val (.int p1), .unset] [(.int p1)]))
  refine own_fs (XS.iconst X0.here hx rfl (hb hby own_d8_1) (Steps.refl _)) ?_
  show own_G p.tables e below _ (s₁.setTop (mkF m 2 #[.val (.int p1), .unset] [(.int (-1 : Int32)), (.int p1)]))
  refine own_fs (XS.ixor X0.here hx rfl (hb hby own_d8_2) rfl (Steps.refl _)) ?_
  show own_G p.tables e below _ (s₁.setTop (mkF m 3 #[.val (.int p1), .unset] [(.int (p1 ^^^ (-1 : Int32)))]))
  refine own_fs (XS.iloadN X0.here hx rfl (hb hby own_d8_3) rfl (Steps.refl _)) ?_
  show own_G p.tables e below _ (s₁.setTop (mkF m 4 #[.val (.int p1), .unset] [(.int p1), (.int (p1 ^^^ (-1 : Int32)))]))
  refine own_fs (XS.iconst X0.here hx rfl (hb hby own_d8_4) (Steps.refl _)) ?_
  show own_G p.tables e below _ (s₁.setTop (mkF m 5 #[.val (.int p1), .unset] [(.int (1 : Int32)), (.int p1), (.int (p1 ^^^ (-1 : Int32)))]))
  refine own_fs (XS.isub X0.here hx rfl (hb hby own_d8_5) rfl (Steps.refl _)) ?_
  show own_G p.tables e below _ (s₁.setTop (mkF m 6 #[.val (.int p1), .unset] [(.int (p1 - (1 : Int32))), (.int (p1 ^^^ (-1 : Int32)))]))
  refine own_fs (XS.iand X0.here hx rfl (hb hby own_d8_6) rfl (Steps.refl _)) ?_
  show own_G p.tables e below _ (s₁.setTop (mkF m 7 #[.val (.int p1), .unset] [(.int ((p1 ^^^ (-1 : Int32)) &&& (p1 - (1 : Int32))))]))
  refine own_fs (XS.istoreN X0.here hx rfl (hb hby own_d8_7) rfl (l' := #[.val (.int ((p1 ^^^ (-1 : Int32)) &&& (p1 - (1 : Int32)))), .unset]) rfl (Steps.refl _)) ?_
  show own_G p.tables e below _ (s₁.setTop (mkF m 8 #[.val (.int ((p1 ^^^ (-1 : Int32)) &&& (p1 - (1 : Int32)))), .unset] []))
  generalize hg_y0 : ((p1 ^^^ (-1 : Int32)) &&& (p1 - (1 : Int32))) = y0
  show own_G p.tables e below _ (s₁.setTop (mkF m 8 #[.val (.int y0), .unset] []))
  refine own_fs (XS.iloadN X0.here hx rfl (hb hby own_d8_8) rfl (Steps.refl _)) ?_
  show own_G p.tables e below _ (s₁.setTop (mkF m 9 #[.val (.int y0), .unset] [(.int y0)]))
  by_cases hc9 : (0 : Int32) < y0
  · refine own_fs (XS.ifYes X0.here hx rfl (pc0 := 9) (pc' := 17) rfl (hb hby own_d8_9) rfl (XT.i0_gt_t hc9) (by decide) (by decide) (Steps.refl _)) ?_
    show own_G p.tables e below _ (s₁.setTop (mkF m 17 #[.val (.int y0), .unset] []))
    refine own_fs (XS.iconst X0.here hx rfl (hb hby own_d8_17) (Steps.refl _)) ?_
    show own_G p.tables e below _ (s₁.setTop (mkF m 18 #[.val (.int y0), .unset] [(.int (1 : Int32))]))
    refine own_fs (XS.istoreN X0.here hx rfl (hb hby own_d8_18) rfl (l' := #[.val (.int y0), .val (.int (1 : Int32))]) rfl (Steps.refl _)) ?_
    show own_G p.tables e below _ (s₁.setTop (mkF m 19 #[.val (.int y0), .val (.int (1 : Int32))] []))
    refine own_fs (XS.iloadN X0.here hx rfl (hb hby own_d8_19) rfl (Steps.refl _)) ?_
    show own_G p.tables e below _ (s₁.setTop (mkF m 20 #[.val (.int y0), .val (.int (1 : Int32))] [(.int y0)]))
    refine own_fs (X0.ldcwInt hx hown (mvT hZ (hw _ (List.mem_of_getElem? (i := 42) rfl))) (g := (mkF m 20 #[.val (.int y0), .val (.int (1 : Int32))] [(.int y0)])) rfl (hb hby own_d8_20) _ (Steps.refl _)) ?_
    show own_G p.tables e below _ (s₁.setTop (mkF m 23 #[.val (.int y0), .val (.int (1 : Int32))] [(.int (65536 : Int32)), (.int y0)]))
    by_cases hc23 : (65536 : Int32) < y0
    · refine own_fs (XS.icmpNo X0.here hx rfl (hb hby own_d8_23) rfl (XT.ii_le_f hc23) (Steps.refl _)) ?_
      show own_G p.tables e below _ (s₁.setTop (mkF m 26 #[.val (.int y0), .val (.int (1 : Int32))] []))
      refine own_fs (XS.iinc X0.here hx rfl (hb hby own_d8_26) rfl (l' := #[.val (.int y0), .val (.int ((1 : Int32) + (16 : Int32)))]) rfl (Steps.refl _)) ?_
      show own_G p.tables e below _ (s₁.setTop (mkF m 29 #[.val (.int y0), .val (.int ((1 : Int32) + (16 : Int32)))] []))
      refine own_fs (XS.iloadN X0.here hx rfl (hb hby own_d8_29) rfl (Steps.refl _)) ?_
      show own_G p.tables e below _ (s₁.setTop (mkF m 30 #[.val (.int y0), .val (.int ((1 : Int32) + (16 : Int32)))] [(.int y0)]))
      refine own_fs (XS.bipush X0.here hx rfl (hb hby own_d8_30) (Steps.refl _)) ?_
      show own_G p.tables e below _ (s₁.setTop (mkF m 32 #[.val (.int y0), .val (.int ((1 : Int32) + (16 : Int32)))] [(.int (16 : Int32)), (.int y0)]))
      refine own_fs (XS.iushr X0.here hx rfl (hb hby own_d8_32) rfl (Steps.refl _)) ?_
      show own_G p.tables e below _ (s₁.setTop (mkF m 33 #[.val (.int y0), .val (.int ((1 : Int32) + (16 : Int32)))] [(.int ((y0.toUInt32 >>> ((16 : Int32) &&& 31).toUInt32).toInt32))]))
      refine own_fs (XS.istoreN X0.here hx rfl (hb hby own_d8_33) rfl (l' := #[.val (.int ((y0.toUInt32 >>> ((16 : Int32) &&& 31).toUInt32).toInt32)), .val (.int ((1 : Int32) + (16 : Int32)))]) rfl (Steps.refl _)) ?_
      show own_G p.tables e below _ (s₁.setTop (mkF m 34 #[.val (.int ((y0.toUInt32 >>> ((16 : Int32) &&& 31).toUInt32).toInt32)), .val (.int ((1 : Int32) + (16 : Int32)))] []))
      refine own_fs (XS.iloadN X0.here hx rfl (hb hby own_d8_34) rfl (Steps.refl _)) ?_
      show own_G p.tables e below _ (s₁.setTop (mkF m 35 #[.val (.int ((y0.toUInt32 >>> ((16 : Int32) &&& 31).toUInt32).toInt32)), .val (.int ((1 : Int32) + (16 : Int32)))] [(.int ((y0.toUInt32 >>> ((16 : Int32) &&& 31).toUInt32).toInt32))]))
      refine own_fs (XS.sipush X0.here hx rfl (hb hby own_d8_35) (Steps.refl _)) ?_
      show own_G p.tables e below _ (s₁.setTop (mkF m 38 #[.val (.int ((y0.toUInt32 >>> ((16 : Int32) &&& 31).toUInt32).toInt32)), .val (.int ((1 : Int32) + (16 : Int32)))] [(.int (256 : Int32)), (.int ((y0.toUInt32 >>> ((16 : Int32) &&& 31).toUInt32).toInt32))]))
      by_cases hc38 : (256 : Int32) < ((y0.toUInt32 >>> ((16 : Int32) &&& 31).toUInt32).toInt32)
      · refine own_fs (XS.icmpNo X0.here hx rfl (hb hby own_d8_38) rfl (XT.ii_le_f hc38) (Steps.refl _)) ?_
        show own_G p.tables e below _ (s₁.setTop (mkF m 41 #[.val (.int ((y0.toUInt32 >>> ((16 : Int32) &&& 31).toUInt32).toInt32)), .val (.int ((1 : Int32) + (16 : Int32)))] []))
        refine own_fs (XS.iinc X0.here hx rfl (hb hby own_d8_41) rfl (l' := #[.val (.int ((y0.toUInt32 >>> ((16 : Int32) &&& 31).toUInt32).toInt32)), .val (.int (((1 : Int32) + (16 : Int32)) + (8 : Int32)))]) rfl (Steps.refl _)) ?_
        show own_G p.tables e below _ (s₁.setTop (mkF m 44 #[.val (.int ((y0.toUInt32 >>> ((16 : Int32) &&& 31).toUInt32).toInt32)), .val (.int (((1 : Int32) + (16 : Int32)) + (8 : Int32)))] []))
        refine own_fs (XS.iloadN X0.here hx rfl (hb hby own_d8_44) rfl (Steps.refl _)) ?_
        show own_G p.tables e below _ (s₁.setTop (mkF m 45 #[.val (.int ((y0.toUInt32 >>> ((16 : Int32) &&& 31).toUInt32).toInt32)), .val (.int (((1 : Int32) + (16 : Int32)) + (8 : Int32)))] [(.int ((y0.toUInt32 >>> ((16 : Int32) &&& 31).toUInt32).toInt32))]))
        refine own_fs (XS.bipush X0.here hx rfl (hb hby own_d8_45) (Steps.refl _)) ?_
        show own_G p.tables e below _ (s₁.setTop (mkF m 47 #[.val (.int ((y0.toUInt32 >>> ((16 : Int32) &&& 31).toUInt32).toInt32)), .val (.int (((1 : Int32) + (16 : Int32)) + (8 : Int32)))] [(.int (8 : Int32)), (.int ((y0.toUInt32 >>> ((16 : Int32) &&& 31).toUInt32).toInt32))]))
        refine own_fs (XS.iushr X0.here hx rfl (hb hby own_d8_47) rfl (Steps.refl _)) ?_
        show own_G p.tables e below _ (s₁.setTop (mkF m 48 #[.val (.int ((y0.toUInt32 >>> ((16 : Int32) &&& 31).toUInt32).toInt32)), .val (.int (((1 : Int32) + (16 : Int32)) + (8 : Int32)))] [(.int ((((y0.toUInt32 >>> ((16 : Int32) &&& 31).toUInt32).toInt32).toUInt32 >>> ((8 : Int32) &&& 31).toUInt32).toInt32))]))
        refine own_fs (XS.istoreN X0.here hx rfl (hb hby own_d8_48) rfl (l' := #[.val (.int ((((y0.toUInt32 >>> ((16 : Int32) &&& 31).toUInt32).toInt32).toUInt32 >>> ((8 : Int32) &&& 31).toUInt32).toInt32)), .val (.int (((1 : Int32) + (16 : Int32)) + (8 : Int32)))]) rfl (Steps.refl _)) ?_
        show own_G p.tables e below _ (s₁.setTop (mkF m 49 #[.val (.int ((((y0.toUInt32 >>> ((16 : Int32) &&& 31).toUInt32).toInt32).toUInt32 >>> ((8 : Int32) &&& 31).toUInt32).toInt32)), .val (.int (((1 : Int32) + (16 : Int32)) + (8 : Int32)))] []))
        refine own_fs (XS.iloadN X0.here hx rfl (hb hby own_d8_49) rfl (Steps.refl _)) ?_
        show own_G p.tables e below _ (s₁.setTop (mkF m 50 #[.val (.int ((((y0.toUInt32 >>> ((16 : Int32) &&& 31).toUInt32).toInt32).toUInt32 >>> ((8 : Int32) &&& 31).toUInt32).toInt32)), .val (.int (((1 : Int32) + (16 : Int32)) + (8 : Int32)))] [(.int ((((y0.toUInt32 >>> ((16 : Int32) &&& 31).toUInt32).toInt32).toUInt32 >>> ((8 : Int32) &&& 31).toUInt32).toInt32))]))
        refine own_fs (XS.bipush X0.here hx rfl (hb hby own_d8_50) (Steps.refl _)) ?_
        show own_G p.tables e below _ (s₁.setTop (mkF m 52 #[.val (.int ((((y0.toUInt32 >>> ((16 : Int32) &&& 31).toUInt32).toInt32).toUInt32 >>> ((8 : Int32) &&& 31).toUInt32).toInt32)), .val (.int (((1 : Int32) + (16 : Int32)) + (8 : Int32)))] [(.int (16 : Int32)), (.int ((((y0.toUInt32 >>> ((16 : Int32) &&& 31).toUInt32).toInt32).toUInt32 >>> ((8 : Int32) &&& 31).toUInt32).toInt32))]))
        by_cases hc52 : (16 : Int32) < ((((y0.toUInt32 >>> ((16 : Int32) &&& 31).toUInt32).toInt32).toUInt32 >>> ((8 : Int32) &&& 31).toUInt32).toInt32)
        · refine own_fs (XS.icmpNo X0.here hx rfl (hb hby own_d8_52) rfl (XT.ii_le_f hc52) (Steps.refl _)) ?_
          show own_G p.tables e below _ (s₁.setTop (mkF m 55 #[.val (.int ((((y0.toUInt32 >>> ((16 : Int32) &&& 31).toUInt32).toInt32).toUInt32 >>> ((8 : Int32) &&& 31).toUInt32).toInt32)), .val (.int (((1 : Int32) + (16 : Int32)) + (8 : Int32)))] []))
          refine own_fs (XS.iinc X0.here hx rfl (hb hby own_d8_55) rfl (l' := #[.val (.int ((((y0.toUInt32 >>> ((16 : Int32) &&& 31).toUInt32).toInt32).toUInt32 >>> ((8 : Int32) &&& 31).toUInt32).toInt32)), .val (.int ((((1 : Int32) + (16 : Int32)) + (8 : Int32)) + (4 : Int32)))]) rfl (Steps.refl _)) ?_
          show own_G p.tables e below _ (s₁.setTop (mkF m 58 #[.val (.int ((((y0.toUInt32 >>> ((16 : Int32) &&& 31).toUInt32).toInt32).toUInt32 >>> ((8 : Int32) &&& 31).toUInt32).toInt32)), .val (.int ((((1 : Int32) + (16 : Int32)) + (8 : Int32)) + (4 : Int32)))] []))
          refine own_fs (XS.iloadN X0.here hx rfl (hb hby own_d8_58) rfl (Steps.refl _)) ?_
          show own_G p.tables e below _ (s₁.setTop (mkF m 59 #[.val (.int ((((y0.toUInt32 >>> ((16 : Int32) &&& 31).toUInt32).toInt32).toUInt32 >>> ((8 : Int32) &&& 31).toUInt32).toInt32)), .val (.int ((((1 : Int32) + (16 : Int32)) + (8 : Int32)) + (4 : Int32)))] [(.int ((((y0.toUInt32 >>> ((16 : Int32) &&& 31).toUInt32).toInt32).toUInt32 >>> ((8 : Int32) &&& 31).toUInt32).toInt32))]))
          refine own_fs (XS.iconst X0.here hx rfl (hb hby own_d8_59) (Steps.refl _)) ?_
          show own_G p.tables e below _ (s₁.setTop (mkF m 60 #[.val (.int ((((y0.toUInt32 >>> ((16 : Int32) &&& 31).toUInt32).toInt32).toUInt32 >>> ((8 : Int32) &&& 31).toUInt32).toInt32)), .val (.int ((((1 : Int32) + (16 : Int32)) + (8 : Int32)) + (4 : Int32)))] [(.int (4 : Int32)), (.int ((((y0.toUInt32 >>> ((16 : Int32) &&& 31).toUInt32).toInt32).toUInt32 >>> ((8 : Int32) &&& 31).toUInt32).toInt32))]))
          refine own_fs (XS.iushr X0.here hx rfl (hb hby own_d8_60) rfl (Steps.refl _)) ?_
          show own_G p.tables e below _ (s₁.setTop (mkF m 61 #[.val (.int ((((y0.toUInt32 >>> ((16 : Int32) &&& 31).toUInt32).toInt32).toUInt32 >>> ((8 : Int32) &&& 31).toUInt32).toInt32)), .val (.int ((((1 : Int32) + (16 : Int32)) + (8 : Int32)) + (4 : Int32)))] [(.int ((((((y0.toUInt32 >>> ((16 : Int32) &&& 31).toUInt32).toInt32).toUInt32 >>> ((8 : Int32) &&& 31).toUInt32).toInt32).toUInt32 >>> ((4 : Int32) &&& 31).toUInt32).toInt32))]))
          refine own_fs (XS.istoreN X0.here hx rfl (hb hby own_d8_61) rfl (l' := #[.val (.int ((((((y0.toUInt32 >>> ((16 : Int32) &&& 31).toUInt32).toInt32).toUInt32 >>> ((8 : Int32) &&& 31).toUInt32).toInt32).toUInt32 >>> ((4 : Int32) &&& 31).toUInt32).toInt32)), .val (.int ((((1 : Int32) + (16 : Int32)) + (8 : Int32)) + (4 : Int32)))]) rfl (Steps.refl _)) ?_
          show own_G p.tables e below _ (s₁.setTop (mkF m 62 #[.val (.int ((((((y0.toUInt32 >>> ((16 : Int32) &&& 31).toUInt32).toInt32).toUInt32 >>> ((8 : Int32) &&& 31).toUInt32).toInt32).toUInt32 >>> ((4 : Int32) &&& 31).toUInt32).toInt32)), .val (.int ((((1 : Int32) + (16 : Int32)) + (8 : Int32)) + (4 : Int32)))] []))
          refine own_fs (XS.iloadN X0.here hx rfl (hb hby own_d8_62) rfl (Steps.refl _)) ?_
          show own_G p.tables e below _ (s₁.setTop (mkF m 63 #[.val (.int ((((((y0.toUInt32 >>> ((16 : Int32) &&& 31).toUInt32).toInt32).toUInt32 >>> ((8 : Int32) &&& 31).toUInt32).toInt32).toUInt32 >>> ((4 : Int32) &&& 31).toUInt32).toInt32)), .val (.int ((((1 : Int32) + (16 : Int32)) + (8 : Int32)) + (4 : Int32)))] [(.int ((((((y0.toUInt32 >>> ((16 : Int32) &&& 31).toUInt32).toInt32).toUInt32 >>> ((8 : Int32) &&& 31).toUInt32).toInt32).toUInt32 >>> ((4 : Int32) &&& 31).toUInt32).toInt32))]))
          refine own_fs (XS.iconst X0.here hx rfl (hb hby own_d8_63) (Steps.refl _)) ?_
          show own_G p.tables e below _ (s₁.setTop (mkF m 64 #[.val (.int ((((((y0.toUInt32 >>> ((16 : Int32) &&& 31).toUInt32).toInt32).toUInt32 >>> ((8 : Int32) &&& 31).toUInt32).toInt32).toUInt32 >>> ((4 : Int32) &&& 31).toUInt32).toInt32)), .val (.int ((((1 : Int32) + (16 : Int32)) + (8 : Int32)) + (4 : Int32)))] [(.int (4 : Int32)), (.int ((((((y0.toUInt32 >>> ((16 : Int32) &&& 31).toUInt32).toInt32).toUInt32 >>> ((8 : Int32) &&& 31).toUInt32).toInt32).toUInt32 >>> ((4 : Int32) &&& 31).toUInt32).toInt32))]))
          by_cases hc64 : (4 : Int32) < ((((((y0.toUInt32 >>> ((16 : Int32) &&& 31).toUInt32).toInt32).toUInt32 >>> ((8 : Int32) &&& 31).toUInt32).toInt32).toUInt32 >>> ((4 : Int32) &&& 31).toUInt32).toInt32)
          · refine own_fs (XS.icmpNo X0.here hx rfl (hb hby own_d8_64) rfl (XT.ii_le_f hc64) (Steps.refl _)) ?_
            show own_G p.tables e below _ (s₁.setTop (mkF m 67 #[.val (.int ((((((y0.toUInt32 >>> ((16 : Int32) &&& 31).toUInt32).toInt32).toUInt32 >>> ((8 : Int32) &&& 31).toUInt32).toInt32).toUInt32 >>> ((4 : Int32) &&& 31).toUInt32).toInt32)), .val (.int ((((1 : Int32) + (16 : Int32)) + (8 : Int32)) + (4 : Int32)))] []))
            refine own_fs (XS.iinc X0.here hx rfl (hb hby own_d8_67) rfl (l' := #[.val (.int ((((((y0.toUInt32 >>> ((16 : Int32) &&& 31).toUInt32).toInt32).toUInt32 >>> ((8 : Int32) &&& 31).toUInt32).toInt32).toUInt32 >>> ((4 : Int32) &&& 31).toUInt32).toInt32)), .val (.int (((((1 : Int32) + (16 : Int32)) + (8 : Int32)) + (4 : Int32)) + (2 : Int32)))]) rfl (Steps.refl _)) ?_
            show own_G p.tables e below _ (s₁.setTop (mkF m 70 #[.val (.int ((((((y0.toUInt32 >>> ((16 : Int32) &&& 31).toUInt32).toInt32).toUInt32 >>> ((8 : Int32) &&& 31).toUInt32).toInt32).toUInt32 >>> ((4 : Int32) &&& 31).toUInt32).toInt32)), .val (.int (((((1 : Int32) + (16 : Int32)) + (8 : Int32)) + (4 : Int32)) + (2 : Int32)))] []))
            refine own_fs (XS.iloadN X0.here hx rfl (hb hby own_d8_70) rfl (Steps.refl _)) ?_
            show own_G p.tables e below _ (s₁.setTop (mkF m 71 #[.val (.int ((((((y0.toUInt32 >>> ((16 : Int32) &&& 31).toUInt32).toInt32).toUInt32 >>> ((8 : Int32) &&& 31).toUInt32).toInt32).toUInt32 >>> ((4 : Int32) &&& 31).toUInt32).toInt32)), .val (.int (((((1 : Int32) + (16 : Int32)) + (8 : Int32)) + (4 : Int32)) + (2 : Int32)))] [(.int ((((((y0.toUInt32 >>> ((16 : Int32) &&& 31).toUInt32).toInt32).toUInt32 >>> ((8 : Int32) &&& 31).toUInt32).toInt32).toUInt32 >>> ((4 : Int32) &&& 31).toUInt32).toInt32))]))
            refine own_fs (XS.iconst X0.here hx rfl (hb hby own_d8_71) (Steps.refl _)) ?_
            show own_G p.tables e below _ (s₁.setTop (mkF m 72 #[.val (.int ((((((y0.toUInt32 >>> ((16 : Int32) &&& 31).toUInt32).toInt32).toUInt32 >>> ((8 : Int32) &&& 31).toUInt32).toInt32).toUInt32 >>> ((4 : Int32) &&& 31).toUInt32).toInt32)), .val (.int (((((1 : Int32) + (16 : Int32)) + (8 : Int32)) + (4 : Int32)) + (2 : Int32)))] [(.int (2 : Int32)), (.int ((((((y0.toUInt32 >>> ((16 : Int32) &&& 31).toUInt32).toInt32).toUInt32 >>> ((8 : Int32) &&& 31).toUInt32).toInt32).toUInt32 >>> ((4 : Int32) &&& 31).toUInt32).toInt32))]))
            refine own_fs (XS.iushr X0.here hx rfl (hb hby own_d8_72) rfl (Steps.refl _)) ?_
            show own_G p.tables e below _ (s₁.setTop (mkF m 73 #[.val (.int ((((((y0.toUInt32 >>> ((16 : Int32) &&& 31).toUInt32).toInt32).toUInt32 >>> ((8 : Int32) &&& 31).toUInt32).toInt32).toUInt32 >>> ((4 : Int32) &&& 31).toUInt32).toInt32)), .val (.int (((((1 : Int32) + (16 : Int32)) + (8 : Int32)) + (4 : Int32)) + (2 : Int32)))] [(.int ((((((((y0.toUInt32 >>> ((16 : Int32) &&& 31).toUInt32).toInt32).toUInt32 >>> ((8 : Int32) &&& 31).toUInt32).toInt32).toUInt32 >>> ((4 : Int32) &&& 31).toUInt32).toInt32).toUInt32 >>> ((2 : Int32) &&& 31).toUInt32).toInt32))]))
            refine own_fs (XS.istoreN X0.here hx rfl (hb hby own_d8_73) rfl (l' := #[.val (.int ((((((((y0.toUInt32 >>> ((16 : Int32) &&& 31).toUInt32).toInt32).toUInt32 >>> ((8 : Int32) &&& 31).toUInt32).toInt32).toUInt32 >>> ((4 : Int32) &&& 31).toUInt32).toInt32).toUInt32 >>> ((2 : Int32) &&& 31).toUInt32).toInt32)), .val (.int (((((1 : Int32) + (16 : Int32)) + (8 : Int32)) + (4 : Int32)) + (2 : Int32)))]) rfl (Steps.refl _)) ?_
            show own_G p.tables e below _ (s₁.setTop (mkF m 74 #[.val (.int ((((((((y0.toUInt32 >>> ((16 : Int32) &&& 31).toUInt32).toInt32).toUInt32 >>> ((8 : Int32) &&& 31).toUInt32).toInt32).toUInt32 >>> ((4 : Int32) &&& 31).toUInt32).toInt32).toUInt32 >>> ((2 : Int32) &&& 31).toUInt32).toInt32)), .val (.int (((((1 : Int32) + (16 : Int32)) + (8 : Int32)) + (4 : Int32)) + (2 : Int32)))] []))
            refine own_fs (XS.iloadN X0.here hx rfl (hb hby own_d8_74) rfl (Steps.refl _)) ?_
            show own_G p.tables e below _ (s₁.setTop (mkF m 75 #[.val (.int ((((((((y0.toUInt32 >>> ((16 : Int32) &&& 31).toUInt32).toInt32).toUInt32 >>> ((8 : Int32) &&& 31).toUInt32).toInt32).toUInt32 >>> ((4 : Int32) &&& 31).toUInt32).toInt32).toUInt32 >>> ((2 : Int32) &&& 31).toUInt32).toInt32)), .val (.int (((((1 : Int32) + (16 : Int32)) + (8 : Int32)) + (4 : Int32)) + (2 : Int32)))] [(.int (((((1 : Int32) + (16 : Int32)) + (8 : Int32)) + (4 : Int32)) + (2 : Int32)))]))
            refine own_fs (XS.iloadN X0.here hx rfl (hb hby own_d8_75) rfl (Steps.refl _)) ?_
            show own_G p.tables e below _ (s₁.setTop (mkF m 76 #[.val (.int ((((((((y0.toUInt32 >>> ((16 : Int32) &&& 31).toUInt32).toInt32).toUInt32 >>> ((8 : Int32) &&& 31).toUInt32).toInt32).toUInt32 >>> ((4 : Int32) &&& 31).toUInt32).toInt32).toUInt32 >>> ((2 : Int32) &&& 31).toUInt32).toInt32)), .val (.int (((((1 : Int32) + (16 : Int32)) + (8 : Int32)) + (4 : Int32)) + (2 : Int32)))] [(.int ((((((((y0.toUInt32 >>> ((16 : Int32) &&& 31).toUInt32).toInt32).toUInt32 >>> ((8 : Int32) &&& 31).toUInt32).toInt32).toUInt32 >>> ((4 : Int32) &&& 31).toUInt32).toInt32).toUInt32 >>> ((2 : Int32) &&& 31).toUInt32).toInt32)), (.int (((((1 : Int32) + (16 : Int32)) + (8 : Int32)) + (4 : Int32)) + (2 : Int32)))]))
            refine own_fs (XS.iconst X0.here hx rfl (hb hby own_d8_76) (Steps.refl _)) ?_
            show own_G p.tables e below _ (s₁.setTop (mkF m 77 #[.val (.int ((((((((y0.toUInt32 >>> ((16 : Int32) &&& 31).toUInt32).toInt32).toUInt32 >>> ((8 : Int32) &&& 31).toUInt32).toInt32).toUInt32 >>> ((4 : Int32) &&& 31).toUInt32).toInt32).toUInt32 >>> ((2 : Int32) &&& 31).toUInt32).toInt32)), .val (.int (((((1 : Int32) + (16 : Int32)) + (8 : Int32)) + (4 : Int32)) + (2 : Int32)))] [(.int (1 : Int32)), (.int ((((((((y0.toUInt32 >>> ((16 : Int32) &&& 31).toUInt32).toInt32).toUInt32 >>> ((8 : Int32) &&& 31).toUInt32).toInt32).toUInt32 >>> ((4 : Int32) &&& 31).toUInt32).toInt32).toUInt32 >>> ((2 : Int32) &&& 31).toUInt32).toInt32)), (.int (((((1 : Int32) + (16 : Int32)) + (8 : Int32)) + (4 : Int32)) + (2 : Int32)))]))
            refine own_fs (XS.iushr X0.here hx rfl (hb hby own_d8_77) rfl (Steps.refl _)) ?_
            show own_G p.tables e below _ (s₁.setTop (mkF m 78 #[.val (.int ((((((((y0.toUInt32 >>> ((16 : Int32) &&& 31).toUInt32).toInt32).toUInt32 >>> ((8 : Int32) &&& 31).toUInt32).toInt32).toUInt32 >>> ((4 : Int32) &&& 31).toUInt32).toInt32).toUInt32 >>> ((2 : Int32) &&& 31).toUInt32).toInt32)), .val (.int (((((1 : Int32) + (16 : Int32)) + (8 : Int32)) + (4 : Int32)) + (2 : Int32)))] [(.int ((((((((((y0.toUInt32 >>> ((16 : Int32) &&& 31).toUInt32).toInt32).toUInt32 >>> ((8 : Int32) &&& 31).toUInt32).toInt32).toUInt32 >>> ((4 : Int32) &&& 31).toUInt32).toInt32).toUInt32 >>> ((2 : Int32) &&& 31).toUInt32).toInt32).toUInt32 >>> ((1 : Int32) &&& 31).toUInt32).toInt32)), (.int (((((1 : Int32) + (16 : Int32)) + (8 : Int32)) + (4 : Int32)) + (2 : Int32)))]))
            refine own_fs (XS.iadd X0.here hx rfl (hb hby own_d8_78) rfl (Steps.refl _)) ?_
            show own_G p.tables e below _ (s₁.setTop (mkF m 79 #[.val (.int ((((((((y0.toUInt32 >>> ((16 : Int32) &&& 31).toUInt32).toInt32).toUInt32 >>> ((8 : Int32) &&& 31).toUInt32).toInt32).toUInt32 >>> ((4 : Int32) &&& 31).toUInt32).toInt32).toUInt32 >>> ((2 : Int32) &&& 31).toUInt32).toInt32)), .val (.int (((((1 : Int32) + (16 : Int32)) + (8 : Int32)) + (4 : Int32)) + (2 : Int32)))] [(.int ((((((1 : Int32) + (16 : Int32)) + (8 : Int32)) + (4 : Int32)) + (2 : Int32)) + ((((((((((y0.toUInt32 >>> ((16 : Int32) &&& 31).toUInt32).toInt32).toUInt32 >>> ((8 : Int32) &&& 31).toUInt32).toInt32).toUInt32 >>> ((4 : Int32) &&& 31).toUInt32).toInt32).toUInt32 >>> ((2 : Int32) &&& 31).toUInt32).toInt32).toUInt32 >>> ((1 : Int32) &&& 31).toUInt32).toInt32)))]))
            exact own_retI X0 hx Bd.returns hlk (hb hby own_d8_79) (by decide) (by decide) e0 ⟨(by simp only [own_ntzI, own_ntzY, own_s16, own_s8, own_s4, own_s2, own_s1, hg_y0, hc23, hc38, hc52, hc64, hc9, ↓reduceIte]), N0, rfl⟩
          · refine own_fs (XS.icmpYes X0.here hx rfl (pc0 := 64) (pc' := 74) rfl (hb hby own_d8_64) rfl (XT.ii_le_t hc64) (by decide) (by decide) (Steps.refl _)) ?_
            show own_G p.tables e below _ (s₁.setTop (mkF m 74 #[.val (.int ((((((y0.toUInt32 >>> ((16 : Int32) &&& 31).toUInt32).toInt32).toUInt32 >>> ((8 : Int32) &&& 31).toUInt32).toInt32).toUInt32 >>> ((4 : Int32) &&& 31).toUInt32).toInt32)), .val (.int ((((1 : Int32) + (16 : Int32)) + (8 : Int32)) + (4 : Int32)))] []))
            refine own_fs (XS.iloadN X0.here hx rfl (hb hby own_d8_74) rfl (Steps.refl _)) ?_
            show own_G p.tables e below _ (s₁.setTop (mkF m 75 #[.val (.int ((((((y0.toUInt32 >>> ((16 : Int32) &&& 31).toUInt32).toInt32).toUInt32 >>> ((8 : Int32) &&& 31).toUInt32).toInt32).toUInt32 >>> ((4 : Int32) &&& 31).toUInt32).toInt32)), .val (.int ((((1 : Int32) + (16 : Int32)) + (8 : Int32)) + (4 : Int32)))] [(.int ((((1 : Int32) + (16 : Int32)) + (8 : Int32)) + (4 : Int32)))]))
            refine own_fs (XS.iloadN X0.here hx rfl (hb hby own_d8_75) rfl (Steps.refl _)) ?_
            show own_G p.tables e below _ (s₁.setTop (mkF m 76 #[.val (.int ((((((y0.toUInt32 >>> ((16 : Int32) &&& 31).toUInt32).toInt32).toUInt32 >>> ((8 : Int32) &&& 31).toUInt32).toInt32).toUInt32 >>> ((4 : Int32) &&& 31).toUInt32).toInt32)), .val (.int ((((1 : Int32) + (16 : Int32)) + (8 : Int32)) + (4 : Int32)))] [(.int ((((((y0.toUInt32 >>> ((16 : Int32) &&& 31).toUInt32).toInt32).toUInt32 >>> ((8 : Int32) &&& 31).toUInt32).toInt32).toUInt32 >>> ((4 : Int32) &&& 31).toUInt32).toInt32)), (.int ((((1 : Int32) + (16 : Int32)) + (8 : Int32)) + (4 : Int32)))]))
            refine own_fs (XS.iconst X0.here hx rfl (hb hby own_d8_76) (Steps.refl _)) ?_
            show own_G p.tables e below _ (s₁.setTop (mkF m 77 #[.val (.int ((((((y0.toUInt32 >>> ((16 : Int32) &&& 31).toUInt32).toInt32).toUInt32 >>> ((8 : Int32) &&& 31).toUInt32).toInt32).toUInt32 >>> ((4 : Int32) &&& 31).toUInt32).toInt32)), .val (.int ((((1 : Int32) + (16 : Int32)) + (8 : Int32)) + (4 : Int32)))] [(.int (1 : Int32)), (.int ((((((y0.toUInt32 >>> ((16 : Int32) &&& 31).toUInt32).toInt32).toUInt32 >>> ((8 : Int32) &&& 31).toUInt32).toInt32).toUInt32 >>> ((4 : Int32) &&& 31).toUInt32).toInt32)), (.int ((((1 : Int32) + (16 : Int32)) + (8 : Int32)) + (4 : Int32)))]))
            refine own_fs (XS.iushr X0.here hx rfl (hb hby own_d8_77) rfl (Steps.refl _)) ?_
            show own_G p.tables e below _ (s₁.setTop (mkF m 78 #[.val (.int ((((((y0.toUInt32 >>> ((16 : Int32) &&& 31).toUInt32).toInt32).toUInt32 >>> ((8 : Int32) &&& 31).toUInt32).toInt32).toUInt32 >>> ((4 : Int32) &&& 31).toUInt32).toInt32)), .val (.int ((((1 : Int32) + (16 : Int32)) + (8 : Int32)) + (4 : Int32)))] [(.int ((((((((y0.toUInt32 >>> ((16 : Int32) &&& 31).toUInt32).toInt32).toUInt32 >>> ((8 : Int32) &&& 31).toUInt32).toInt32).toUInt32 >>> ((4 : Int32) &&& 31).toUInt32).toInt32).toUInt32 >>> ((1 : Int32) &&& 31).toUInt32).toInt32)), (.int ((((1 : Int32) + (16 : Int32)) + (8 : Int32)) + (4 : Int32)))]))
            refine own_fs (XS.iadd X0.here hx rfl (hb hby own_d8_78) rfl (Steps.refl _)) ?_
            show own_G p.tables e below _ (s₁.setTop (mkF m 79 #[.val (.int ((((((y0.toUInt32 >>> ((16 : Int32) &&& 31).toUInt32).toInt32).toUInt32 >>> ((8 : Int32) &&& 31).toUInt32).toInt32).toUInt32 >>> ((4 : Int32) &&& 31).toUInt32).toInt32)), .val (.int ((((1 : Int32) + (16 : Int32)) + (8 : Int32)) + (4 : Int32)))] [(.int (((((1 : Int32) + (16 : Int32)) + (8 : Int32)) + (4 : Int32)) + ((((((((y0.toUInt32 >>> ((16 : Int32) &&& 31).toUInt32).toInt32).toUInt32 >>> ((8 : Int32) &&& 31).toUInt32).toInt32).toUInt32 >>> ((4 : Int32) &&& 31).toUInt32).toInt32).toUInt32 >>> ((1 : Int32) &&& 31).toUInt32).toInt32)))]))
            exact own_retI X0 hx Bd.returns hlk (hb hby own_d8_79) (by decide) (by decide) e0 ⟨(by simp only [own_ntzI, own_ntzY, own_s16, own_s8, own_s4, own_s2, own_s1, hg_y0, hc23, hc38, hc52, hc64, hc9, ↓reduceIte]), N0, rfl⟩
        · refine own_fs (XS.icmpYes X0.here hx rfl (pc0 := 52) (pc' := 62) rfl (hb hby own_d8_52) rfl (XT.ii_le_t hc52) (by decide) (by decide) (Steps.refl _)) ?_
          show own_G p.tables e below _ (s₁.setTop (mkF m 62 #[.val (.int ((((y0.toUInt32 >>> ((16 : Int32) &&& 31).toUInt32).toInt32).toUInt32 >>> ((8 : Int32) &&& 31).toUInt32).toInt32)), .val (.int (((1 : Int32) + (16 : Int32)) + (8 : Int32)))] []))
          refine own_fs (XS.iloadN X0.here hx rfl (hb hby own_d8_62) rfl (Steps.refl _)) ?_
          show own_G p.tables e below _ (s₁.setTop (mkF m 63 #[.val (.int ((((y0.toUInt32 >>> ((16 : Int32) &&& 31).toUInt32).toInt32).toUInt32 >>> ((8 : Int32) &&& 31).toUInt32).toInt32)), .val (.int (((1 : Int32) + (16 : Int32)) + (8 : Int32)))] [(.int ((((y0.toUInt32 >>> ((16 : Int32) &&& 31).toUInt32).toInt32).toUInt32 >>> ((8 : Int32) &&& 31).toUInt32).toInt32))]))
          refine own_fs (XS.iconst X0.here hx rfl (hb hby own_d8_63) (Steps.refl _)) ?_
          show own_G p.tables e below _ (s₁.setTop (mkF m 64 #[.val (.int ((((y0.toUInt32 >>> ((16 : Int32) &&& 31).toUInt32).toInt32).toUInt32 >>> ((8 : Int32) &&& 31).toUInt32).toInt32)), .val (.int (((1 : Int32) + (16 : Int32)) + (8 : Int32)))] [(.int (4 : Int32)), (.int ((((y0.toUInt32 >>> ((16 : Int32) &&& 31).toUInt32).toInt32).toUInt32 >>> ((8 : Int32) &&& 31).toUInt32).toInt32))]))
          by_cases hc64 : (4 : Int32) < ((((y0.toUInt32 >>> ((16 : Int32) &&& 31).toUInt32).toInt32).toUInt32 >>> ((8 : Int32) &&& 31).toUInt32).toInt32)
          · refine own_fs (XS.icmpNo X0.here hx rfl (hb hby own_d8_64) rfl (XT.ii_le_f hc64) (Steps.refl _)) ?_
            show own_G p.tables e below _ (s₁.setTop (mkF m 67 #[.val (.int ((((y0.toUInt32 >>> ((16 : Int32) &&& 31).toUInt32).toInt32).toUInt32 >>> ((8 : Int32) &&& 31).toUInt32).toInt32)), .val (.int (((1 : Int32) + (16 : Int32)) + (8 : Int32)))] []))
            refine own_fs (XS.iinc X0.here hx rfl (hb hby own_d8_67) rfl (l' := #[.val (.int ((((y0.toUInt32 >>> ((16 : Int32) &&& 31).toUInt32).toInt32).toUInt32 >>> ((8 : Int32) &&& 31).toUInt32).toInt32)), .val (.int ((((1 : Int32) + (16 : Int32)) + (8 : Int32)) + (2 : Int32)))]) rfl (Steps.refl _)) ?_
            show own_G p.tables e below _ (s₁.setTop (mkF m 70 #[.val (.int ((((y0.toUInt32 >>> ((16 : Int32) &&& 31).toUInt32).toInt32).toUInt32 >>> ((8 : Int32) &&& 31).toUInt32).toInt32)), .val (.int ((((1 : Int32) + (16 : Int32)) + (8 : Int32)) + (2 : Int32)))] []))
            refine own_fs (XS.iloadN X0.here hx rfl (hb hby own_d8_70) rfl (Steps.refl _)) ?_
            show own_G p.tables e below _ (s₁.setTop (mkF m 71 #[.val (.int ((((y0.toUInt32 >>> ((16 : Int32) &&& 31).toUInt32).toInt32).toUInt32 >>> ((8 : Int32) &&& 31).toUInt32).toInt32)), .val (.int ((((1 : Int32) + (16 : Int32)) + (8 : Int32)) + (2 : Int32)))] [(.int ((((y0.toUInt32 >>> ((16 : Int32) &&& 31).toUInt32).toInt32).toUInt32 >>> ((8 : Int32) &&& 31).toUInt32).toInt32))]))
            refine own_fs (XS.iconst X0.here hx rfl (hb hby own_d8_71) (Steps.refl _)) ?_
            show own_G p.tables e below _ (s₁.setTop (mkF m 72 #[.val (.int ((((y0.toUInt32 >>> ((16 : Int32) &&& 31).toUInt32).toInt32).toUInt32 >>> ((8 : Int32) &&& 31).toUInt32).toInt32)), .val (.int ((((1 : Int32) + (16 : Int32)) + (8 : Int32)) + (2 : Int32)))] [(.int (2 : Int32)), (.int ((((y0.toUInt32 >>> ((16 : Int32) &&& 31).toUInt32).toInt32).toUInt32 >>> ((8 : Int32) &&& 31).toUInt32).toInt32))]))
            refine own_fs (XS.iushr X0.here hx rfl (hb hby own_d8_72) rfl (Steps.refl _)) ?_
            show own_G p.tables e below _ (s₁.setTop (mkF m 73 #[.val (.int ((((y0.toUInt32 >>> ((16 : Int32) &&& 31).toUInt32).toInt32).toUInt32 >>> ((8 : Int32) &&& 31).toUInt32).toInt32)), .val (.int ((((1 : Int32) + (16 : Int32)) + (8 : Int32)) + (2 : Int32)))] [(.int ((((((y0.toUInt32 >>> ((16 : Int32) &&& 31).toUInt32).toInt32).toUInt32 >>> ((8 : Int32) &&& 31).toUInt32).toInt32).toUInt32 >>> ((2 : Int32) &&& 31).toUInt32).toInt32))]))
            refine own_fs (XS.istoreN X0.here hx rfl (hb hby own_d8_73) rfl (l' := #[.val (.int ((((((y0.toUInt32 >>> ((16 : Int32) &&& 31).toUInt32).toInt32).toUInt32 >>> ((8 : Int32) &&& 31).toUInt32).toInt32).toUInt32 >>> ((2 : Int32) &&& 31).toUInt32).toInt32)), .val (.int ((((1 : Int32) + (16 : Int32)) + (8 : Int32)) + (2 : Int32)))]) rfl (Steps.refl _)) ?_
            show own_G p.tables e below _ (s₁.setTop (mkF m 74 #[.val (.int ((((((y0.toUInt32 >>> ((16 : Int32) &&& 31).toUInt32).toInt32).toUInt32 >>> ((8 : Int32) &&& 31).toUInt32).toInt32).toUInt32 >>> ((2 : Int32) &&& 31).toUInt32).toInt32)), .val (.int ((((1 : Int32) + (16 : Int32)) + (8 : Int32)) + (2 : Int32)))] []))
            refine own_fs (XS.iloadN X0.here hx rfl (hb hby own_d8_74) rfl (Steps.refl _)) ?_
            show own_G p.tables e below _ (s₁.setTop (mkF m 75 #[.val (.int ((((((y0.toUInt32 >>> ((16 : Int32) &&& 31).toUInt32).toInt32).toUInt32 >>> ((8 : Int32) &&& 31).toUInt32).toInt32).toUInt32 >>> ((2 : Int32) &&& 31).toUInt32).toInt32)), .val (.int ((((1 : Int32) + (16 : Int32)) + (8 : Int32)) + (2 : Int32)))] [(.int ((((1 : Int32) + (16 : Int32)) + (8 : Int32)) + (2 : Int32)))]))
            refine own_fs (XS.iloadN X0.here hx rfl (hb hby own_d8_75) rfl (Steps.refl _)) ?_
            show own_G p.tables e below _ (s₁.setTop (mkF m 76 #[.val (.int ((((((y0.toUInt32 >>> ((16 : Int32) &&& 31).toUInt32).toInt32).toUInt32 >>> ((8 : Int32) &&& 31).toUInt32).toInt32).toUInt32 >>> ((2 : Int32) &&& 31).toUInt32).toInt32)), .val (.int ((((1 : Int32) + (16 : Int32)) + (8 : Int32)) + (2 : Int32)))] [(.int ((((((y0.toUInt32 >>> ((16 : Int32) &&& 31).toUInt32).toInt32).toUInt32 >>> ((8 : Int32) &&& 31).toUInt32).toInt32).toUInt32 >>> ((2 : Int32) &&& 31).toUInt32).toInt32)), (.int ((((1 : Int32) + (16 : Int32)) + (8 : Int32)) + (2 : Int32)))]))
            refine own_fs (XS.iconst X0.here hx rfl (hb hby own_d8_76) (Steps.refl _)) ?_
            show own_G p.tables e below _ (s₁.setTop (mkF m 77 #[.val (.int ((((((y0.toUInt32 >>> ((16 : Int32) &&& 31).toUInt32).toInt32).toUInt32 >>> ((8 : Int32) &&& 31).toUInt32).toInt32).toUInt32 >>> ((2 : Int32) &&& 31).toUInt32).toInt32)), .val (.int ((((1 : Int32) + (16 : Int32)) + (8 : Int32)) + (2 : Int32)))] [(.int (1 : Int32)), (.int ((((((y0.toUInt32 >>> ((16 : Int32) &&& 31).toUInt32).toInt32).toUInt32 >>> ((8 : Int32) &&& 31).toUInt32).toInt32).toUInt32 >>> ((2 : Int32) &&& 31).toUInt32).toInt32)), (.int ((((1 : Int32) + (16 : Int32)) + (8 : Int32)) + (2 : Int32)))]))
            refine own_fs (XS.iushr X0.here hx rfl (hb hby own_d8_77) rfl (Steps.refl _)) ?_
            show own_G p.tables e below _ (s₁.setTop (mkF m 78 #[.val (.int ((((((y0.toUInt32 >>> ((16 : Int32) &&& 31).toUInt32).toInt32).toUInt32 >>> ((8 : Int32) &&& 31).toUInt32).toInt32).toUInt32 >>> ((2 : Int32) &&& 31).toUInt32).toInt32)), .val (.int ((((1 : Int32) + (16 : Int32)) + (8 : Int32)) + (2 : Int32)))] [(.int ((((((((y0.toUInt32 >>> ((16 : Int32) &&& 31).toUInt32).toInt32).toUInt32 >>> ((8 : Int32) &&& 31).toUInt32).toInt32).toUInt32 >>> ((2 : Int32) &&& 31).toUInt32).toInt32).toUInt32 >>> ((1 : Int32) &&& 31).toUInt32).toInt32)), (.int ((((1 : Int32) + (16 : Int32)) + (8 : Int32)) + (2 : Int32)))]))
            refine own_fs (XS.iadd X0.here hx rfl (hb hby own_d8_78) rfl (Steps.refl _)) ?_
            show own_G p.tables e below _ (s₁.setTop (mkF m 79 #[.val (.int ((((((y0.toUInt32 >>> ((16 : Int32) &&& 31).toUInt32).toInt32).toUInt32 >>> ((8 : Int32) &&& 31).toUInt32).toInt32).toUInt32 >>> ((2 : Int32) &&& 31).toUInt32).toInt32)), .val (.int ((((1 : Int32) + (16 : Int32)) + (8 : Int32)) + (2 : Int32)))] [(.int (((((1 : Int32) + (16 : Int32)) + (8 : Int32)) + (2 : Int32)) + ((((((((y0.toUInt32 >>> ((16 : Int32) &&& 31).toUInt32).toInt32).toUInt32 >>> ((8 : Int32) &&& 31).toUInt32).toInt32).toUInt32 >>> ((2 : Int32) &&& 31).toUInt32).toInt32).toUInt32 >>> ((1 : Int32) &&& 31).toUInt32).toInt32)))]))
            exact own_retI X0 hx Bd.returns hlk (hb hby own_d8_79) (by decide) (by decide) e0 ⟨(by simp only [own_ntzI, own_ntzY, own_s16, own_s8, own_s4, own_s2, own_s1, hg_y0, hc23, hc38, hc52, hc64, hc9, ↓reduceIte]), N0, rfl⟩
          · refine own_fs (XS.icmpYes X0.here hx rfl (pc0 := 64) (pc' := 74) rfl (hb hby own_d8_64) rfl (XT.ii_le_t hc64) (by decide) (by decide) (Steps.refl _)) ?_
            show own_G p.tables e below _ (s₁.setTop (mkF m 74 #[.val (.int ((((y0.toUInt32 >>> ((16 : Int32) &&& 31).toUInt32).toInt32).toUInt32 >>> ((8 : Int32) &&& 31).toUInt32).toInt32)), .val (.int (((1 : Int32) + (16 : Int32)) + (8 : Int32)))] []))
            refine own_fs (XS.iloadN X0.here hx rfl (hb hby own_d8_74) rfl (Steps.refl _)) ?_
            show own_G p.tables e below _ (s₁.setTop (mkF m 75 #[.val (.int ((((y0.toUInt32 >>> ((16 : Int32) &&& 31).toUInt32).toInt32).toUInt32 >>> ((8 : Int32) &&& 31).toUInt32).toInt32)), .val (.int (((1 : Int32) + (16 : Int32)) + (8 : Int32)))] [(.int (((1 : Int32) + (16 : Int32)) + (8 : Int32)))]))
            refine own_fs (XS.iloadN X0.here hx rfl (hb hby own_d8_75) rfl (Steps.refl _)) ?_
            show own_G p.tables e below _ (s₁.setTop (mkF m 76 #[.val (.int ((((y0.toUInt32 >>> ((16 : Int32) &&& 31).toUInt32).toInt32).toUInt32 >>> ((8 : Int32) &&& 31).toUInt32).toInt32)), .val (.int (((1 : Int32) + (16 : Int32)) + (8 : Int32)))] [(.int ((((y0.toUInt32 >>> ((16 : Int32) &&& 31).toUInt32).toInt32).toUInt32 >>> ((8 : Int32) &&& 31).toUInt32).toInt32)), (.int (((1 : Int32) + (16 : Int32)) + (8 : Int32)))]))
            refine own_fs (XS.iconst X0.here hx rfl (hb hby own_d8_76) (Steps.refl _)) ?_
            show own_G p.tables e below _ (s₁.setTop (mkF m 77 #[.val (.int ((((y0.toUInt32 >>> ((16 : Int32) &&& 31).toUInt32).toInt32).toUInt32 >>> ((8 : Int32) &&& 31).toUInt32).toInt32)), .val (.int (((1 : Int32) + (16 : Int32)) + (8 : Int32)))] [(.int (1 : Int32)), (.int ((((y0.toUInt32 >>> ((16 : Int32) &&& 31).toUInt32).toInt32).toUInt32 >>> ((8 : Int32) &&& 31).toUInt32).toInt32)), (.int (((1 : Int32) + (16 : Int32)) + (8 : Int32)))]))
            refine own_fs (XS.iushr X0.here hx rfl (hb hby own_d8_77) rfl (Steps.refl _)) ?_
            show own_G p.tables e below _ (s₁.setTop (mkF m 78 #[.val (.int ((((y0.toUInt32 >>> ((16 : Int32) &&& 31).toUInt32).toInt32).toUInt32 >>> ((8 : Int32) &&& 31).toUInt32).toInt32)), .val (.int (((1 : Int32) + (16 : Int32)) + (8 : Int32)))] [(.int ((((((y0.toUInt32 >>> ((16 : Int32) &&& 31).toUInt32).toInt32).toUInt32 >>> ((8 : Int32) &&& 31).toUInt32).toInt32).toUInt32 >>> ((1 : Int32) &&& 31).toUInt32).toInt32)), (.int (((1 : Int32) + (16 : Int32)) + (8 : Int32)))]))
            refine own_fs (XS.iadd X0.here hx rfl (hb hby own_d8_78) rfl (Steps.refl _)) ?_
            show own_G p.tables e below _ (s₁.setTop (mkF m 79 #[.val (.int ((((y0.toUInt32 >>> ((16 : Int32) &&& 31).toUInt32).toInt32).toUInt32 >>> ((8 : Int32) &&& 31).toUInt32).toInt32)), .val (.int (((1 : Int32) + (16 : Int32)) + (8 : Int32)))] [(.int ((((1 : Int32) + (16 : Int32)) + (8 : Int32)) + ((((((y0.toUInt32 >>> ((16 : Int32) &&& 31).toUInt32).toInt32).toUInt32 >>> ((8 : Int32) &&& 31).toUInt32).toInt32).toUInt32 >>> ((1 : Int32) &&& 31).toUInt32).toInt32)))]))
            exact own_retI X0 hx Bd.returns hlk (hb hby own_d8_79) (by decide) (by decide) e0 ⟨(by simp only [own_ntzI, own_ntzY, own_s16, own_s8, own_s4, own_s2, own_s1, hg_y0, hc23, hc38, hc52, hc64, hc9, ↓reduceIte]), N0, rfl⟩
      · refine own_fs (XS.icmpYes X0.here hx rfl (pc0 := 38) (pc' := 49) rfl (hb hby own_d8_38) rfl (XT.ii_le_t hc38) (by decide) (by decide) (Steps.refl _)) ?_
        show own_G p.tables e below _ (s₁.setTop (mkF m 49 #[.val (.int ((y0.toUInt32 >>> ((16 : Int32) &&& 31).toUInt32).toInt32)), .val (.int ((1 : Int32) + (16 : Int32)))] []))
        refine own_fs (XS.iloadN X0.here hx rfl (hb hby own_d8_49) rfl (Steps.refl _)) ?_
        show own_G p.tables e below _ (s₁.setTop (mkF m 50 #[.val (.int ((y0.toUInt32 >>> ((16 : Int32) &&& 31).toUInt32).toInt32)), .val (.int ((1 : Int32) + (16 : Int32)))] [(.int ((y0.toUInt32 >>> ((16 : Int32) &&& 31).toUInt32).toInt32))]))
        refine own_fs (XS.bipush X0.here hx rfl (hb hby own_d8_50) (Steps.refl _)) ?_
        show own_G p.tables e below _ (s₁.setTop (mkF m 52 #[.val (.int ((y0.toUInt32 >>> ((16 : Int32) &&& 31).toUInt32).toInt32)), .val (.int ((1 : Int32) + (16 : Int32)))] [(.int (16 : Int32)), (.int ((y0.toUInt32 >>> ((16 : Int32) &&& 31).toUInt32).toInt32))]))
        by_cases hc52 : (16 : Int32) < ((y0.toUInt32 >>> ((16 : Int32) &&& 31).toUInt32).toInt32)
        · refine own_fs (XS.icmpNo X0.here hx rfl (hb hby own_d8_52) rfl (XT.ii_le_f hc52) (Steps.refl _)) ?_
          show own_G p.tables e below _ (s₁.setTop (mkF m 55 #[.val (.int ((y0.toUInt32 >>> ((16 : Int32) &&& 31).toUInt32).toInt32)), .val (.int ((1 : Int32) + (16 : Int32)))] []))
          refine own_fs (XS.iinc X0.here hx rfl (hb hby own_d8_55) rfl (l' := #[.val (.int ((y0.toUInt32 >>> ((16 : Int32) &&& 31).toUInt32).toInt32)), .val (.int (((1 : Int32) + (16 : Int32)) + (4 : Int32)))]) rfl (Steps.refl _)) ?_
          show own_G p.tables e below _ (s₁.setTop (mkF m 58 #[.val (.int ((y0.toUInt32 >>> ((16 : Int32) &&& 31).toUInt32).toInt32)), .val (.int (((1 : Int32) + (16 : Int32)) + (4 : Int32)))] []))
          refine own_fs (XS.iloadN X0.here hx rfl (hb hby own_d8_58) rfl (Steps.refl _)) ?_
          show own_G p.tables e below _ (s₁.setTop (mkF m 59 #[.val (.int ((y0.toUInt32 >>> ((16 : Int32) &&& 31).toUInt32).toInt32)), .val (.int (((1 : Int32) + (16 : Int32)) + (4 : Int32)))] [(.int ((y0.toUInt32 >>> ((16 : Int32) &&& 31).toUInt32).toInt32))]))
          refine own_fs (XS.iconst X0.here hx rfl (hb hby own_d8_59) (Steps.refl _)) ?_
          show own_G p.tables e below _ (s₁.setTop (mkF m 60 #[.val (.int ((y0.toUInt32 >>> ((16 : Int32) &&& 31).toUInt32).toInt32)), .val (.int (((1 : Int32) + (16 : Int32)) + (4 : Int32)))] [(.int (4 : Int32)), (.int ((y0.toUInt32 >>> ((16 : Int32) &&& 31).toUInt32).toInt32))]))
          refine own_fs (XS.iushr X0.here hx rfl (hb hby own_d8_60) rfl (Steps.refl _)) ?_
          show own_G p.tables e below _ (s₁.setTop (mkF m 61 #[.val (.int ((y0.toUInt32 >>> ((16 : Int32) &&& 31).toUInt32).toInt32)), .val (.int (((1 : Int32) + (16 : Int32)) + (4 : Int32)))] [(.int ((((y0.toUInt32 >>> ((16 : Int32) &&& 31).toUInt32).toInt32).toUInt32 >>> ((4 : Int32) &&& 31).toUInt32).toInt32))]))
          refine own_fs (XS.istoreN X0.here hx rfl (hb hby own_d8_61) rfl (l' := #[.val (.int ((((y0.toUInt32 >>> ((16 : Int32) &&& 31).toUInt32).toInt32).toUInt32 >>> ((4 : Int32) &&& 31).toUInt32).toInt32)), .val (.int (((1 : Int32) + (16 : Int32)) + (4 : Int32)))]) rfl (Steps.refl _)) ?_
          show own_G p.tables e below _ (s₁.setTop (mkF m 62 #[.val (.int ((((y0.toUInt32 >>> ((16 : Int32) &&& 31).toUInt32).toInt32).toUInt32 >>> ((4 : Int32) &&& 31).toUInt32).toInt32)), .val (.int (((1 : Int32) + (16 : Int32)) + (4 : Int32)))] []))
          refine own_fs (XS.iloadN X0.here hx rfl (hb hby own_d8_62) rfl (Steps.refl _)) ?_
          show own_G p.tables e below _ (s₁.setTop (mkF m 63 #[.val (.int ((((y0.toUInt32 >>> ((16 : Int32) &&& 31).toUInt32).toInt32).toUInt32 >>> ((4 : Int32) &&& 31).toUInt32).toInt32)), .val (.int (((1 : Int32) + (16 : Int32)) + (4 : Int32)))] [(.int ((((y0.toUInt32 >>> ((16 : Int32) &&& 31).toUInt32).toInt32).toUInt32 >>> ((4 : Int32) &&& 31).toUInt32).toInt32))]))
          refine own_fs (XS.iconst X0.here hx rfl (hb hby own_d8_63) (Steps.refl _)) ?_
          show own_G p.tables e below _ (s₁.setTop (mkF m 64 #[.val (.int ((((y0.toUInt32 >>> ((16 : Int32) &&& 31).toUInt32).toInt32).toUInt32 >>> ((4 : Int32) &&& 31).toUInt32).toInt32)), .val (.int (((1 : Int32) + (16 : Int32)) + (4 : Int32)))] [(.int (4 : Int32)), (.int ((((y0.toUInt32 >>> ((16 : Int32) &&& 31).toUInt32).toInt32).toUInt32 >>> ((4 : Int32) &&& 31).toUInt32).toInt32))]))
          by_cases hc64 : (4 : Int32) < ((((y0.toUInt32 >>> ((16 : Int32) &&& 31).toUInt32).toInt32).toUInt32 >>> ((4 : Int32) &&& 31).toUInt32).toInt32)
          · refine own_fs (XS.icmpNo X0.here hx rfl (hb hby own_d8_64) rfl (XT.ii_le_f hc64) (Steps.refl _)) ?_
            show own_G p.tables e below _ (s₁.setTop (mkF m 67 #[.val (.int ((((y0.toUInt32 >>> ((16 : Int32) &&& 31).toUInt32).toInt32).toUInt32 >>> ((4 : Int32) &&& 31).toUInt32).toInt32)), .val (.int (((1 : Int32) + (16 : Int32)) + (4 : Int32)))] []))
            refine own_fs (XS.iinc X0.here hx rfl (hb hby own_d8_67) rfl (l' := #[.val (.int ((((y0.toUInt32 >>> ((16 : Int32) &&& 31).toUInt32).toInt32).toUInt32 >>> ((4 : Int32) &&& 31).toUInt32).toInt32)), .val (.int ((((1 : Int32) + (16 : Int32)) + (4 : Int32)) + (2 : Int32)))]) rfl (Steps.refl _)) ?_
            show own_G p.tables e below _ (s₁.setTop (mkF m 70 #[.val (.int ((((y0.toUInt32 >>> ((16 : Int32) &&& 31).toUInt32).toInt32).toUInt32 >>> ((4 : Int32) &&& 31).toUInt32).toInt32)), .val (.int ((((1 : Int32) + (16 : Int32)) + (4 : Int32)) + (2 : Int32)))] []))
            refine own_fs (XS.iloadN X0.here hx rfl (hb hby own_d8_70) rfl (Steps.refl _)) ?_
            show own_G p.tables e below _ (s₁.setTop (mkF m 71 #[.val (.int ((((y0.toUInt32 >>> ((16 : Int32) &&& 31).toUInt32).toInt32).toUInt32 >>> ((4 : Int32) &&& 31).toUInt32).toInt32)), .val (.int ((((1 : Int32) + (16 : Int32)) + (4 : Int32)) + (2 : Int32)))] [(.int ((((y0.toUInt32 >>> ((16 : Int32) &&& 31).toUInt32).toInt32).toUInt32 >>> ((4 : Int32) &&& 31).toUInt32).toInt32))]))
            refine own_fs (XS.iconst X0.here hx rfl (hb hby own_d8_71) (Steps.refl _)) ?_
            show own_G p.tables e below _ (s₁.setTop (mkF m 72 #[.val (.int ((((y0.toUInt32 >>> ((16 : Int32) &&& 31).toUInt32).toInt32).toUInt32 >>> ((4 : Int32) &&& 31).toUInt32).toInt32)), .val (.int ((((1 : Int32) + (16 : Int32)) + (4 : Int32)) + (2 : Int32)))] [(.int (2 : Int32)), (.int ((((y0.toUInt32 >>> ((16 : Int32) &&& 31).toUInt32).toInt32).toUInt32 >>> ((4 : Int32) &&& 31).toUInt32).toInt32))]))
            refine own_fs (XS.iushr X0.here hx rfl (hb hby own_d8_72) rfl (Steps.refl _)) ?_
            show own_G p.tables e below _ (s₁.setTop (mkF m 73 #[.val (.int ((((y0.toUInt32 >>> ((16 : Int32) &&& 31).toUInt32).toInt32).toUInt32 >>> ((4 : Int32) &&& 31).toUInt32).toInt32)), .val (.int ((((1 : Int32) + (16 : Int32)) + (4 : Int32)) + (2 : Int32)))] [(.int ((((((y0.toUInt32 >>> ((16 : Int32) &&& 31).toUInt32).toInt32).toUInt32 >>> ((4 : Int32) &&& 31).toUInt32).toInt32).toUInt32 >>> ((2 : Int32) &&& 31).toUInt32).toInt32))]))
            refine own_fs (XS.istoreN X0.here hx rfl (hb hby own_d8_73) rfl (l' := #[.val (.int ((((((y0.toUInt32 >>> ((16 : Int32) &&& 31).toUInt32).toInt32).toUInt32 >>> ((4 : Int32) &&& 31).toUInt32).toInt32).toUInt32 >>> ((2 : Int32) &&& 31).toUInt32).toInt32)), .val (.int ((((1 : Int32) + (16 : Int32)) + (4 : Int32)) + (2 : Int32)))]) rfl (Steps.refl _)) ?_
            show own_G p.tables e below _ (s₁.setTop (mkF m 74 #[.val (.int ((((((y0.toUInt32 >>> ((16 : Int32) &&& 31).toUInt32).toInt32).toUInt32 >>> ((4 : Int32) &&& 31).toUInt32).toInt32).toUInt32 >>> ((2 : Int32) &&& 31).toUInt32).toInt32)), .val (.int ((((1 : Int32) + (16 : Int32)) + (4 : Int32)) + (2 : Int32)))] []))
            refine own_fs (XS.iloadN X0.here hx rfl (hb hby own_d8_74) rfl (Steps.refl _)) ?_
            show own_G p.tables e below _ (s₁.setTop (mkF m 75 #[.val (.int ((((((y0.toUInt32 >>> ((16 : Int32) &&& 31).toUInt32).toInt32).toUInt32 >>> ((4 : Int32) &&& 31).toUInt32).toInt32).toUInt32 >>> ((2 : Int32) &&& 31).toUInt32).toInt32)), .val (.int ((((1 : Int32) + (16 : Int32)) + (4 : Int32)) + (2 : Int32)))] [(.int ((((1 : Int32) + (16 : Int32)) + (4 : Int32)) + (2 : Int32)))]))
            refine own_fs (XS.iloadN X0.here hx rfl (hb hby own_d8_75) rfl (Steps.refl _)) ?_
            show own_G p.tables e below _ (s₁.setTop (mkF m 76 #[.val (.int ((((((y0.toUInt32 >>> ((16 : Int32) &&& 31).toUInt32).toInt32).toUInt32 >>> ((4 : Int32) &&& 31).toUInt32).toInt32).toUInt32 >>> ((2 : Int32) &&& 31).toUInt32).toInt32)), .val (.int ((((1 : Int32) + (16 : Int32)) + (4 : Int32)) + (2 : Int32)))] [(.int ((((((y0.toUInt32 >>> ((16 : Int32) &&& 31).toUInt32).toInt32).toUInt32 >>> ((4 : Int32) &&& 31).toUInt32).toInt32).toUInt32 >>> ((2 : Int32) &&& 31).toUInt32).toInt32)), (.int ((((1 : Int32) + (16 : Int32)) + (4 : Int32)) + (2 : Int32)))]))
            refine own_fs (XS.iconst X0.here hx rfl (hb hby own_d8_76) (Steps.refl _)) ?_
            show own_G p.tables e below _ (s₁.setTop (mkF m 77 #[.val (.int ((((((y0.toUInt32 >>> ((16 : Int32) &&& 31).toUInt32).toInt32).toUInt32 >>> ((4 : Int32) &&& 31).toUInt32).toInt32).toUInt32 >>> ((2 : Int32) &&& 31).toUInt32).toInt32)), .val (.int ((((1 : Int32) + (16 : Int32)) + (4 : Int32)) + (2 : Int32)))] [(.int (1 : Int32)), (.int ((((((y0.toUInt32 >>> ((16 : Int32) &&& 31).toUInt32).toInt32).toUInt32 >>> ((4 : Int32) &&& 31).toUInt32).toInt32).toUInt32 >>> ((2 : Int32) &&& 31).toUInt32).toInt32)), (.int ((((1 : Int32) + (16 : Int32)) + (4 : Int32)) + (2 : Int32)))]))
            refine own_fs (XS.iushr X0.here hx rfl (hb hby own_d8_77) rfl (Steps.refl _)) ?_
            show own_G p.tables e below _ (s₁.setTop (mkF m 78 #[.val (.int ((((((y0.toUInt32 >>> ((16 : Int32) &&& 31).toUInt32).toInt32).toUInt32 >>> ((4 : Int32) &&& 31).toUInt32).toInt32).toUInt32 >>> ((2 : Int32) &&& 31).toUInt32).toInt32)), .val (.int ((((1 : Int32) + (16 : Int32)) + (4 : Int32)) + (2 : Int32)))] [(.int ((((((((y0.toUInt32 >>> ((16 : Int32) &&& 31).toUInt32).toInt32).toUInt32 >>> ((4 : Int32) &&& 31).toUInt32).toInt32).toUInt32 >>> ((2 : Int32) &&& 31).toUInt32).toInt32).toUInt32 >>> ((1 : Int32) &&& 31).toUInt32).toInt32)), (.int ((((1 : Int32) + (16 : Int32)) + (4 : Int32)) + (2 : Int32)))]))
            refine own_fs (XS.iadd X0.here hx rfl (hb hby own_d8_78) rfl (Steps.refl _)) ?_
            show own_G p.tables e below _ (s₁.setTop (mkF m 79 #[.val (.int ((((((y0.toUInt32 >>> ((16 : Int32) &&& 31).toUInt32).toInt32).toUInt32 >>> ((4 : Int32) &&& 31).toUInt32).toInt32).toUInt32 >>> ((2 : Int32) &&& 31).toUInt32).toInt32)), .val (.int ((((1 : Int32) + (16 : Int32)) + (4 : Int32)) + (2 : Int32)))] [(.int (((((1 : Int32) + (16 : Int32)) + (4 : Int32)) + (2 : Int32)) + ((((((((y0.toUInt32 >>> ((16 : Int32) &&& 31).toUInt32).toInt32).toUInt32 >>> ((4 : Int32) &&& 31).toUInt32).toInt32).toUInt32 >>> ((2 : Int32) &&& 31).toUInt32).toInt32).toUInt32 >>> ((1 : Int32) &&& 31).toUInt32).toInt32)))]))
            exact own_retI X0 hx Bd.returns hlk (hb hby own_d8_79) (by decide) (by decide) e0 ⟨(by simp only [own_ntzI, own_ntzY, own_s16, own_s8, own_s4, own_s2, own_s1, hg_y0, hc23, hc38, hc52, hc64, hc9, ↓reduceIte]), N0, rfl⟩
          · refine own_fs (XS.icmpYes X0.here hx rfl (pc0 := 64) (pc' := 74) rfl (hb hby own_d8_64) rfl (XT.ii_le_t hc64) (by decide) (by decide) (Steps.refl _)) ?_
            show own_G p.tables e below _ (s₁.setTop (mkF m 74 #[.val (.int ((((y0.toUInt32 >>> ((16 : Int32) &&& 31).toUInt32).toInt32).toUInt32 >>> ((4 : Int32) &&& 31).toUInt32).toInt32)), .val (.int (((1 : Int32) + (16 : Int32)) + (4 : Int32)))] []))
            refine own_fs (XS.iloadN X0.here hx rfl (hb hby own_d8_74) rfl (Steps.refl _)) ?_
            show own_G p.tables e below _ (s₁.setTop (mkF m 75 #[.val (.int ((((y0.toUInt32 >>> ((16 : Int32) &&& 31).toUInt32).toInt32).toUInt32 >>> ((4 : Int32) &&& 31).toUInt32).toInt32)), .val (.int (((1 : Int32) + (16 : Int32)) + (4 : Int32)))] [(.int (((1 : Int32) + (16 : Int32)) + (4 : Int32)))]))
            refine own_fs (XS.iloadN X0.here hx rfl (hb hby own_d8_75) rfl (Steps.refl _)) ?_
            show own_G p.tables e below _ (s₁.setTop (mkF m 76 #[.val (.int ((((y0.toUInt32 >>> ((16 : Int32) &&& 31).toUInt32).toInt32).toUInt32 >>> ((4 : Int32) &&& 31).toUInt32).toInt32)), .val (.int (((1 : Int32) + (16 : Int32)) + (4 : Int32)))] [(.int ((((y0.toUInt32 >>> ((16 : Int32) &&& 31).toUInt32).toInt32).toUInt32 >>> ((4 : Int32) &&& 31).toUInt32).toInt32)), (.int (((1 : Int32) + (16 : Int32)) + (4 : Int32)))]))
            refine own_fs (XS.iconst X0.here hx rfl (hb hby own_d8_76) (Steps.refl _)) ?_
            show own_G p.tables e below _ (s₁.setTop (mkF m 77 #[.val (.int ((((y0.toUInt32 >>> ((16 : Int32) &&& 31).toUInt32).toInt32).toUInt32 >>> ((4 : Int32) &&& 31).toUInt32).toInt32)), .val (.int (((1 : Int32) + (16 : Int32)) + (4 : Int32)))] [(.int (1 : Int32)), (.int ((((y0.toUInt32 >>> ((16 : Int32) &&& 31).toUInt32).toInt32).toUInt32 >>> ((4 : Int32) &&& 31).toUInt32).toInt32)), (.int (((1 : Int32) + (16 : Int32)) + (4 : Int32)))]))
            refine own_fs (XS.iushr X0.here hx rfl (hb hby own_d8_77) rfl (Steps.refl _)) ?_
            show own_G p.tables e below _ (s₁.setTop (mkF m 78 #[.val (.int ((((y0.toUInt32 >>> ((16 : Int32) &&& 31).toUInt32).toInt32).toUInt32 >>> ((4 : Int32) &&& 31).toUInt32).toInt32)), .val (.int (((1 : Int32) + (16 : Int32)) + (4 : Int32)))] [(.int ((((((y0.toUInt32 >>> ((16 : Int32) &&& 31).toUInt32).toInt32).toUInt32 >>> ((4 : Int32) &&& 31).toUInt32).toInt32).toUInt32 >>> ((1 : Int32) &&& 31).toUInt32).toInt32)), (.int (((1 : Int32) + (16 : Int32)) + (4 : Int32)))]))
            refine own_fs (XS.iadd X0.here hx rfl (hb hby own_d8_78) rfl (Steps.refl _)) ?_
            show own_G p.tables e below _ (s₁.setTop (mkF m 79 #[.val (.int ((((y0.toUInt32 >>> ((16 : Int32) &&& 31).toUInt32).toInt32).toUInt32 >>> ((4 : Int32) &&& 31).toUInt32).toInt32)), .val (.int (((1 : Int32) + (16 : Int32)) + (4 : Int32)))] [(.int ((((1 : Int32) + (16 : Int32)) + (4 : Int32)) + ((((((y0.toUInt32 >>> ((16 : Int32) &&& 31).toUInt32).toInt32).toUInt32 >>> ((4 : Int32) &&& 31).toUInt32).toInt32).toUInt32 >>> ((1 : Int32) &&& 31).toUInt32).toInt32)))]))
            exact own_retI X0 hx Bd.returns hlk (hb hby own_d8_79) (by decide) (by decide) e0 ⟨(by simp only [own_ntzI, own_ntzY, own_s16, own_s8, own_s4, own_s2, own_s1, hg_y0, hc23, hc38, hc52, hc64, hc9, ↓reduceIte]), N0, rfl⟩
        · refine own_fs (XS.icmpYes X0.here hx rfl (pc0 := 52) (pc' := 62) rfl (hb hby own_d8_52) rfl (XT.ii_le_t hc52) (by decide) (by decide) (Steps.refl _)) ?_
          show own_G p.tables e below _ (s₁.setTop (mkF m 62 #[.val (.int ((y0.toUInt32 >>> ((16 : Int32) &&& 31).toUInt32).toInt32)), .val (.int ((1 : Int32) + (16 : Int32)))] []))
          refine own_fs (XS.iloadN X0.here hx rfl (hb hby own_d8_62) rfl (Steps.refl _)) ?_
          show own_G p.tables e below _ (s₁.setTop (mkF m 63 #[.val (.int ((y0.toUInt32 >>> ((16 : Int32) &&& 31).toUInt32).toInt32)), .val (.int ((1 : Int32) + (16 : Int32)))] [(.int ((y0.toUInt32 >>> ((16 : Int32) &&& 31).toUInt32).toInt32))]))
          refine own_fs (XS.iconst X0.here hx rfl (hb hby own_d8_63) (Steps.refl _)) ?_
          show own_G p.tables e below _ (s₁.setTop (mkF m 64 #[.val (.int ((y0.toUInt32 >>> ((16 : Int32) &&& 31).toUInt32).toInt32)), .val (.int ((1 : Int32) + (16 : Int32)))] [(.int (4 : Int32)), (.int ((y0.toUInt32 >>> ((16 : Int32) &&& 31).toUInt32).toInt32))]))
          by_cases hc64 : (4 : Int32) < ((y0.toUInt32 >>> ((16 : Int32) &&& 31).toUInt32).toInt32)
          · refine own_fs (XS.icmpNo X0.here hx rfl (hb hby own_d8_64) rfl (XT.ii_le_f hc64) (Steps.refl _)) ?_
            show own_G p.tables e below _ (s₁.setTop (mkF m 67 #[.val (.int ((y0.toUInt32 >>> ((16 : Int32) &&& 31).toUInt32).toInt32)), .val (.int ((1 : Int32) + (16 : Int32)))] []))
            refine own_fs (XS.iinc X0.here hx rfl (hb hby own_d8_67) rfl (l' := #[.val (.int ((y0.toUInt32 >>> ((16 : Int32) &&& 31).toUInt32).toInt32)), .val (.int (((1 : Int32) + (16 : Int32)) + (2 : Int32)))]) rfl (Steps.refl _)) ?_
            show own_G p.tables e below _ (s₁.setTop (mkF m 70 #[.val (.int ((y0.toUInt32 >>> ((16 : Int32) &&& 31).toUInt32).toInt32)), .val (.int (((1 : Int32) + (16 : Int32)) + (2 : Int32)))] []))
            refine own_fs (XS.iloadN X0.here hx rfl (hb hby own_d8_70) rfl (Steps.refl _)) ?_
            show own_G p.tables e below _ (s₁.setTop (mkF m 71 #[.val (.int ((y0.toUInt32 >>> ((16 : Int32) &&& 31).toUInt32).toInt32)), .val (.int (((1 : Int32) + (16 : Int32)) + (2 : Int32)))] [(.int ((y0.toUInt32 >>> ((16 : Int32) &&& 31).toUInt32).toInt32))]))
            refine own_fs (XS.iconst X0.here hx rfl (hb hby own_d8_71) (Steps.refl _)) ?_
            show own_G p.tables e below _ (s₁.setTop (mkF m 72 #[.val (.int ((y0.toUInt32 >>> ((16 : Int32) &&& 31).toUInt32).toInt32)), .val (.int (((1 : Int32) + (16 : Int32)) + (2 : Int32)))] [(.int (2 : Int32)), (.int ((y0.toUInt32 >>> ((16 : Int32) &&& 31).toUInt32).toInt32))]))
            refine own_fs (XS.iushr X0.here hx rfl (hb hby own_d8_72) rfl (Steps.refl _)) ?_
            show own_G p.tables e below _ (s₁.setTop (mkF m 73 #[.val (.int ((y0.toUInt32 >>> ((16 : Int32) &&& 31).toUInt32).toInt32)), .val (.int (((1 : Int32) + (16 : Int32)) + (2 : Int32)))] [(.int ((((y0.toUInt32 >>> ((16 : Int32) &&& 31).toUInt32).toInt32).toUInt32 >>> ((2 : Int32) &&& 31).toUInt32).toInt32))]))
            refine own_fs (XS.istoreN X0.here hx rfl (hb hby own_d8_73) rfl (l' := #[.val (.int ((((y0.toUInt32 >>> ((16 : Int32) &&& 31).toUInt32).toInt32).toUInt32 >>> ((2 : Int32) &&& 31).toUInt32).toInt32)), .val (.int (((1 : Int32) + (16 : Int32)) + (2 : Int32)))]) rfl (Steps.refl _)) ?_
            show own_G p.tables e below _ (s₁.setTop (mkF m 74 #[.val (.int ((((y0.toUInt32 >>> ((16 : Int32) &&& 31).toUInt32).toInt32).toUInt32 >>> ((2 : Int32) &&& 31).toUInt32).toInt32)), .val (.int (((1 : Int32) + (16 : Int32)) + (2 : Int32)))] []))
            refine own_fs (XS.iloadN X0.here hx rfl (hb hby own_d8_74) rfl (Steps.refl _)) ?_
            show own_G p.tables e below _ (s₁.setTop (mkF m 75 #[.val (.int ((((y0.toUInt32 >>> ((16 : Int32) &&& 31).toUInt32).toInt32).toUInt32 >>> ((2 : Int32) &&& 31).toUInt32).toInt32)), .val (.int (((1 : Int32) + (16 : Int32)) + (2 : Int32)))] [(.int (((1 : Int32) + (16 : Int32)) + (2 : Int32)))]))
            refine own_fs (XS.iloadN X0.here hx rfl (hb hby own_d8_75) rfl (Steps.refl _)) ?_
            show own_G p.tables e below _ (s₁.setTop (mkF m 76 #[.val (.int ((((y0.toUInt32 >>> ((16 : Int32) &&& 31).toUInt32).toInt32).toUInt32 >>> ((2 : Int32) &&& 31).toUInt32).toInt32)), .val (.int (((1 : Int32) + (16 : Int32)) + (2 : Int32)))] [(.int ((((y0.toUInt32 >>> ((16 : Int32) &&& 31).toUInt32).toInt32).toUInt32 >>> ((2 : Int32) &&& 31).toUInt32).toInt32)), (.int (((1 : Int32) + (16 : Int32)) + (2 : Int32)))]))
            refine own_fs (XS.iconst X0.here hx rfl (hb hby own_d8_76) (Steps.refl _)) ?_
            show own_G p.tables e below _ (s₁.setTop (mkF m 77 #[.val (.int ((((y0.toUInt32 >>> ((16 : Int32) &&& 31).toUInt32).toInt32).toUInt32 >>> ((2 : Int32) &&& 31).toUInt32).toInt32)), .val (.int (((1 : Int32) + (16 : Int32)) + (2 : Int32)))] [(.int (1 : Int32)), (.int ((((y0.toUInt32 >>> ((16 : Int32) &&& 31).toUInt32).toInt32).toUInt32 >>> ((2 : Int32) &&& 31).toUInt32).toInt32)), (.int (((1 : Int32) + (16 : Int32)) + (2 : Int32)))]))
            refine own_fs (XS.iushr X0.here hx rfl (hb hby own_d8_77) rfl (Steps.refl _)) ?_
            show own_G p.tables e below _ (s₁.setTop (mkF m 78 #[.val (.int ((((y0.toUInt32 >>> ((16 : Int32) &&& 31).toUInt32).toInt32).toUInt32 >>> ((2 : Int32) &&& 31).toUInt32).toInt32)), .val (.int (((1 : Int32) + (16 : Int32)) + (2 : Int32)))] [(.int ((((((y0.toUInt32 >>> ((16 : Int32) &&& 31).toUInt32).toInt32).toUInt32 >>> ((2 : Int32) &&& 31).toUInt32).toInt32).toUInt32 >>> ((1 : Int32) &&& 31).toUInt32).toInt32)), (.int (((1 : Int32) + (16 : Int32)) + (2 : Int32)))]))
            refine own_fs (XS.iadd X0.here hx rfl (hb hby own_d8_78) rfl (Steps.refl _)) ?_
            show own_G p.tables e below _ (s₁.setTop (mkF m 79 #[.val (.int ((((y0.toUInt32 >>> ((16 : Int32) &&& 31).toUInt32).toInt32).toUInt32 >>> ((2 : Int32) &&& 31).toUInt32).toInt32)), .val (.int (((1 : Int32) + (16 : Int32)) + (2 : Int32)))] [(.int ((((1 : Int32) + (16 : Int32)) + (2 : Int32)) + ((((((y0.toUInt32 >>> ((16 : Int32) &&& 31).toUInt32).toInt32).toUInt32 >>> ((2 : Int32) &&& 31).toUInt32).toInt32).toUInt32 >>> ((1 : Int32) &&& 31).toUInt32).toInt32)))]))
            exact own_retI X0 hx Bd.returns hlk (hb hby own_d8_79) (by decide) (by decide) e0 ⟨(by simp only [own_ntzI, own_ntzY, own_s16, own_s8, own_s4, own_s2, own_s1, hg_y0, hc23, hc38, hc52, hc64, hc9, ↓reduceIte]), N0, rfl⟩
          · refine own_fs (XS.icmpYes X0.here hx rfl (pc0 := 64) (pc' := 74) rfl (hb hby own_d8_64) rfl (XT.ii_le_t hc64) (by decide) (by decide) (Steps.refl _)) ?_
            show own_G p.tables e below _ (s₁.setTop (mkF m 74 #[.val (.int ((y0.toUInt32 >>> ((16 : Int32) &&& 31).toUInt32).toInt32)), .val (.int ((1 : Int32) + (16 : Int32)))] []))
            refine own_fs (XS.iloadN X0.here hx rfl (hb hby own_d8_74) rfl (Steps.refl _)) ?_
            show own_G p.tables e below _ (s₁.setTop (mkF m 75 #[.val (.int ((y0.toUInt32 >>> ((16 : Int32) &&& 31).toUInt32).toInt32)), .val (.int ((1 : Int32) + (16 : Int32)))] [(.int ((1 : Int32) + (16 : Int32)))]))
            refine own_fs (XS.iloadN X0.here hx rfl (hb hby own_d8_75) rfl (Steps.refl _)) ?_
            show own_G p.tables e below _ (s₁.setTop (mkF m 76 #[.val (.int ((y0.toUInt32 >>> ((16 : Int32) &&& 31).toUInt32).toInt32)), .val (.int ((1 : Int32) + (16 : Int32)))] [(.int ((y0.toUInt32 >>> ((16 : Int32) &&& 31).toUInt32).toInt32)), (.int ((1 : Int32) + (16 : Int32)))]))
            refine own_fs (XS.iconst X0.here hx rfl (hb hby own_d8_76) (Steps.refl _)) ?_
            show own_G p.tables e below _ (s₁.setTop (mkF m 77 #[.val (.int ((y0.toUInt32 >>> ((16 : Int32) &&& 31).toUInt32).toInt32)), .val (.int ((1 : Int32) + (16 : Int32)))] [(.int (1 : Int32)), (.int ((y0.toUInt32 >>> ((16 : Int32) &&& 31).toUInt32).toInt32)), (.int ((1 : Int32) + (16 : Int32)))]))
            refine own_fs (XS.iushr X0.here hx rfl (hb hby own_d8_77) rfl (Steps.refl _)) ?_
            show own_G p.tables e below _ (s₁.setTop (mkF m 78 #[.val (.int ((y0.toUInt32 >>> ((16 : Int32) &&& 31).toUInt32).toInt32)), .val (.int ((1 : Int32) + (16 : Int32)))] [(.int ((((y0.toUInt32 >>> ((16 : Int32) &&& 31).toUInt32).toInt32).toUInt32 >>> ((1 : Int32) &&& 31).toUInt32).toInt32)), (.int ((1 : Int32) + (16 : Int32)))]))
            refine own_fs (XS.iadd X0.here hx rfl (hb hby own_d8_78) rfl (Steps.refl _)) ?_
            show own_G p.tables e below _ (s₁.setTop (mkF m 79 #[.val (.int ((y0.toUInt32 >>> ((16 : Int32) &&& 31).toUInt32).toInt32)), .val (.int ((1 : Int32) + (16 : Int32)))] [(.int (((1 : Int32) + (16 : Int32)) + ((((y0.toUInt32 >>> ((16 : Int32) &&& 31).toUInt32).toInt32).toUInt32 >>> ((1 : Int32) &&& 31).toUInt32).toInt32)))]))
            exact own_retI X0 hx Bd.returns hlk (hb hby own_d8_79) (by decide) (by decide) e0 ⟨(by simp only [own_ntzI, own_ntzY, own_s16, own_s8, own_s4, own_s2, own_s1, hg_y0, hc23, hc38, hc52, hc64, hc9, ↓reduceIte]), N0, rfl⟩
    · refine own_fs (XS.icmpYes X0.here hx rfl (pc0 := 23) (pc' := 34) rfl (hb hby own_d8_23) rfl (XT.ii_le_t hc23) (by decide) (by decide) (Steps.refl _)) ?_
      show own_G p.tables e below _ (s₁.setTop (mkF m 34 #[.val (.int y0), .val (.int (1 : Int32))] []))
      refine own_fs (XS.iloadN X0.here hx rfl (hb hby own_d8_34) rfl (Steps.refl _)) ?_
      show own_G p.tables e below _ (s₁.setTop (mkF m 35 #[.val (.int y0), .val (.int (1 : Int32))] [(.int y0)]))
      refine own_fs (XS.sipush X0.here hx rfl (hb hby own_d8_35) (Steps.refl _)) ?_
      show own_G p.tables e below _ (s₁.setTop (mkF m 38 #[.val (.int y0), .val (.int (1 : Int32))] [(.int (256 : Int32)), (.int y0)]))
      by_cases hc38 : (256 : Int32) < y0
      · refine own_fs (XS.icmpNo X0.here hx rfl (hb hby own_d8_38) rfl (XT.ii_le_f hc38) (Steps.refl _)) ?_
        show own_G p.tables e below _ (s₁.setTop (mkF m 41 #[.val (.int y0), .val (.int (1 : Int32))] []))
        refine own_fs (XS.iinc X0.here hx rfl (hb hby own_d8_41) rfl (l' := #[.val (.int y0), .val (.int ((1 : Int32) + (8 : Int32)))]) rfl (Steps.refl _)) ?_
        show own_G p.tables e below _ (s₁.setTop (mkF m 44 #[.val (.int y0), .val (.int ((1 : Int32) + (8 : Int32)))] []))
        refine own_fs (XS.iloadN X0.here hx rfl (hb hby own_d8_44) rfl (Steps.refl _)) ?_
        show own_G p.tables e below _ (s₁.setTop (mkF m 45 #[.val (.int y0), .val (.int ((1 : Int32) + (8 : Int32)))] [(.int y0)]))
        refine own_fs (XS.bipush X0.here hx rfl (hb hby own_d8_45) (Steps.refl _)) ?_
        show own_G p.tables e below _ (s₁.setTop (mkF m 47 #[.val (.int y0), .val (.int ((1 : Int32) + (8 : Int32)))] [(.int (8 : Int32)), (.int y0)]))
        refine own_fs (XS.iushr X0.here hx rfl (hb hby own_d8_47) rfl (Steps.refl _)) ?_
        show own_G p.tables e below _ (s₁.setTop (mkF m 48 #[.val (.int y0), .val (.int ((1 : Int32) + (8 : Int32)))] [(.int ((y0.toUInt32 >>> ((8 : Int32) &&& 31).toUInt32).toInt32))]))
        refine own_fs (XS.istoreN X0.here hx rfl (hb hby own_d8_48) rfl (l' := #[.val (.int ((y0.toUInt32 >>> ((8 : Int32) &&& 31).toUInt32).toInt32)), .val (.int ((1 : Int32) + (8 : Int32)))]) rfl (Steps.refl _)) ?_
        show own_G p.tables e below _ (s₁.setTop (mkF m 49 #[.val (.int ((y0.toUInt32 >>> ((8 : Int32) &&& 31).toUInt32).toInt32)), .val (.int ((1 : Int32) + (8 : Int32)))] []))
        refine own_fs (XS.iloadN X0.here hx rfl (hb hby own_d8_49) rfl (Steps.refl _)) ?_
        show own_G p.tables e below _ (s₁.setTop (mkF m 50 #[.val (.int ((y0.toUInt32 >>> ((8 : Int32) &&& 31).toUInt32).toInt32)), .val (.int ((1 : Int32) + (8 : Int32)))] [(.int ((y0.toUInt32 >>> ((8 : Int32) &&& 31).toUInt32).toInt32))]))
        refine own_fs (XS.bipush X0.here hx rfl (hb hby own_d8_50) (Steps.refl _)) ?_
        show own_G p.tables e below _ (s₁.setTop (mkF m 52 #[.val (.int ((y0.toUInt32 >>> ((8 : Int32) &&& 31).toUInt32).toInt32)), .val (.int ((1 : Int32) + (8 : Int32)))] [(.int (16 : Int32)), (.int ((y0.toUInt32 >>> ((8 : Int32) &&& 31).toUInt32).toInt32))]))
        by_cases hc52 : (16 : Int32) < ((y0.toUInt32 >>> ((8 : Int32) &&& 31).toUInt32).toInt32)
        · refine own_fs (XS.icmpNo X0.here hx rfl (hb hby own_d8_52) rfl (XT.ii_le_f hc52) (Steps.refl _)) ?_
          show own_G p.tables e below _ (s₁.setTop (mkF m 55 #[.val (.int ((y0.toUInt32 >>> ((8 : Int32) &&& 31).toUInt32).toInt32)), .val (.int ((1 : Int32) + (8 : Int32)))] []))
          refine own_fs (XS.iinc X0.here hx rfl (hb hby own_d8_55) rfl (l' := #[.val (.int ((y0.toUInt32 >>> ((8 : Int32) &&& 31).toUInt32).toInt32)), .val (.int (((1 : Int32) + (8 : Int32)) + (4 : Int32)))]) rfl (Steps.refl _)) ?_
          show own_G p.tables e below _ (s₁.setTop (mkF m 58 #[.val (.int ((y0.toUInt32 >>> ((8 : Int32) &&& 31).toUInt32).toInt32)), .val (.int (((1 : Int32) + (8 : Int32)) + (4 : Int32)))] []))
          refine own_fs (XS.iloadN X0.here hx rfl (hb hby own_d8_58) rfl (Steps.refl _)) ?_
          show own_G p.tables e below _ (s₁.setTop (mkF m 59 #[.val (.int ((y0.toUInt32 >>> ((8 : Int32) &&& 31).toUInt32).toInt32)), .val (.int (((1 : Int32) + (8 : Int32)) + (4 : Int32)))] [(.int ((y0.toUInt32 >>> ((8 : Int32) &&& 31).toUInt32).toInt32))]))
          refine own_fs (XS.iconst X0.here hx rfl (hb hby own_d8_59) (Steps.refl _)) ?_
          show own_G p.tables e below _ (s₁.setTop (mkF m 60 #[.val (.int ((y0.toUInt32 >>> ((8 : Int32) &&& 31).toUInt32).toInt32)), .val (.int (((1 : Int32) + (8 : Int32)) + (4 : Int32)))] [(.int (4 : Int32)), (.int ((y0.toUInt32 >>> ((8 : Int32) &&& 31).toUInt32).toInt32))]))
          refine own_fs (XS.iushr X0.here hx rfl (hb hby own_d8_60) rfl (Steps.refl _)) ?_
          show own_G p.tables e below _ (s₁.setTop (mkF m 61 #[.val (.int ((y0.toUInt32 >>> ((8 : Int32) &&& 31).toUInt32).toInt32)), .val (.int (((1 : Int32) + (8 : Int32)) + (4 : Int32)))] [(.int ((((y0.toUInt32 >>> ((8 : Int32) &&& 31).toUInt32).toInt32).toUInt32 >>> ((4 : Int32) &&& 31).toUInt32).toInt32))]))
          refine own_fs (XS.istoreN X0.here hx rfl (hb hby own_d8_61) rfl (l' := #[.val (.int ((((y0.toUInt32 >>> ((8 : Int32) &&& 31).toUInt32).toInt32).toUInt32 >>> ((4 : Int32) &&& 31).toUInt32).toInt32)), .val (.int (((1 : Int32) + (8 : Int32)) + (4 : Int32)))]) rfl (Steps.refl _)) ?_
          show own_G p.tables e below _ (s₁.setTop (mkF m 62 #[.val (.int ((((y0.toUInt32 >>> ((8 : Int32) &&& 31).toUInt32).toInt32).toUInt32 >>> ((4 : Int32) &&& 31).toUInt32).toInt32)), .val (.int (((1 : Int32) + (8 : Int32)) + (4 : Int32)))] []))
          refine own_fs (XS.iloadN X0.here hx rfl (hb hby own_d8_62) rfl (Steps.refl _)) ?_
          show own_G p.tables e below _ (s₁.setTop (mkF m 63 #[.val (.int ((((y0.toUInt32 >>> ((8 : Int32) &&& 31).toUInt32).toInt32).toUInt32 >>> ((4 : Int32) &&& 31).toUInt32).toInt32)), .val (.int (((1 : Int32) + (8 : Int32)) + (4 : Int32)))] [(.int ((((y0.toUInt32 >>> ((8 : Int32) &&& 31).toUInt32).toInt32).toUInt32 >>> ((4 : Int32) &&& 31).toUInt32).toInt32))]))
          refine own_fs (XS.iconst X0.here hx rfl (hb hby own_d8_63) (Steps.refl _)) ?_
          show own_G p.tables e below _ (s₁.setTop (mkF m 64 #[.val (.int ((((y0.toUInt32 >>> ((8 : Int32) &&& 31).toUInt32).toInt32).toUInt32 >>> ((4 : Int32) &&& 31).toUInt32).toInt32)), .val (.int (((1 : Int32) + (8 : Int32)) + (4 : Int32)))] [(.int (4 : Int32)), (.int ((((y0.toUInt32 >>> ((8 : Int32) &&& 31).toUInt32).toInt32).toUInt32 >>> ((4 : Int32) &&& 31).toUInt32).toInt32))]))
          by_cases hc64 : (4 : Int32) < ((((y0.toUInt32 >>> ((8 : Int32) &&& 31).toUInt32).toInt32).toUInt32 >>> ((4 : Int32) &&& 31).toUInt32).toInt32)
          · refine own_fs (XS.icmpNo X0.here hx rfl (hb hby own_d8_64) rfl (XT.ii_le_f hc64) (Steps.refl _)) ?_
            show own_G p.tables e below _ (s₁.setTop (mkF m 67 #[.val (.int ((((y0.toUInt32 >>> ((8 : Int32) &&& 31).toUInt32).toInt32).toUInt32 >>> ((4 : Int32) &&& 31).toUInt32).toInt32)), .val (.int (((1 : Int32) + (8 : Int32)) + (4 : Int32)))] []))
            refine own_fs (XS.iinc X0.here hx rfl (hb hby own_d8_67) rfl (l' := #[.val (.int ((((y0.toUInt32 >>> ((8 : Int32) &&& 31).toUInt32).toInt32).toUInt32 >>> ((4 : Int32) &&& 31).toUInt32).toInt32)), .val (.int ((((1 : Int32) + (8 : Int32)) + (4 : Int32)) + (2 : Int32)))]) rfl (Steps.refl _)) ?_
            show own_G p.tables e below _ (s₁.setTop (mkF m 70 #[.val (.int ((((y0.toUInt32 >>> ((8 : Int32) &&& 31).toUInt32).toInt32).toUInt32 >>> ((4 : Int32) &&& 31).toUInt32).toInt32)), .val (.int ((((1 : Int32) + (8 : Int32)) + (4 : Int32)) + (2 : Int32)))] []))
            refine own_fs (XS.iloadN X0.here hx rfl (hb hby own_d8_70) rfl (Steps.refl _)) ?_
            show own_G p.tables e below _ (s₁.setTop (mkF m 71 #[.val (.int ((((y0.toUInt32 >>> ((8 : Int32) &&& 31).toUInt32).toInt32).toUInt32 >>> ((4 : Int32) &&& 31).toUInt32).toInt32)), .val (.int ((((1 : Int32) + (8 : Int32)) + (4 : Int32)) + (2 : Int32)))] [(.int ((((y0.toUInt32 >>> ((8 : Int32) &&& 31).toUInt32).toInt32).toUInt32 >>> ((4 : Int32) &&& 31).toUInt32).toInt32))]))
            refine own_fs (XS.iconst X0.here hx rfl (hb hby own_d8_71) (Steps.refl _)) ?_
            show own_G p.tables e below _ (s₁.setTop (mkF m 72 #[.val (.int ((((y0.toUInt32 >>> ((8 : Int32) &&& 31).toUInt32).toInt32).toUInt32 >>> ((4 : Int32) &&& 31).toUInt32).toInt32)), .val (.int ((((1 : Int32) + (8 : Int32)) + (4 : Int32)) + (2 : Int32)))] [(.int (2 : Int32)), (.int ((((y0.toUInt32 >>> ((8 : Int32) &&& 31).toUInt32).toInt32).toUInt32 >>> ((4 : Int32) &&& 31).toUInt32).toInt32))]))
            refine own_fs (XS.iushr X0.here hx rfl (hb hby own_d8_72) rfl (Steps.refl _)) ?_
            show own_G p.tables e below _ (s₁.setTop (mkF m 73 #[.val (.int ((((y0.toUInt32 >>> ((8 : Int32) &&& 31).toUInt32).toInt32).toUInt32 >>> ((4 : Int32) &&& 31).toUInt32).toInt32)), .val (.int ((((1 : Int32) + (8 : Int32)) + (4 : Int32)) + (2 : Int32)))] [(.int ((((((y0.toUInt32 >>> ((8 : Int32) &&& 31).toUInt32).toInt32).toUInt32 >>> ((4 : Int32) &&& 31).toUInt32).toInt32).toUInt32 >>> ((2 : Int32) &&& 31).toUInt32).toInt32))]))
            refine own_fs (XS.istoreN X0.here hx rfl (hb hby own_d8_73) rfl (l' := #[.val (.int ((((((y0.toUInt32 >>> ((8 : Int32) &&& 31).toUInt32).toInt32).toUInt32 >>> ((4 : Int32) &&& 31).toUInt32).toInt32).toUInt32 >>> ((2 : Int32) &&& 31).toUInt32).toInt32)), .val (.int ((((1 : Int32) + (8 : Int32)) + (4 : Int32)) + (2 : Int32)))]) rfl (Steps.refl _)) ?_
            show own_G p.tables e below _ (s₁.setTop (mkF m 74 #[.val (.int ((((((y0.toUInt32 >>> ((8 : Int32) &&& 31).toUInt32).toInt32).toUInt32 >>> ((4 : Int32) &&& 31).toUInt32).toInt32).toUInt32 >>> ((2 : Int32) &&& 31).toUInt32).toInt32)), .val (.int ((((1 : Int32) + (8 : Int32)) + (4 : Int32)) + (2 : Int32)))] []))
            refine own_fs (XS.iloadN X0.here hx rfl (hb hby own_d8_74) rfl (Steps.refl _)) ?_
            show own_G p.tables e below _ (s₁.setTop (mkF m 75 #[.val (.int ((((((y0.toUInt32 >>> ((8 : Int32) &&& 31).toUInt32).toInt32).toUInt32 >>> ((4 : Int32) &&& 31).toUInt32).toInt32).toUInt32 >>> ((2 : Int32) &&& 31).toUInt32).toInt32)), .val (.int ((((1 : Int32) + (8 : Int32)) + (4 : Int32)) + (2 : Int32)))] [(.int ((((1 : Int32) + (8 : Int32)) + (4 : Int32)) + (2 : Int32)))]))
            refine own_fs (XS.iloadN X0.here hx rfl (hb hby own_d8_75) rfl (Steps.refl _)) ?_
            show own_G p.tables e below _ (s₁.setTop (mkF m 76 #[.val (.int ((((((y0.toUInt32 >>> ((8 : Int32) &&& 31).toUInt32).toInt32).toUInt32 >>> ((4 : Int32) &&& 31).toUInt32).toInt32).toUInt32 >>> ((2 : Int32) &&& 31).toUInt32).toInt32)), .val (.int ((((1 : Int32) + (8 : Int32)) + (4 : Int32)) + (2 : Int32)))] [(.int ((((((y0.toUInt32 >>> ((8 : Int32) &&& 31).toUInt32).toInt32).toUInt32 >>> ((4 : Int32) &&& 31).toUInt32).toInt32).toUInt32 >>> ((2 : Int32) &&& 31).toUInt32).toInt32)), (.int ((((1 : Int32) + (8 : Int32)) + (4 : Int32)) + (2 : Int32)))]))
            refine own_fs (XS.iconst X0.here hx rfl (hb hby own_d8_76) (Steps.refl _)) ?_
            show own_G p.tables e below _ (s₁.setTop (mkF m 77 #[.val (.int ((((((y0.toUInt32 >>> ((8 : Int32) &&& 31).toUInt32).toInt32).toUInt32 >>> ((4 : Int32) &&& 31).toUInt32).toInt32).toUInt32 >>> ((2 : Int32) &&& 31).toUInt32).toInt32)), .val (.int ((((1 : Int32) + (8 : Int32)) + (4 : Int32)) + (2 : Int32)))] [(.int (1 : Int32)), (.int ((((((y0.toUInt32 >>> ((8 : Int32) &&& 31).toUInt32).toInt32).toUInt32 >>> ((4 : Int32) &&& 31).toUInt32).toInt32).toUInt32 >>> ((2 : Int32) &&& 31).toUInt32).toInt32)), (.int ((((1 : Int32) + (8 : Int32)) + (4 : Int32)) + (2 : Int32)))]))
            refine own_fs (XS.iushr X0.here hx rfl (hb hby own_d8_77) rfl (Steps.refl _)) ?_
            show own_G p.tables e below _ (s₁.setTop (mkF m 78 #[.val (.int ((((((y0.toUInt32 >>> ((8 : Int32) &&& 31).toUInt32).toInt32).toUInt32 >>> ((4 : Int32) &&& 31).toUInt32).toInt32).toUInt32 >>> ((2 : Int32) &&& 31).toUInt32).toInt32)), .val (.int ((((1 : Int32) + (8 : Int32)) + (4 : Int32)) + (2 : Int32)))] [(.int ((((((((y0.toUInt32 >>> ((8 : Int32) &&& 31).toUInt32).toInt32).toUInt32 >>> ((4 : Int32) &&& 31).toUInt32).toInt32).toUInt32 >>> ((2 : Int32) &&& 31).toUInt32).toInt32).toUInt32 >>> ((1 : Int32) &&& 31).toUInt32).toInt32)), (.int ((((1 : Int32) + (8 : Int32)) + (4 : Int32)) + (2 : Int32)))]))
            refine own_fs (XS.iadd X0.here hx rfl (hb hby own_d8_78) rfl (Steps.refl _)) ?_
            show own_G p.tables e below _ (s₁.setTop (mkF m 79 #[.val (.int ((((((y0.toUInt32 >>> ((8 : Int32) &&& 31).toUInt32).toInt32).toUInt32 >>> ((4 : Int32) &&& 31).toUInt32).toInt32).toUInt32 >>> ((2 : Int32) &&& 31).toUInt32).toInt32)), .val (.int ((((1 : Int32) + (8 : Int32)) + (4 : Int32)) + (2 : Int32)))] [(.int (((((1 : Int32) + (8 : Int32)) + (4 : Int32)) + (2 : Int32)) + ((((((((y0.toUInt32 >>> ((8 : Int32) &&& 31).toUInt32).toInt32).toUInt32 >>> ((4 : Int32) &&& 31).toUInt32).toInt32).toUInt32 >>> ((2 : Int32) &&& 31).toUInt32).toInt32).toUInt32 >>> ((1 : Int32) &&& 31).toUInt32).toInt32)))]))
            exact own_retI X0 hx Bd.returns hlk (hb hby own_d8_79) (by decide) (by decide) e0 ⟨(by simp only [own_ntzI, own_ntzY, own_s16, own_s8, own_s4, own_s2, own_s1, hg_y0, hc23, hc38, hc52, hc64, hc9, ↓reduceIte]), N0, rfl⟩
          · refine own_fs (XS.icmpYes X0.here hx rfl (pc0 := 64) (pc' := 74) rfl (hb hby own_d8_64) rfl (XT.ii_le_t hc64) (by decide) (by decide) (Steps.refl _)) ?_
            show own_G p.tables e below _ (s₁.setTop (mkF m 74 #[.val (.int ((((y0.toUInt32 >>> ((8 : Int32) &&& 31).toUInt32).toInt32).toUInt32 >>> ((4 : Int32) &&& 31).toUInt32).toInt32)), .val (.int (((1 : Int32) + (8 : Int32)) + (4 : Int32)))] []))
            refine own_fs (XS.iloadN X0.here hx rfl (hb hby own_d8_74) rfl (Steps.refl _)) ?_
            show own_G p.tables e below _ (s₁.setTop (mkF m 75 #[.val (.int ((((y0.toUInt32 >>> ((8 : Int32) &&& 31).toUInt32).toInt32).toUInt32 >>> ((4 : Int32) &&& 31).toUInt32).toInt32)), .val (.int (((1 : Int32) + (8 : Int32)) + (4 : Int32)))] [(.int (((1 : Int32) + (8 : Int32)) + (4 : Int32)))]))
            refine own_fs (XS.iloadN X0.here hx rfl (hb hby own_d8_75) rfl (Steps.refl _)) ?_
            show own_G p.tables e below _ (s₁.setTop (mkF m 76 #[.val (.int ((((y0.toUInt32 >>> ((8 : Int32) &&& 31).toUInt32).toInt32).toUInt32 >>> ((4 : Int32) &&& 31).toUInt32).toInt32)), .val (.int (((1 : Int32) + (8 : Int32)) + (4 : Int32)))] [(.int ((((y0.toUInt32 >>> ((8 : Int32) &&& 31).toUInt32).toInt32).toUInt32 >>> ((4 : Int32) &&& 31).toUInt32).toInt32)), (.int (((1 : Int32) + (8 : Int32)) + (4 : Int32)))]))
            refine own_fs (XS.iconst X0.here hx rfl (hb hby own_d8_76) (Steps.refl _)) ?_
            show own_G p.tables e below _ (s₁.setTop (mkF m 77 #[.val (.int ((((y0.toUInt32 >>> ((8 : Int32) &&& 31).toUInt32).toInt32).toUInt32 >>> ((4 : Int32) &&& 31).toUInt32).toInt32)), .val (.int (((1 : Int32) + (8 : Int32)) + (4 : Int32)))] [(.int (1 : Int32)), (.int ((((y0.toUInt32 >>> ((8 : Int32) &&& 31).toUInt32).toInt32).toUInt32 >>> ((4 : Int32) &&& 31).toUInt32).toInt32)), (.int (((1 : Int32) + (8 : Int32)) + (4 : Int32)))]))
            refine own_fs (XS.iushr X0.here hx rfl (hb hby own_d8_77) rfl (Steps.refl _)) ?_
            show own_G p.tables e below _ (s₁.setTop (mkF m 78 #[.val (.int ((((y0.toUInt32 >>> ((8 : Int32) &&& 31).toUInt32).toInt32).toUInt32 >>> ((4 : Int32) &&& 31).toUInt32).toInt32)), .val (.int (((1 : Int32) + (8 : Int32)) + (4 : Int32)))] [(.int ((((((y0.toUInt32 >>> ((8 : Int32) &&& 31).toUInt32).toInt32).toUInt32 >>> ((4 : Int32) &&& 31).toUInt32).toInt32).toUInt32 >>> ((1 : Int32) &&& 31).toUInt32).toInt32)), (.int (((1 : Int32) + (8 : Int32)) + (4 : Int32)))]))
            refine own_fs (XS.iadd X0.here hx rfl (hb hby own_d8_78) rfl (Steps.refl _)) ?_
            show own_G p.tables e below _ (s₁.setTop (mkF m 79 #[.val (.int ((((y0.toUInt32 >>> ((8 : Int32) &&& 31).toUInt32).toInt32).toUInt32 >>> ((4 : Int32) &&& 31).toUInt32).toInt32)), .val (.int (((1 : Int32) + (8 : Int32)) + (4 : Int32)))] [(.int ((((1 : Int32) + (8 : Int32)) + (4 : Int32)) + ((((((y0.toUInt32 >>> ((8 : Int32) &&& 31).toUInt32).toInt32).toUInt32 >>> ((4 : Int32) &&& 31).toUInt32).toInt32).toUInt32 >>> ((1 : Int32) &&& 31).toUInt32).toInt32)))]))
            exact own_retI X0 hx Bd.returns hlk (hb hby own_d8_79) (by decide) (by decide) e0 ⟨(by simp only [own_ntzI, own_ntzY, own_s16, own_s8, own_s4, own_s2, own_s1, hg_y0, hc23, hc38, hc52, hc64, hc9, ↓reduceIte]), N0, rfl⟩
        · refine own_fs (XS.icmpYes X0.here hx rfl (pc0 := 52) (pc' := 62) rfl (hb hby own_d8_52) rfl (XT.ii_le_t hc52) (by decide) (by decide) (Steps.refl _)) ?_
          show own_G p.tables e below _ (s₁.setTop (mkF m 62 #[.val (.int ((y0.toUInt32 >>> ((8 : Int32) &&& 31).toUInt32).toInt32)), .val (.int ((1 : Int32) + (8 : Int32)))] []))
          refine own_fs (XS.iloadN X0.here hx rfl (hb hby own_d8_62) rfl (Steps.refl _)) ?_
          show own_G p.tables e below _ (s₁.setTop (mkF m 63 #[.val (.int ((y0.toUInt32 >>> ((8 : Int32) &&& 31).toUInt32).toInt32)), .val (.int ((1 : Int32) + (8 : Int32)))] [(.int ((y0.toUInt32 >>> ((8 : Int32) &&& 31).toUInt32).toInt32))]))
          refine own_fs (XS.iconst X0.here hx rfl (hb hby own_d8_63) (Steps.refl _)) ?_
          show own_G p.tables e below _ (s₁.setTop (mkF m 64 #[.val (.int ((y0.toUInt32 >>> ((8 : Int32) &&& 31).toUInt32).toInt32)), .val (.int ((1 : Int32) + (8 : Int32)))] [(.int (4 : Int32)), (.int ((y0.toUInt32 >>> ((8 : Int32) &&& 31).toUInt32).toInt32))]))
          by_cases hc64 : (4 : Int32) < ((y0.toUInt32 >>> ((8 : Int32) &&& 31).toUInt32).toInt32)
          · refine own_fs (XS.icmpNo X0.here hx rfl (hb hby own_d8_64) rfl (XT.ii_le_f hc64) (Steps.refl _)) ?_
            show own_G p.tables e below _ (s₁.setTop (mkF m 67 #[.val (.int ((y0.toUInt32 >>> ((8 : Int32) &&& 31).toUInt32).toInt32)), .val (.int ((1 : Int32) + (8 : Int32)))] []))
            refine own_fs (XS.iinc X0.here hx rfl (hb hby own_d8_67) rfl (l' := #[.val (.int ((y0.toUInt32 >>> ((8 : Int32) &&& 31).toUInt32).toInt32)), .val (.int (((1 : Int32) + (8 : Int32)) + (2 : Int32)))]) rfl (Steps.refl _)) ?_
            show own_G p.tables e below _ (s₁.setTop (mkF m 70 #[.val (.int ((y0.toUInt32 >>> ((8 : Int32) &&& 31).toUInt32).toInt32)), .val (.int (((1 : Int32) + (8 : Int32)) + (2 : Int32)))] []))
            refine own_fs (XS.iloadN X0.here hx rfl (hb hby own_d8_70) rfl (Steps.refl _)) ?_
            show own_G p.tables e below _ (s₁.setTop (mkF m 71 #[.val (.int ((y0.toUInt32 >>> ((8 : Int32) &&& 31).toUInt32).toInt32)), .val (.int (((1 : Int32) + (8 : Int32)) + (2 : Int32)))] [(.int ((y0.toUInt32 >>> ((8 : Int32) &&& 31).toUInt32).toInt32))]))
            refine own_fs (XS.iconst X0.here hx rfl (hb hby own_d8_71) (Steps.refl _)) ?_
            show own_G p.tables e below _ (s₁.setTop (mkF m 72 #[.val (.int ((y0.toUInt32 >>> ((8 : Int32) &&& 31).toUInt32).toInt32)), .val (.int (((1 : Int32) + (8 : Int32)) + (2 : Int32)))] [(.int (2 : Int32)), (.int ((y0.toUInt32 >>> ((8 : Int32) &&& 31).toUInt32).toInt32))]))
            refine own_fs (XS.iushr X0.here hx rfl (hb hby own_d8_72) rfl (Steps.refl _)) ?_
            show own_G p.tables e below _ (s₁.setTop (mkF m 73 #[.val (.int ((y0.toUInt32 >>> ((8 : Int32) &&& 31).toUInt32).toInt32)), .val (.int (((1 : Int32) + (8 : Int32)) + (2 : Int32)))] [(.int ((((y0.toUInt32 >>> ((8 : Int32) &&& 31).toUInt32).toInt32).toUInt32 >>> ((2 : Int32) &&& 31).toUInt32).toInt32))]))
            refine own_fs (XS.istoreN X0.here hx rfl (hb hby own_d8_73) rfl (l' := #[.val (.int ((((y0.toUInt32 >>> ((8 : Int32) &&& 31).toUInt32).toInt32).toUInt32 >>> ((2 : Int32) &&& 31).toUInt32).toInt32)), .val (.int (((1 : Int32) + (8 : Int32)) + (2 : Int32)))]) rfl (Steps.refl _)) ?_
            show own_G p.tables e below _ (s₁.setTop (mkF m 74 #[.val (.int ((((y0.toUInt32 >>> ((8 : Int32) &&& 31).toUInt32).toInt32).toUInt32 >>> ((2 : Int32) &&& 31).toUInt32).toInt32)), .val (.int (((1 : Int32) + (8 : Int32)) + (2 : Int32)))] []))
            refine own_fs (XS.iloadN X0.here hx rfl (hb hby own_d8_74) rfl (Steps.refl _)) ?_
            show own_G p.tables e below _ (s₁.setTop (mkF m 75 #[.val (.int ((((y0.toUInt32 >>> ((8 : Int32) &&& 31).toUInt32).toInt32).toUInt32 >>> ((2 : Int32) &&& 31).toUInt32).toInt32)), .val (.int (((1 : Int32) + (8 : Int32)) + (2 : Int32)))] [(.int (((1 : Int32) + (8 : Int32)) + (2 : Int32)))]))
            refine own_fs (XS.iloadN X0.here hx rfl (hb hby own_d8_75) rfl (Steps.refl _)) ?_
            show own_G p.tables e below _ (s₁.setTop (mkF m 76 #[.val (.int ((((y0.toUInt32 >>> ((8 : Int32) &&& 31).toUInt32).toInt32).toUInt32 >>> ((2 : Int32) &&& 31).toUInt32).toInt32)), .val (.int (((1 : Int32) + (8 : Int32)) + (2 : Int32)))] [(.int ((((y0.toUInt32 >>> ((8 : Int32) &&& 31).toUInt32).toInt32).toUInt32 >>> ((2 : Int32) &&& 31).toUInt32).toInt32)), (.int (((1 : Int32) + (8 : Int32)) + (2 : Int32)))]))
            refine own_fs (XS.iconst X0.here hx rfl (hb hby own_d8_76) (Steps.refl _)) ?_
            show own_G p.tables e below _ (s₁.setTop (mkF m 77 #[.val (.int ((((y0.toUInt32 >>> ((8 : Int32) &&& 31).toUInt32).toInt32).toUInt32 >>> ((2 : Int32) &&& 31).toUInt32).toInt32)), .val (.int (((1 : Int32) + (8 : Int32)) + (2 : Int32)))] [(.int (1 : Int32)), (.int ((((y0.toUInt32 >>> ((8 : Int32) &&& 31).toUInt32).toInt32).toUInt32 >>> ((2 : Int32) &&& 31).toUInt32).toInt32)), (.int (((1 : Int32) + (8 : Int32)) + (2 : Int32)))]))
            refine own_fs (XS.iushr X0.here hx rfl (hb hby own_d8_77) rfl (Steps.refl _)) ?_
            show own_G p.tables e below _ (s₁.setTop (mkF m 78 #[.val (.int ((((y0.toUInt32 >>> ((8 : Int32) &&& 31).toUInt32).toInt32).toUInt32 >>> ((2 : Int32) &&& 31).toUInt32).toInt32)), .val (.int (((1 : Int32) + (8 : Int32)) + (2 : Int32)))] [(.int ((((((y0.toUInt32 >>> ((8 : Int32) &&& 31).toUInt32).toInt32).toUInt32 >>> ((2 : Int32) &&& 31).toUInt32).toInt32).toUInt32 >>> ((1 : Int32) &&& 31).toUInt32).toInt32)), (.int (((1 : Int32) + (8 : Int32)) + (2 : Int32)))]))
            refine own_fs (XS.iadd X0.here hx rfl (hb hby own_d8_78) rfl (Steps.refl _)) ?_
            show own_G p.tables e below _ (s₁.setTop (mkF m 79 #[.val (.int ((((y0.toUInt32 >>> ((8 : Int32) &&& 31).toUInt32).toInt32).toUInt32 >>> ((2 : Int32) &&& 31).toUInt32).toInt32)), .val (.int (((1 : Int32) + (8 : Int32)) + (2 : Int32)))] [(.int ((((1 : Int32) + (8 : Int32)) + (2 : Int32)) + ((((((y0.toUInt32 >>> ((8 : Int32) &&& 31).toUInt32).toInt32).toUInt32 >>> ((2 : Int32) &&& 31).toUInt32).toInt32).toUInt32 >>> ((1 : Int32) &&& 31).toUInt32).toInt32)))]))
            exact own_retI X0 hx Bd.returns hlk (hb hby own_d8_79) (by decide) (by decide) e0 ⟨(by simp only [own_ntzI, own_ntzY, own_s16, own_s8, own_s4, own_s2, own_s1, hg_y0, hc23, hc38, hc52, hc64, hc9, ↓reduceIte]), N0, rfl⟩
          · refine own_fs (XS.icmpYes X0.here hx rfl (pc0 := 64) (pc' := 74) rfl (hb hby own_d8_64) rfl (XT.ii_le_t hc64) (by decide) (by decide) (Steps.refl _)) ?_
            show own_G p.tables e below _ (s₁.setTop (mkF m 74 #[.val (.int ((y0.toUInt32 >>> ((8 : Int32) &&& 31).toUInt32).toInt32)), .val (.int ((1 : Int32) + (8 : Int32)))] []))
            refine own_fs (XS.iloadN X0.here hx rfl (hb hby own_d8_74) rfl (Steps.refl _)) ?_
            show own_G p.tables e below _ (s₁.setTop (mkF m 75 #[.val (.int ((y0.toUInt32 >>> ((8 : Int32) &&& 31).toUInt32).toInt32)), .val (.int ((1 : Int32) + (8 : Int32)))] [(.int ((1 : Int32) + (8 : Int32)))]))
            refine own_fs (XS.iloadN X0.here hx rfl (hb hby own_d8_75) rfl (Steps.refl _)) ?_
            show own_G p.tables e below _ (s₁.setTop (mkF m 76 #[.val (.int ((y0.toUInt32 >>> ((8 : Int32) &&& 31).toUInt32).toInt32)), .val (.int ((1 : Int32) + (8 : Int32)))] [(.int ((y0.toUInt32 >>> ((8 : Int32) &&& 31).toUInt32).toInt32)), (.int ((1 : Int32) + (8 : Int32)))]))
            refine own_fs (XS.iconst X0.here hx rfl (hb hby own_d8_76) (Steps.refl _)) ?_
            show own_G p.tables e below _ (s₁.setTop (mkF m 77 #[.val (.int ((y0.toUInt32 >>> ((8 : Int32) &&& 31).toUInt32).toInt32)), .val (.int ((1 : Int32) + (8 : Int32)))] [(.int (1 : Int32)), (.int ((y0.toUInt32 >>> ((8 : Int32) &&& 31).toUInt32).toInt32)), (.int ((1 : Int32) + (8 : Int32)))]))
            refine own_fs (XS.iushr X0.here hx rfl (hb hby own_d8_77) rfl (Steps.refl _)) ?_
            show own_G p.tables e below _ (s₁.setTop (mkF m 78 #[.val (.int ((y0.toUInt32 >>> ((8 : Int32) &&& 31).toUInt32).toInt32)), .val (.int ((1 : Int32) + (8 : Int32)))] [(.int ((((y0.toUInt32 >>> ((8 : Int32) &&& 31).toUInt32).toInt32).toUInt32 >>> ((1 : Int32) &&& 31).toUInt32).toInt32)), (.int ((1 : Int32) + (8 : Int32)))]))
            refine own_fs (XS.iadd X0.here hx rfl (hb hby own_d8_78) rfl (Steps.refl _)) ?_
            show own_G p.tables e below _ (s₁.setTop (mkF m 79 #[.val (.int ((y0.toUInt32 >>> ((8 : Int32) &&& 31).toUInt32).toInt32)), .val (.int ((1 : Int32) + (8 : Int32)))] [(.int (((1 : Int32) + (8 : Int32)) + ((((y0.toUInt32 >>> ((8 : Int32) &&& 31).toUInt32).toInt32).toUInt32 >>> ((1 : Int32) &&& 31).toUInt32).toInt32)))]))
            exact own_retI X0 hx Bd.returns hlk (hb hby own_d8_79) (by decide) (by decide) e0 ⟨(by simp only [own_ntzI, own_ntzY, own_s16, own_s8, own_s4, own_s2, own_s1, hg_y0, hc23, hc38, hc52, hc64, hc9, ↓reduceIte]), N0, rfl⟩
      · refine own_fs (XS.icmpYes X0.here hx rfl (pc0 := 38) (pc' := 49) rfl (hb hby own_d8_38) rfl (XT.ii_le_t hc38) (by decide) (by decide) (Steps.refl _)) ?_
        show own_G p.tables e below _ (s₁.setTop (mkF m 49 #[.val (.int y0), .val (.int (1 : Int32))] []))
        refine own_fs (XS.iloadN X0.here hx rfl (hb hby own_d8_49) rfl (Steps.refl _)) ?_
        show own_G p.tables e below _ (s₁.setTop (mkF m 50 #[.val (.int y0), .val (.int (1 : Int32))] [(.int y0)]))
        refine own_fs (XS.bipush X0.here hx rfl (hb hby own_d8_50) (Steps.refl _)) ?_
        show own_G p.tables e below _ (s₁.setTop (mkF m 52 #[.val (.int y0), .val (.int (1 : Int32))] [(.int (16 : Int32)), (.int y0)]))
        by_cases hc52 : (16 : Int32) < y0
        · refine own_fs (XS.icmpNo X0.here hx rfl (hb hby own_d8_52) rfl (XT.ii_le_f hc52) (Steps.refl _)) ?_
          show own_G p.tables e below _ (s₁.setTop (mkF m 55 #[.val (.int y0), .val (.int (1 : Int32))] []))
          refine own_fs (XS.iinc X0.here hx rfl (hb hby own_d8_55) rfl (l' := #[.val (.int y0), .val (.int ((1 : Int32) + (4 : Int32)))]) rfl (Steps.refl _)) ?_
          show own_G p.tables e below _ (s₁.setTop (mkF m 58 #[.val (.int y0), .val (.int ((1 : Int32) + (4 : Int32)))] []))
          refine own_fs (XS.iloadN X0.here hx rfl (hb hby own_d8_58) rfl (Steps.refl _)) ?_
          show own_G p.tables e below _ (s₁.setTop (mkF m 59 #[.val (.int y0), .val (.int ((1 : Int32) + (4 : Int32)))] [(.int y0)]))
          refine own_fs (XS.iconst X0.here hx rfl (hb hby own_d8_59) (Steps.refl _)) ?_
          show own_G p.tables e below _ (s₁.setTop (mkF m 60 #[.val (.int y0), .val (.int ((1 : Int32) + (4 : Int32)))] [(.int (4 : Int32)), (.int y0)]))
          refine own_fs (XS.iushr X0.here hx rfl (hb hby own_d8_60) rfl (Steps.refl _)) ?_
          show own_G p.tables e below _ (s₁.setTop (mkF m 61 #[.val (.int y0), .val (.int ((1 : Int32) + (4 : Int32)))] [(.int ((y0.toUInt32 >>> ((4 : Int32) &&& 31).toUInt32).toInt32))]))
          refine own_fs (XS.istoreN X0.here hx rfl (hb hby own_d8_61) rfl (l' := #[.val (.int ((y0.toUInt32 >>> ((4 : Int32) &&& 31).toUInt32).toInt32)), .val (.int ((1 : Int32) + (4 : Int32)))]) rfl (Steps.refl _)) ?_
          show own_G p.tables e below _ (s₁.setTop (mkF m 62 #[.val (.int ((y0.toUInt32 >>> ((4 : Int32) &&& 31).toUInt32).toInt32)), .val (.int ((1 : Int32) + (4 : Int32)))] []))
          refine own_fs (XS.iloadN X0.here hx rfl (hb hby own_d8_62) rfl (Steps.refl _)) ?_
          show own_G p.tables e below _ (s₁.setTop (mkF m 63 #[.val (.int ((y0.toUInt32 >>> ((4 : Int32) &&& 31).toUInt32).toInt32)), .val (.int ((1 : Int32) + (4 : Int32)))] [(.int ((y0.toUInt32 >>> ((4 : Int32) &&& 31).toUInt32).toInt32))]))
          refine own_fs (XS.iconst X0.here hx rfl (hb hby own_d8_63) (Steps.refl _)) ?_
          show own_G p.tables e below _ (s₁.setTop (mkF m 64 #[.val (.int ((y0.toUInt32 >>> ((4 : Int32) &&& 31).toUInt32).toInt32)), .val (.int ((1 : Int32) + (4 : Int32)))] [(.int (4 : Int32)), (.int ((y0.toUInt32 >>> ((4 : Int32) &&& 31).toUInt32).toInt32))]))
          by_cases hc64 : (4 : Int32) < ((y0.toUInt32 >>> ((4 : Int32) &&& 31).toUInt32).toInt32)
          · refine own_fs (XS.icmpNo X0.here hx rfl (hb hby own_d8_64) rfl (XT.ii_le_f hc64) (Steps.refl _)) ?_
            show own_G p.tables e below _ (s₁.setTop (mkF m 67 #[.val (.int ((y0.toUInt32 >>> ((4 : Int32) &&& 31).toUInt32).toInt32)), .val (.int ((1 : Int32) + (4 : Int32)))] []))
            refine own_fs (XS.iinc X0.here hx rfl (hb hby own_d8_67) rfl (l' := #[.val (.int ((y0.toUInt32 >>> ((4 : Int32) &&& 31).toUInt32).toInt32)), .val (.int (((1 : Int32) + (4 : Int32)) + (2 : Int32)))]) rfl (Steps.refl _)) ?_
            show own_G p.tables e below _ (s₁.setTop (mkF m 70 #[.val (.int ((y0.toUInt32 >>> ((4 : Int32) &&& 31).toUInt32).toInt32)), .val (.int (((1 : Int32) + (4 : Int32)) + (2 : Int32)))] []))
            refine own_fs (XS.iloadN X0.here hx rfl (hb hby own_d8_70) rfl (Steps.refl _)) ?_
            show own_G p.tables e below _ (s₁.setTop (mkF m 71 #[.val (.int ((y0.toUInt32 >>> ((4 : Int32) &&& 31).toUInt32).toInt32)), .val (.int (((1 : Int32) + (4 : Int32)) + (2 : Int32)))] [(.int ((y0.toUInt32 >>> ((4 : Int32) &&& 31).toUInt32).toInt32))]))
            refine own_fs (XS.iconst X0.here hx rfl (hb hby own_d8_71) (Steps.refl _)) ?_
            show own_G p.tables e below _ (s₁.setTop (mkF m 72 #[.val (.int ((y0.toUInt32 >>> ((4 : Int32) &&& 31).toUInt32).toInt32)), .val (.int (((1 : Int32) + (4 : Int32)) + (2 : Int32)))] [(.int (2 : Int32)), (.int ((y0.toUInt32 >>> ((4 : Int32) &&& 31).toUInt32).toInt32))]))
            refine own_fs (XS.iushr X0.here hx rfl (hb hby own_d8_72) rfl (Steps.refl _)) ?_
            show own_G p.tables e below _ (s₁.setTop (mkF m 73 #[.val (.int ((y0.toUInt32 >>> ((4 : Int32) &&& 31).toUInt32).toInt32)), .val (.int (((1 : Int32) + (4 : Int32)) + (2 : Int32)))] [(.int ((((y0.toUInt32 >>> ((4 : Int32) &&& 31).toUInt32).toInt32).toUInt32 >>> ((2 : Int32) &&& 31).toUInt32).toInt32))]))
            refine own_fs (XS.istoreN X0.here hx rfl (hb hby own_d8_73) rfl (l' := #[.val (.int ((((y0.toUInt32 >>> ((4 : Int32) &&& 31).toUInt32).toInt32).toUInt32 >>> ((2 : Int32) &&& 31).toUInt32).toInt32)), .val (.int (((1 : Int32) + (4 : Int32)) + (2 : Int32)))]) rfl (Steps.refl _)) ?_
            show own_G p.tables e below _ (s₁.setTop (mkF m 74 #[.val (.int ((((y0.toUInt32 >>> ((4 : Int32) &&& 31).toUInt32).toInt32).toUInt32 >>> ((2 : Int32) &&& 31).toUInt32).toInt32)), .val (.int (((1 : Int32) + (4 : Int32)) + (2 : Int32)))] []))
            refine own_fs (XS.iloadN X0.here hx rfl (hb hby own_d8_74) rfl (Steps.refl _)) ?_
            show own_G p.tables e below _ (s₁.setTop (mkF m 75 #[.val (.int ((((y0.toUInt32 >>> ((4 : Int32) &&& 31).toUInt32).toInt32).toUInt32 >>> ((2 : Int32) &&& 31).toUInt32).toInt32)), .val (.int (((1 : Int32) + (4 : Int32)) + (2 : Int32)))] [(.int (((1 : Int32) + (4 : Int32)) + (2 : Int32)))]))
            refine own_fs (XS.iloadN X0.here hx rfl (hb hby own_d8_75) rfl (Steps.refl _)) ?_
            show own_G p.tables e below _ (s₁.setTop (mkF m 76 #[.val (.int ((((y0.toUInt32 >>> ((4 : Int32) &&& 31).toUInt32).toInt32).toUInt32 >>> ((2 : Int32) &&& 31).toUInt32).toInt32)), .val (.int (((1 : Int32) + (4 : Int32)) + (2 : Int32)))] [(.int ((((y0.toUInt32 >>> ((4 : Int32) &&& 31).toUInt32).toInt32).toUInt32 >>> ((2 : Int32) &&& 31).toUInt32).toInt32)), (.int (((1 : Int32) + (4 : Int32)) + (2 : Int32)))]))
            refine own_fs (XS.iconst X0.here hx rfl (hb hby own_d8_76) (Steps.refl _)) ?_
            show own_G p.tables e below _ (s₁.setTop (mkF m 77 #[.val (.int ((((y0.toUInt32 >>> ((4 : Int32) &&& 31).toUInt32).toInt32).toUInt32 >>> ((2 : Int32) &&& 31).toUInt32).toInt32)), .val (.int (((1 : Int32) + (4 : Int32)) + (2 : Int32)))] [(.int (1 : Int32)), (.int ((((y0.toUInt32 >>> ((4 : Int32) &&& 31).toUInt32).toInt32).toUInt32 >>> ((2 : Int32) &&& 31).toUInt32).toInt32)), (.int (((1 : Int32) + (4 : Int32)) + (2 : Int32)))]))
            refine own_fs (XS.iushr X0.here hx rfl (hb hby own_d8_77) rfl (Steps.refl _)) ?_
            show own_G p.tables e below _ (s₁.setTop (mkF m 78 #[.val (.int ((((y0.toUInt32 >>> ((4 : Int32) &&& 31).toUInt32).toInt32).toUInt32 >>> ((2 : Int32) &&& 31).toUInt32).toInt32)), .val (.int (((1 : Int32) + (4 : Int32)) + (2 : Int32)))] [(.int ((((((y0.toUInt32 >>> ((4 : Int32) &&& 31).toUInt32).toInt32).toUInt32 >>> ((2 : Int32) &&& 31).toUInt32).toInt32).toUInt32 >>> ((1 : Int32) &&& 31).toUInt32).toInt32)), (.int (((1 : Int32) + (4 : Int32)) + (2 : Int32)))]))
            refine own_fs (XS.iadd X0.here hx rfl (hb hby own_d8_78) rfl (Steps.refl _)) ?_
            show own_G p.tables e below _ (s₁.setTop (mkF m 79 #[.val (.int ((((y0.toUInt32 >>> ((4 : Int32) &&& 31).toUInt32).toInt32).toUInt32 >>> ((2 : Int32) &&& 31).toUInt32).toInt32)), .val (.int (((1 : Int32) + (4 : Int32)) + (2 : Int32)))] [(.int ((((1 : Int32) + (4 : Int32)) + (2 : Int32)) + ((((((y0.toUInt32 >>> ((4 : Int32) &&& 31).toUInt32).toInt32).toUInt32 >>> ((2 : Int32) &&& 31).toUInt32).toInt32).toUInt32 >>> ((1 : Int32) &&& 31).toUInt32).toInt32)))]))
            exact own_retI X0 hx Bd.returns hlk (hb hby own_d8_79) (by decide) (by decide) e0 ⟨(by simp only [own_ntzI, own_ntzY, own_s16, own_s8, own_s4, own_s2, own_s1, hg_y0, hc23, hc38, hc52, hc64, hc9, ↓reduceIte]), N0, rfl⟩
          · refine own_fs (XS.icmpYes X0.here hx rfl (pc0 := 64) (pc' := 74) rfl (hb hby own_d8_64) rfl (XT.ii_le_t hc64) (by decide) (by decide) (Steps.refl _)) ?_
            show own_G p.tables e below _ (s₁.setTop (mkF m 74 #[.val (.int ((y0.toUInt32 >>> ((4 : Int32) &&& 31).toUInt32).toInt32)), .val (.int ((1 : Int32) + (4 : Int32)))] []))
            refine own_fs (XS.iloadN X0.here hx rfl (hb hby own_d8_74) rfl (Steps.refl _)) ?_
            show own_G p.tables e below _ (s₁.setTop (mkF m 75 #[.val (.int ((y0.toUInt32 >>> ((4 : Int32) &&& 31).toUInt32).toInt32)), .val (.int ((1 : Int32) + (4 : Int32)))] [(.int ((1 : Int32) + (4 : Int32)))]))
            refine own_fs (XS.iloadN X0.here hx rfl (hb hby own_d8_75) rfl (Steps.refl _)) ?_
            show own_G p.tables e below _ (s₁.setTop (mkF m 76 #[.val (.int ((y0.toUInt32 >>> ((4 : Int32) &&& 31).toUInt32).toInt32)), .val (.int ((1 : Int32) + (4 : Int32)))] [(.int ((y0.toUInt32 >>> ((4 : Int32) &&& 31).toUInt32).toInt32)), (.int ((1 : Int32) + (4 : Int32)))]))
            refine own_fs (XS.iconst X0.here hx rfl (hb hby own_d8_76) (Steps.refl _)) ?_
            show own_G p.tables e below _ (s₁.setTop (mkF m 77 #[.val (.int ((y0.toUInt32 >>> ((4 : Int32) &&& 31).toUInt32).toInt32)), .val (.int ((1 : Int32) + (4 : Int32)))] [(.int (1 : Int32)), (.int ((y0.toUInt32 >>> ((4 : Int32) &&& 31).toUInt32).toInt32)), (.int ((1 : Int32) + (4 : Int32)))]))
            refine own_fs (XS.iushr X0.here hx rfl (hb hby own_d8_77) rfl (Steps.refl _)) ?_
            show own_G p.tables e below _ (s₁.setTop (mkF m 78 #[.val (.int ((y0.toUInt32 >>> ((4 : Int32) &&& 31).toUInt32).toInt32)), .val (.int ((1 : Int32) + (4 : Int32)))] [(.int ((((y0.toUInt32 >>> ((4 : Int32) &&& 31).toUInt32).toInt32).toUInt32 >>> ((1 : Int32) &&& 31).toUInt32).toInt32)), (.int ((1 : Int32) + (4 : Int32)))]))
            refine own_fs (XS.iadd X0.here hx rfl (hb hby own_d8_78) rfl (Steps.refl _)) ?_
            show own_G p.tables e below _ (s₁.setTop (mkF m 79 #[.val (.int ((y0.toUInt32 >>> ((4 : Int32) &&& 31).toUInt32).toInt32)), .val (.int ((1 : Int32) + (4 : Int32)))] [(.int (((1 : Int32) + (4 : Int32)) + ((((y0.toUInt32 >>> ((4 : Int32) &&& 31).toUInt32).toInt32).toUInt32 >>> ((1 : Int32) &&& 31).toUInt32).toInt32)))]))
            exact own_retI X0 hx Bd.returns hlk (hb hby own_d8_79) (by decide) (by decide) e0 ⟨(by simp only [own_ntzI, own_ntzY, own_s16, own_s8, own_s4, own_s2, own_s1, hg_y0, hc23, hc38, hc52, hc64, hc9, ↓reduceIte]), N0, rfl⟩
        · refine own_fs (XS.icmpYes X0.here hx rfl (pc0 := 52) (pc' := 62) rfl (hb hby own_d8_52) rfl (XT.ii_le_t hc52) (by decide) (by decide) (Steps.refl _)) ?_
          show own_G p.tables e below _ (s₁.setTop (mkF m 62 #[.val (.int y0), .val (.int (1 : Int32))] []))
          refine own_fs (XS.iloadN X0.here hx rfl (hb hby own_d8_62) rfl (Steps.refl _)) ?_
          show own_G p.tables e below _ (s₁.setTop (mkF m 63 #[.val (.int y0), .val (.int (1 : Int32))] [(.int y0)]))
          refine own_fs (XS.iconst X0.here hx rfl (hb hby own_d8_63) (Steps.refl _)) ?_
          show own_G p.tables e below _ (s₁.setTop (mkF m 64 #[.val (.int y0), .val (.int (1 : Int32))] [(.int (4 : Int32)), (.int y0)]))
          by_cases hc64 : (4 : Int32) < y0
          · refine own_fs (XS.icmpNo X0.here hx rfl (hb hby own_d8_64) rfl (XT.ii_le_f hc64) (Steps.refl _)) ?_
            show own_G p.tables e below _ (s₁.setTop (mkF m 67 #[.val (.int y0), .val (.int (1 : Int32))] []))
            refine own_fs (XS.iinc X0.here hx rfl (hb hby own_d8_67) rfl (l' := #[.val (.int y0), .val (.int ((1 : Int32) + (2 : Int32)))]) rfl (Steps.refl _)) ?_
            show own_G p.tables e below _ (s₁.setTop (mkF m 70 #[.val (.int y0), .val (.int ((1 : Int32) + (2 : Int32)))] []))
            refine own_fs (XS.iloadN X0.here hx rfl (hb hby own_d8_70) rfl (Steps.refl _)) ?_
            show own_G p.tables e below _ (s₁.setTop (mkF m 71 #[.val (.int y0), .val (.int ((1 : Int32) + (2 : Int32)))] [(.int y0)]))
            refine own_fs (XS.iconst X0.here hx rfl (hb hby own_d8_71) (Steps.refl _)) ?_
            show own_G p.tables e below _ (s₁.setTop (mkF m 72 #[.val (.int y0), .val (.int ((1 : Int32) + (2 : Int32)))] [(.int (2 : Int32)), (.int y0)]))
            refine own_fs (XS.iushr X0.here hx rfl (hb hby own_d8_72) rfl (Steps.refl _)) ?_
            show own_G p.tables e below _ (s₁.setTop (mkF m 73 #[.val (.int y0), .val (.int ((1 : Int32) + (2 : Int32)))] [(.int ((y0.toUInt32 >>> ((2 : Int32) &&& 31).toUInt32).toInt32))]))
            refine own_fs (XS.istoreN X0.here hx rfl (hb hby own_d8_73) rfl (l' := #[.val (.int ((y0.toUInt32 >>> ((2 : Int32) &&& 31).toUInt32).toInt32)), .val (.int ((1 : Int32) + (2 : Int32)))]) rfl (Steps.refl _)) ?_
            show own_G p.tables e below _ (s₁.setTop (mkF m 74 #[.val (.int ((y0.toUInt32 >>> ((2 : Int32) &&& 31).toUInt32).toInt32)), .val (.int ((1 : Int32) + (2 : Int32)))] []))
            refine own_fs (XS.iloadN X0.here hx rfl (hb hby own_d8_74) rfl (Steps.refl _)) ?_
            show own_G p.tables e below _ (s₁.setTop (mkF m 75 #[.val (.int ((y0.toUInt32 >>> ((2 : Int32) &&& 31).toUInt32).toInt32)), .val (.int ((1 : Int32) + (2 : Int32)))] [(.int ((1 : Int32) + (2 : Int32)))]))
            refine own_fs (XS.iloadN X0.here hx rfl (hb hby own_d8_75) rfl (Steps.refl _)) ?_
            show own_G p.tables e below _ (s₁.setTop (mkF m 76 #[.val (.int ((y0.toUInt32 >>> ((2 : Int32) &&& 31).toUInt32).toInt32)), .val (.int ((1 : Int32) + (2 : Int32)))] [(.int ((y0.toUInt32 >>> ((2 : Int32) &&& 31).toUInt32).toInt32)), (.int ((1 : Int32) + (2 : Int32)))]))
            refine own_fs (XS.iconst X0.here hx rfl (hb hby own_d8_76) (Steps.refl _)) ?_
            show own_G p.tables e below _ (s₁.setTop (mkF m 77 #[.val (.int ((y0.toUInt32 >>> ((2 : Int32) &&& 31).toUInt32).toInt32)), .val (.int ((1 : Int32) + (2 : Int32)))] [(.int (1 : Int32)), (.int ((y0.toUInt32 >>> ((2 : Int32) &&& 31).toUInt32).toInt32)), (.int ((1 : Int32) + (2 : Int32)))]))
            refine own_fs (XS.iushr X0.here hx rfl (hb hby own_d8_77) rfl (Steps.refl _)) ?_
            show own_G p.tables e below _ (s₁.setTop (mkF m 78 #[.val (.int ((y0.toUInt32 >>> ((2 : Int32) &&& 31).toUInt32).toInt32)), .val (.int ((1 : Int32) + (2 : Int32)))] [(.int ((((y0.toUInt32 >>> ((2 : Int32) &&& 31).toUInt32).toInt32).toUInt32 >>> ((1 : Int32) &&& 31).toUInt32).toInt32)), (.int ((1 : Int32) + (2 : Int32)))]))
            refine own_fs (XS.iadd X0.here hx rfl (hb hby own_d8_78) rfl (Steps.refl _)) ?_
            show own_G p.tables e below _ (s₁.setTop (mkF m 79 #[.val (.int ((y0.toUInt32 >>> ((2 : Int32) &&& 31).toUInt32).toInt32)), .val (.int ((1 : Int32) + (2 : Int32)))] [(.int (((1 : Int32) + (2 : Int32)) + ((((y0.toUInt32 >>> ((2 : Int32) &&& 31).toUInt32).toInt32).toUInt32 >>> ((1 : Int32) &&& 31).toUInt32).toInt32)))]))
            exact own_retI X0 hx Bd.returns hlk (hb hby own_d8_79) (by decide) (by decide) e0 ⟨(by simp only [own_ntzI, own_ntzY, own_s16, own_s8, own_s4, own_s2, own_s1, hg_y0, hc23, hc38, hc52, hc64, hc9, ↓reduceIte]), N0, rfl⟩
          · refine own_fs (XS.icmpYes X0.here hx rfl (pc0 := 64) (pc' := 74) rfl (hb hby own_d8_64) rfl (XT.ii_le_t hc64) (by decide) (by decide) (Steps.refl _)) ?_
            show own_G p.tables e below _ (s₁.setTop (mkF m 74 #[.val (.int y0), .val (.int (1 : Int32))] []))
            refine own_fs (XS.iloadN X0.here hx rfl (hb hby own_d8_74) rfl (Steps.refl _)) ?_
            show own_G p.tables e below _ (s₁.setTop (mkF m 75 #[.val (.int y0), .val (.int (1 : Int32))] [(.int (1 : Int32))]))
            refine own_fs (XS.iloadN X0.here hx rfl (hb hby own_d8_75) rfl (Steps.refl _)) ?_
            show own_G p.tables e below _ (s₁.setTop (mkF m 76 #[.val (.int y0), .val (.int (1 : Int32))] [(.int y0), (.int (1 : Int32))]))
            refine own_fs (XS.iconst X0.here hx rfl (hb hby own_d8_76) (Steps.refl _)) ?_
            show own_G p.tables e below _ (s₁.setTop (mkF m 77 #[.val (.int y0), .val (.int (1 : Int32))] [(.int (1 : Int32)), (.int y0), (.int (1 : Int32))]))
            refine own_fs (XS.iushr X0.here hx rfl (hb hby own_d8_77) rfl (Steps.refl _)) ?_
            show own_G p.tables e below _ (s₁.setTop (mkF m 78 #[.val (.int y0), .val (.int (1 : Int32))] [(.int ((y0.toUInt32 >>> ((1 : Int32) &&& 31).toUInt32).toInt32)), (.int (1 : Int32))]))
            refine own_fs (XS.iadd X0.here hx rfl (hb hby own_d8_78) rfl (Steps.refl _)) ?_
            show own_G p.tables e below _ (s₁.setTop (mkF m 79 #[.val (.int y0), .val (.int (1 : Int32))] [(.int ((1 : Int32) + ((y0.toUInt32 >>> ((1 : Int32) &&& 31).toUInt32).toInt32)))]))
            exact own_retI X0 hx Bd.returns hlk (hb hby own_d8_79) (by decide) (by decide) e0 ⟨(by simp only [own_ntzI, own_ntzY, own_s16, own_s8, own_s4, own_s2, own_s1, hg_y0, hc23, hc38, hc52, hc64, hc9, ↓reduceIte]), N0, rfl⟩
  · refine own_fs (XS.ifNo X0.here hx rfl (hb hby own_d8_9) rfl (XT.i0_gt_f hc9) (Steps.refl _)) ?_
    show own_G p.tables e below _ (s₁.setTop (mkF m 12 #[.val (.int y0), .unset] []))
    refine own_fs (XS.iloadN X0.here hx rfl (hb hby own_d8_12) rfl (Steps.refl _)) ?_
    show own_G p.tables e below _ (s₁.setTop (mkF m 13 #[.val (.int y0), .unset] [(.int y0)]))
    refine own_fs (XS.bipush X0.here hx rfl (hb hby own_d8_13) (Steps.refl _)) ?_
    show own_G p.tables e below _ (s₁.setTop (mkF m 15 #[.val (.int y0), .unset] [(.int (32 : Int32)), (.int y0)]))
    refine own_fs (XS.iand X0.here hx rfl (hb hby own_d8_15) rfl (Steps.refl _)) ?_
    show own_G p.tables e below _ (s₁.setTop (mkF m 16 #[.val (.int y0), .unset] [(.int (y0 &&& (32 : Int32)))]))
    exact own_retI X0 hx Bd.returns hlk (hb hby own_d8_16) (by decide) (by decide) e0 ⟨(by simp only [own_ntzI, own_ntzY, own_s16, own_s8, own_s4, own_s2, own_s1, hg_y0, hc9, ↓reduceIte]), N0, rfl⟩
theorem own_rntzL_ef (m : MethodId) (x0 : Int64) : entryFrame m #[(.long x0)] 3 = mkF m 0 #[.val (.long x0), .second, .unset] [] := by first | (simp [entryFrame, mkF, argsToLocals, Value.category]; done) | rfl
def own_rntzL_Q (Z : State) (q1 : Int64) (h0 : Heap) (n0 : Nat) (v : Option Value) (h : Heap) (L : List Loc) : Prop := (v = some (.int (own_ntzL q1)) ∧ Fr n0 L ∧ h = h0)
set_option maxRecDepth 65536 in
set_option maxHeartbeats 40000000 in
theorem own_rntzL (l : Launch) (Z : State) (a0 : Array Value) (hw : ∀ d ∈ tables_1, d.before a0 Z = true) (ws : List Jvm.Cond) (q1 : Int64) (h0 : Heap) (n0 : Nat) (Z0 : n0 ≤ h0.size)  :
    MetFree l (⟨"java/lang/Long", "numberOfTrailingZeros", "(J)I"⟩ : MethodName) (head1 (Jvm.Cond.code (⟨"java/lang/Long", "numberOfTrailingZeros", "(J)I"⟩ : MethodName) jdk_35_method_49_code 3 (some .int) :: ws) ({ frames := 1, cells := 0, slots := 0, locals := 14 } : Room)) (fun a U => a = #[(.long q1)] ∧ Z.Warmed39 U.vm ∧ U.heap = h0) (fun _ _ _ _ _ => True) (fun _ U o U' => ∃ v L, o = .returned v ∧ own_rntzL_Q Z q1 h0 n0 v U'.heap L ∧ FrameEnd U o U' L ({ frames := 1, cells := 0, slots := 0, locals := 14 } : Room).cells ({ frames := 1, cells := 0, slots := 0, locals := 14 } : Room).slots) := by
  refine MetFree.of_bodySF (plainFor_of_name own_pn1) hisR ?_
  intro p e s m args below meth c s₁ Bd hml0 hP hK
  obtain ⟨rfl, hZ, hh⟩ := hP
  have hx := Bd.exec
  have hby := Bd.bytes
  have hlk : meth.locks = false := BodyLoose.notSynchronized Bd
  have hml : c.maxLocals = 3 := hml0
  have hown : s.vm.findClass "java/lang/Long" = some m.cls := findClass_of_methodNamed Bd.named
  have hnm := (name_of_methodNamed Bd.named Bd.method).1
  have X0 : Stand p l e ({ frames := 1, cells := 0, slots := 0, locals := 14 } : Room) s m #[(.long q1)] below meth c s₁ [] 0 0 := Stand.of_body Bd
  have e0 : s₁.heap = h0 := by rw [← hh, Bd.state]; rfl
  have N0 := Fr.nil n0
  refine own_start (QQ := own_rntzL_Q Z q1 h0 n0) (rc := ({ frames := 1, cells := 0, slots := 0, locals := 14 } : Room).cells) (rs := ({ frames := 1, cells := 0, slots := 0, locals := 14 } : Room).slots) (own_rntzL_ef m q1 ) ?_
  show own_G p.tables e below _ (s₁.setTop (mkF m 0 #[.val (.long q1), .second, .unset] []))
  refine own_fs (XS.lloadN X0.here hx rfl (hb hby own_d7_0) rfl (Steps.refl _)) ?_
  show own_G p.tables e below _ (s₁.setTop (mkF m 1 #[.val (.long q1), .second, .unset] [(.long q1)]))
  refine own_fs (XS.l2i X0.here hx rfl (hb hby own_d7_1) rfl (Steps.refl _)) ?_
  show own_G p.tables e below _ (s₁.setTop (mkF m 2 #[.val (.long q1), .second, .unset] [(.int (q1.toInt32))]))
  refine own_fs (XS.istoreN X0.here hx rfl (hb hby own_d7_2) rfl (l' := #[.val (.long q1), .second, .val (.int (q1.toInt32))]) rfl (Steps.refl _)) ?_
  show own_G p.tables e below _ (s₁.setTop (mkF m 3 #[.val (.long q1), .second, .val (.int (q1.toInt32))] []))
  refine own_fs (XS.iloadN X0.here hx rfl (hb hby own_d7_3) rfl (Steps.refl _)) ?_
  show own_G p.tables e below _ (s₁.setTop (mkF m 4 #[.val (.long q1), .second, .val (.int (q1.toInt32))] [(.int (q1.toInt32))]))
  by_cases hc4 : (q1.toInt32) = (0 : Int32)
  · refine own_fs (XS.ifNo X0.here hx rfl (hb hby own_d7_4) rfl (XT.i0_ne_f hc4) (Steps.refl _)) ?_
    show own_G p.tables e below _ (s₁.setTop (mkF m 7 #[.val (.long q1), .second, .val (.int (q1.toInt32))] []))
    refine own_fs (XS.bipush X0.here hx rfl (hb hby own_d7_7) (Steps.refl _)) ?_
    show own_G p.tables e below _ (s₁.setTop (mkF m 9 #[.val (.long q1), .second, .val (.int (q1.toInt32))] [(.int (32 : Int32))]))
    refine own_fs (XS.lloadN X0.here hx rfl (hb hby own_d7_9) rfl (Steps.refl _)) ?_
    show own_G p.tables e below _ (s₁.setTop (mkF m 10 #[.val (.long q1), .second, .val (.int (q1.toInt32))] [(.long q1), (.int (32 : Int32))]))
    refine own_fs (XS.bipush X0.here hx rfl (hb hby own_d7_10) (Steps.refl _)) ?_
    show own_G p.tables e below _ (s₁.setTop (mkF m 12 #[.val (.long q1), .second, .val (.int (q1.toInt32))] [(.int (32 : Int32)), (.long q1), (.int (32 : Int32))]))
    refine own_fs (XS.lushr X0.here hx rfl (hb hby own_d7_12) rfl (Steps.refl _)) ?_
    show own_G p.tables e below _ (s₁.setTop (mkF m 13 #[.val (.long q1), .second, .val (.int (q1.toInt32))] [(.long ((q1.toUInt64 >>> ((32 : Int32) &&& 0x3f).toInt64.toUInt64).toInt64)), (.int (32 : Int32))]))
    refine own_fs (XS.l2i X0.here hx rfl (hb hby own_d7_13) rfl (Steps.refl _)) ?_
    show own_G p.tables e below _ (s₁.setTop (mkF m 14 #[.val (.long q1), .second, .val (.int (q1.toInt32))] [(.int (((q1.toUInt64 >>> ((32 : Int32) &&& 0x3f).toInt64.toUInt64).toInt64).toInt32)), (.int (32 : Int32))]))
    have Zs3 : n0 ≤ h0.size := Z0
    obtain ⟨_, _, ⟨T2, L2, k2, n2⟩, -, X2, ⟨Lc2, hQ2, l2, y2, z2⟩, st2⟩ := Jvm.LawKit.callS X0 hx (y := (⟨"java/lang/Integer", "numberOfTrailingZeros", "(I)I"⟩ : MethodName)) hown (mvT hZ (hw _ (List.mem_of_getElem? (i := 38) rfl))) (mvT hZ (hw _ (List.mem_of_getElem? (i := 39) rfl))) (mvT hZ (hw _ (List.mem_of_getElem? (i := 40) rfl))) (mvT hZ (hw _ (List.mem_of_getElem? (i := 41) rfl))) (by decide) (backOf (W := 1) (own_rntzI l Z a0 hw [] (((q1.toUInt64 >>> ((32 : Int32) &&& 0x3f).toInt64.toUInt64).toInt64).toInt32) h0 n0 Zs3 ) hZ (hw _ (List.mem_of_getElem? (i := 41) rfl)) (hw _ (List.mem_of_getElem? (i := 40) rfl)) (by decide) (by decide)) (g := (mkF m 14 #[.val (.long q1), .second, .val (.int (q1.toInt32))] [(.int (((q1.toUInt64 >>> ((32 : Int32) &&& 0x3f).toInt64.toUInt64).toInt64).toInt32)), (.int (32 : Int32))])) rfl (by rw [hml]; rfl) (argsL := [(.int (((q1.toUInt64 >>> ((32 : Int32) &&& 0x3f).toInt64.toUInt64).toInt64).toInt32))]) (rest := [(.int (32 : Int32))]) (lenOf own_pd0 rfl) rfl (by show 2 * 0 + _ ≤ _; exact Nat.le_of_eq rfl) (hb hby own_d7_14) (fun _ _ => ⟨rfl, e0, (by decide : 0 + 0 ≤ _), (by decide : 0 + 0 ≤ _)⟩)
    dsimp only [Pt.U, Pt.locs, Pt.cells, Pt.slots] at X2 l2 y2 z2 st2 hQ2
    subst l2 y2 z2
    obtain ⟨rfl, Nq2, e2⟩ := hQ2
    have N2 := Fr.app N0 Nq2
    refine own_fs (st2 _ (Steps.refl _)) ?_
    show own_G p.tables e below _ (T2.setTop (mkF m 17 #[.val (.long q1), .second, .val (.int (q1.toInt32))] [(.int (own_ntzI (((q1.toUInt64 >>> ((32 : Int32) &&& 0x3f).toInt64.toUInt64).toInt64).toInt32))), (.int (32 : Int32))]))
    refine own_fs (XS.iadd X2.here hx rfl (hb hby own_d7_17) rfl (Steps.refl _)) ?_
    show own_G p.tables e below _ (T2.setTop (mkF m 18 #[.val (.long q1), .second, .val (.int (q1.toInt32))] [(.int ((32 : Int32) + (own_ntzI (((q1.toUInt64 >>> ((32 : Int32) &&& 0x3f).toInt64.toUInt64).toInt64).toInt32))))]))
    refine own_fs (XS.goto X2.here hx rfl (pc0 := 18) (pc' := 25) rfl (hb hby own_d7_18) (by decide) (by decide) (Steps.refl _)) ?_
    show own_G p.tables e below _ (T2.setTop (mkF m 25 #[.val (.long q1), .second, .val (.int (q1.toInt32))] [(.int ((32 : Int32) + (own_ntzI (((q1.toUInt64 >>> ((32 : Int32) &&& 0x3f).toInt64.toUInt64).toInt64).toInt32))))]))
    exact own_retI X2 hx Bd.returns hlk (hb hby own_d7_25) (by decide) (by decide) e2 ⟨(by simp only [own_ntzL, if_pos hc4]), N2, rfl⟩
  · refine own_fs (XS.ifYes X0.here hx rfl (pc0 := 4) (pc' := 21) rfl (hb hby own_d7_4) rfl (XT.i0_ne_t hc4) (by decide) (by decide) (Steps.refl _)) ?_
    show own_G p.tables e below _ (s₁.setTop (mkF m 21 #[.val (.long q1), .second, .val (.int (q1.toInt32))] []))
    refine own_fs (XS.iloadN X0.here hx rfl (hb hby own_d7_21) rfl (Steps.refl _)) ?_
    show own_G p.tables e below _ (s₁.setTop (mkF m 22 #[.val (.long q1), .second, .val (.int (q1.toInt32))] [(.int (q1.toInt32))]))
    have Zs6 : n0 ≤ h0.size := Z0
    obtain ⟨_, _, ⟨T5, L5, k5, n5⟩, -, X5, ⟨Lc5, hQ5, l5, y5, z5⟩, st5⟩ := Jvm.LawKit.callS X0 hx (y := (⟨"java/lang/Integer", "numberOfTrailingZeros", "(I)I"⟩ : MethodName)) hown (mvT hZ (hw _ (List.mem_of_getElem? (i := 38) rfl))) (mvT hZ (hw _ (List.mem_of_getElem? (i := 39) rfl))) (mvT hZ (hw _ (List.mem_of_getElem? (i := 40) rfl))) (mvT hZ (hw _ (List.mem_of_getElem? (i := 41) rfl))) (by decide) (backOf (W := 0) (own_rntzI l Z a0 hw [] (q1.toInt32) h0 n0 Zs6 ) hZ (hw _ (List.mem_of_getElem? (i := 41) rfl)) (hw _ (List.mem_of_getElem? (i := 40) rfl)) (by decide) (by decide)) (g := (mkF m 22 #[.val (.long q1), .second, .val (.int (q1.toInt32))] [(.int (q1.toInt32))])) rfl (by rw [hml]; rfl) (argsL := [(.int (q1.toInt32))]) (rest := []) (lenOf own_pd0 rfl) rfl (by show 2 * 0 + _ ≤ _; exact Nat.le_of_eq rfl) (hb hby own_d7_22) (fun _ _ => ⟨rfl, e0, (by decide : 0 + 0 ≤ _), (by decide : 0 + 0 ≤ _)⟩)
    dsimp only [Pt.U, Pt.locs, Pt.cells, Pt.slots] at X5 l5 y5 z5 st5 hQ5
    subst l5 y5 z5
    obtain ⟨rfl, Nq5, e5⟩ := hQ5
    have N5 := Fr.app N0 Nq5
    refine own_fs (st5 _ (Steps.refl _)) ?_
    show own_G p.tables e below _ (T5.setTop (mkF m 25 #[.val (.long q1), .second, .val (.int (q1.toInt32))] [(.int (own_ntzI (q1.toInt32)))]))
    exact own_retI X5 hx Bd.returns hlk (hb hby own_d7_25) (by decide) (by decide) e5 ⟨(by simp only [own_ntzL, if_neg hc4]), N5, rfl⟩
theorem own_rleast_ef (m : MethodId) (x0 : Int32) (x1 : Int32) (x2 : Int32) (x3 : Int32) (x4 : Int32) : entryFrame m #[(.int x0), (.int x1), (.int x2), (.int x3), (.int x4)] 6 = mkF m 0 #[.val (.int x0), .val (.int x1), .val (.int x2), .val (.int x3), .val (.int x4), .unset] [] := by first | (simp [entryFrame, mkF, argsToLocals, Value.category]; done) | rfl
def own_rleast_Q (Z : State) (fr : Int32) (pa : Int32) (ia : Int32) (pb : Int32) (ib : Int32) (h0 : Heap) (n0 : Nat) (v : Option Value) (h : Heap) (L : List Loc) : Prop := (v = some (.int (own_least fr pa ia pb ib)) ∧ Fr n0 L ∧ h = h0)
set_option maxRecDepth 65536 in
set_option maxHeartbeats 40000000 in
theorem own_rleast (l : Launch) (Z : State) (a0 : Array Value) (hw : ∀ d ∈ tables_1, d.before a0 Z = true) (ws : List Jvm.Cond) (fr : Int32) (pa : Int32) (ia : Int32) (pb : Int32) (ib : Int32) (h0 : Heap) (n0 : Nat) (Z0 : n0 ≤ h0.size) (hpa : ¬ (pa < (0 : Int32))) :
    MetFree l (⟨"com/example/diligent_tableau/diligenttableau/tableau/WorklistRemovePinLaw", "least", "(IIZIZ)I"⟩ : MethodName) (head1 (Jvm.Cond.code (⟨"com/example/diligent_tableau/diligenttableau/tableau/WorklistRemovePinLaw", "least", "(IIZIZ)I"⟩ : MethodName) method_2_code 6 (some .int) :: ws) ({ frames := 0, cells := 0, slots := 0, locals := 0 } : Room)) (fun a U => a = #[(.int fr), (.int pa), (.int ia), (.int pb), (.int ib)] ∧ Z.Warmed39 U.vm ∧ U.heap = h0) (fun _ _ _ _ _ => True) (fun _ U o U' => ∃ v L, o = .returned v ∧ own_rleast_Q Z fr pa ia pb ib h0 n0 v U'.heap L ∧ FrameEnd U o U' L ({ frames := 0, cells := 0, slots := 0, locals := 0 } : Room).cells ({ frames := 0, cells := 0, slots := 0, locals := 0 } : Room).slots) := by
  refine MetFree.of_bodySF (plainFor_of_name own_pn2) hisR ?_
  intro p e s m args below meth c s₁ Bd hml0 hP hK
  obtain ⟨rfl, hZ, hh⟩ := hP
  have hx := Bd.exec
  have hby := Bd.bytes
  have hlk : meth.locks = false := BodyLoose.notSynchronized Bd
  have hml : c.maxLocals = 6 := hml0
  have hown : s.vm.findClass "com/example/diligent_tableau/diligenttableau/tableau/WorklistRemovePinLaw" = some m.cls := findClass_of_methodNamed Bd.named
  have hnm := (name_of_methodNamed Bd.named Bd.method).1
  have X0 : Stand p l e ({ frames := 0, cells := 0, slots := 0, locals := 0 } : Room) s m #[(.int fr), (.int pa), (.int ia), (.int pb), (.int ib)] below meth c s₁ [] 0 0 := Stand.of_body Bd
  have e0 : s₁.heap = h0 := by rw [← hh, Bd.state]; rfl
  have N0 := Fr.nil n0
  refine own_start (QQ := own_rleast_Q Z fr pa ia pb ib h0 n0) (rc := ({ frames := 0, cells := 0, slots := 0, locals := 0 } : Room).cells) (rs := ({ frames := 0, cells := 0, slots := 0, locals := 0 } : Room).slots) (own_rleast_ef m fr pa ia pb ib ) ?_
  show own_G p.tables e below _ (s₁.setTop (mkF m 0 #[.val (.int fr), .val (.int pa), .val (.int ia), .val (.int pb), .val (.int ib), .unset] []))
  refine own_fs (XS.iconst X0.here hx rfl (hb hby own_d9_0) (Steps.refl _)) ?_
  show own_G p.tables e below _ (s₁.setTop (mkF m 1 #[.val (.int fr), .val (.int pa), .val (.int ia), .val (.int pb), .val (.int ib), .unset] [(.int (-1 : Int32))]))
  refine own_fs (XS.istore X0.here hx rfl (hb hby own_d9_1) rfl (l' := #[.val (.int fr), .val (.int pa), .val (.int ia), .val (.int pb), .val (.int ib), .val (.int (-1 : Int32))]) rfl (Steps.refl _)) ?_
  show own_G p.tables e below _ (s₁.setTop (mkF m 3 #[.val (.int fr), .val (.int pa), .val (.int ia), .val (.int pb), .val (.int ib), .val (.int (-1 : Int32))] []))
  refine own_fs (XS.iloadN X0.here hx rfl (hb hby own_d9_3) rfl (Steps.refl _)) ?_
  show own_G p.tables e below _ (s₁.setTop (mkF m 4 #[.val (.int fr), .val (.int pa), .val (.int ia), .val (.int pb), .val (.int ib), .val (.int (-1 : Int32))] [(.int ia)]))
  by_cases hc4 : ia = (0 : Int32)
  · refine own_fs (XS.ifYes X0.here hx rfl (pc0 := 4) (pc' := 15) rfl (hb hby own_d9_4) rfl (XT.i0_eq_t hc4) (by decide) (by decide) (Steps.refl _)) ?_
    show own_G p.tables e below _ (s₁.setTop (mkF m 15 #[.val (.int fr), .val (.int pa), .val (.int ia), .val (.int pb), .val (.int ib), .val (.int (-1 : Int32))] []))
    refine own_fs (XS.iload X0.here hx rfl (hb hby own_d9_15) rfl (Steps.refl _)) ?_
    show own_G p.tables e below _ (s₁.setTop (mkF m 17 #[.val (.int fr), .val (.int pa), .val (.int ia), .val (.int pb), .val (.int ib), .val (.int (-1 : Int32))] [(.int ib)]))
    by_cases hc17 : ib = (0 : Int32)
    · refine own_fs (XS.ifYes X0.here hx rfl (pc0 := 17) (pc' := 39) rfl (hb hby own_d9_17) rfl (XT.i0_eq_t hc17) (by decide) (by decide) (Steps.refl _)) ?_
      show own_G p.tables e below _ (s₁.setTop (mkF m 39 #[.val (.int fr), .val (.int pa), .val (.int ia), .val (.int pb), .val (.int ib), .val (.int (-1 : Int32))] []))
      refine own_fs (XS.iload X0.here hx rfl (hb hby own_d9_39) rfl (Steps.refl _)) ?_
      show own_G p.tables e below _ (s₁.setTop (mkF m 41 #[.val (.int fr), .val (.int pa), .val (.int ia), .val (.int pb), .val (.int ib), .val (.int (-1 : Int32))] [(.int (-1 : Int32))]))
      exact own_retI X0 hx Bd.returns hlk (hb hby own_d9_41) (by decide) (by decide) e0 ⟨(by simp only [own_least, hc17, hc4, hpa, ↓reduceIte]), N0, rfl⟩
    · refine own_fs (XS.ifNo X0.here hx rfl (hb hby own_d9_17) rfl (XT.i0_eq_f hc17) (Steps.refl _)) ?_
      show own_G p.tables e below _ (s₁.setTop (mkF m 20 #[.val (.int fr), .val (.int pa), .val (.int ia), .val (.int pb), .val (.int ib), .val (.int (-1 : Int32))] []))
      refine own_fs (XS.iloadN X0.here hx rfl (hb hby own_d9_20) rfl (Steps.refl _)) ?_
      show own_G p.tables e below _ (s₁.setTop (mkF m 21 #[.val (.int fr), .val (.int pa), .val (.int ia), .val (.int pb), .val (.int ib), .val (.int (-1 : Int32))] [(.int pb)]))
      refine own_fs (XS.iloadN X0.here hx rfl (hb hby own_d9_21) rfl (Steps.refl _)) ?_
      show own_G p.tables e below _ (s₁.setTop (mkF m 22 #[.val (.int fr), .val (.int pa), .val (.int ia), .val (.int pb), .val (.int ib), .val (.int (-1 : Int32))] [(.int fr), (.int pb)]))
      by_cases hc22 : pb < fr
      · refine own_fs (XS.icmpYes X0.here hx rfl (pc0 := 22) (pc' := 39) rfl (hb hby own_d9_22) rfl (XT.ii_lt_t hc22) (by decide) (by decide) (Steps.refl _)) ?_
        show own_G p.tables e below _ (s₁.setTop (mkF m 39 #[.val (.int fr), .val (.int pa), .val (.int ia), .val (.int pb), .val (.int ib), .val (.int (-1 : Int32))] []))
        refine own_fs (XS.iload X0.here hx rfl (hb hby own_d9_39) rfl (Steps.refl _)) ?_
        show own_G p.tables e below _ (s₁.setTop (mkF m 41 #[.val (.int fr), .val (.int pa), .val (.int ia), .val (.int pb), .val (.int ib), .val (.int (-1 : Int32))] [(.int (-1 : Int32))]))
        exact own_retI X0 hx Bd.returns hlk (hb hby own_d9_41) (by decide) (by decide) e0 ⟨(by simp only [own_least, hc17, hc22, hc4, hpa, ↓reduceIte]), N0, rfl⟩
      · refine own_fs (XS.icmpNo X0.here hx rfl (hb hby own_d9_22) rfl (XT.ii_lt_f hc22) (Steps.refl _)) ?_
        show own_G p.tables e below _ (s₁.setTop (mkF m 25 #[.val (.int fr), .val (.int pa), .val (.int ia), .val (.int pb), .val (.int ib), .val (.int (-1 : Int32))] []))
        refine own_fs (XS.iload X0.here hx rfl (hb hby own_d9_25) rfl (Steps.refl _)) ?_
        show own_G p.tables e below _ (s₁.setTop (mkF m 27 #[.val (.int fr), .val (.int pa), .val (.int ia), .val (.int pb), .val (.int ib), .val (.int (-1 : Int32))] [(.int (-1 : Int32))]))
        refine own_fs (XS.ifYes X0.here hx rfl (pc0 := 27) (pc' := 36) rfl (hb hby own_d9_27) rfl (XT.i0_lt_t (by decide : (-1 : Int32) < (0 : Int32))) (by decide) (by decide) (Steps.refl _)) ?_
        show own_G p.tables e below _ (s₁.setTop (mkF m 36 #[.val (.int fr), .val (.int pa), .val (.int ia), .val (.int pb), .val (.int ib), .val (.int (-1 : Int32))] []))
        refine own_fs (XS.iloadN X0.here hx rfl (hb hby own_d9_36) rfl (Steps.refl _)) ?_
        show own_G p.tables e below _ (s₁.setTop (mkF m 37 #[.val (.int fr), .val (.int pa), .val (.int ia), .val (.int pb), .val (.int ib), .val (.int (-1 : Int32))] [(.int pb)]))
        refine own_fs (XS.istore X0.here hx rfl (hb hby own_d9_37) rfl (l' := #[.val (.int fr), .val (.int pa), .val (.int ia), .val (.int pb), .val (.int ib), .val (.int pb)]) rfl (Steps.refl _)) ?_
        show own_G p.tables e below _ (s₁.setTop (mkF m 39 #[.val (.int fr), .val (.int pa), .val (.int ia), .val (.int pb), .val (.int ib), .val (.int pb)] []))
        refine own_fs (XS.iload X0.here hx rfl (hb hby own_d9_39) rfl (Steps.refl _)) ?_
        show own_G p.tables e below _ (s₁.setTop (mkF m 41 #[.val (.int fr), .val (.int pa), .val (.int ia), .val (.int pb), .val (.int ib), .val (.int pb)] [(.int pb)]))
        exact own_retI X0 hx Bd.returns hlk (hb hby own_d9_41) (by decide) (by decide) e0 ⟨(by simp only [own_least, hc17, hc22, hc4, hpa, ↓reduceIte]), N0, rfl⟩
  · refine own_fs (XS.ifNo X0.here hx rfl (hb hby own_d9_4) rfl (XT.i0_eq_f hc4) (Steps.refl _)) ?_
    show own_G p.tables e below _ (s₁.setTop (mkF m 7 #[.val (.int fr), .val (.int pa), .val (.int ia), .val (.int pb), .val (.int ib), .val (.int (-1 : Int32))] []))
    refine own_fs (XS.iloadN X0.here hx rfl (hb hby own_d9_7) rfl (Steps.refl _)) ?_
    show own_G p.tables e below _ (s₁.setTop (mkF m 8 #[.val (.int fr), .val (.int pa), .val (.int ia), .val (.int pb), .val (.int ib), .val (.int (-1 : Int32))] [(.int pa)]))
    refine own_fs (XS.iloadN X0.here hx rfl (hb hby own_d9_8) rfl (Steps.refl _)) ?_
    show own_G p.tables e below _ (s₁.setTop (mkF m 9 #[.val (.int fr), .val (.int pa), .val (.int ia), .val (.int pb), .val (.int ib), .val (.int (-1 : Int32))] [(.int fr), (.int pa)]))
    by_cases hc9 : pa < fr
    · refine own_fs (XS.icmpYes X0.here hx rfl (pc0 := 9) (pc' := 15) rfl (hb hby own_d9_9) rfl (XT.ii_lt_t hc9) (by decide) (by decide) (Steps.refl _)) ?_
      show own_G p.tables e below _ (s₁.setTop (mkF m 15 #[.val (.int fr), .val (.int pa), .val (.int ia), .val (.int pb), .val (.int ib), .val (.int (-1 : Int32))] []))
      refine own_fs (XS.iload X0.here hx rfl (hb hby own_d9_15) rfl (Steps.refl _)) ?_
      show own_G p.tables e below _ (s₁.setTop (mkF m 17 #[.val (.int fr), .val (.int pa), .val (.int ia), .val (.int pb), .val (.int ib), .val (.int (-1 : Int32))] [(.int ib)]))
      by_cases hc17 : ib = (0 : Int32)
      · refine own_fs (XS.ifYes X0.here hx rfl (pc0 := 17) (pc' := 39) rfl (hb hby own_d9_17) rfl (XT.i0_eq_t hc17) (by decide) (by decide) (Steps.refl _)) ?_
        show own_G p.tables e below _ (s₁.setTop (mkF m 39 #[.val (.int fr), .val (.int pa), .val (.int ia), .val (.int pb), .val (.int ib), .val (.int (-1 : Int32))] []))
        refine own_fs (XS.iload X0.here hx rfl (hb hby own_d9_39) rfl (Steps.refl _)) ?_
        show own_G p.tables e below _ (s₁.setTop (mkF m 41 #[.val (.int fr), .val (.int pa), .val (.int ia), .val (.int pb), .val (.int ib), .val (.int (-1 : Int32))] [(.int (-1 : Int32))]))
        exact own_retI X0 hx Bd.returns hlk (hb hby own_d9_41) (by decide) (by decide) e0 ⟨(by simp only [own_least, hc17, hc4, hc9, hpa, ↓reduceIte]), N0, rfl⟩
      · refine own_fs (XS.ifNo X0.here hx rfl (hb hby own_d9_17) rfl (XT.i0_eq_f hc17) (Steps.refl _)) ?_
        show own_G p.tables e below _ (s₁.setTop (mkF m 20 #[.val (.int fr), .val (.int pa), .val (.int ia), .val (.int pb), .val (.int ib), .val (.int (-1 : Int32))] []))
        refine own_fs (XS.iloadN X0.here hx rfl (hb hby own_d9_20) rfl (Steps.refl _)) ?_
        show own_G p.tables e below _ (s₁.setTop (mkF m 21 #[.val (.int fr), .val (.int pa), .val (.int ia), .val (.int pb), .val (.int ib), .val (.int (-1 : Int32))] [(.int pb)]))
        refine own_fs (XS.iloadN X0.here hx rfl (hb hby own_d9_21) rfl (Steps.refl _)) ?_
        show own_G p.tables e below _ (s₁.setTop (mkF m 22 #[.val (.int fr), .val (.int pa), .val (.int ia), .val (.int pb), .val (.int ib), .val (.int (-1 : Int32))] [(.int fr), (.int pb)]))
        by_cases hc22 : pb < fr
        · refine own_fs (XS.icmpYes X0.here hx rfl (pc0 := 22) (pc' := 39) rfl (hb hby own_d9_22) rfl (XT.ii_lt_t hc22) (by decide) (by decide) (Steps.refl _)) ?_
          show own_G p.tables e below _ (s₁.setTop (mkF m 39 #[.val (.int fr), .val (.int pa), .val (.int ia), .val (.int pb), .val (.int ib), .val (.int (-1 : Int32))] []))
          refine own_fs (XS.iload X0.here hx rfl (hb hby own_d9_39) rfl (Steps.refl _)) ?_
          show own_G p.tables e below _ (s₁.setTop (mkF m 41 #[.val (.int fr), .val (.int pa), .val (.int ia), .val (.int pb), .val (.int ib), .val (.int (-1 : Int32))] [(.int (-1 : Int32))]))
          exact own_retI X0 hx Bd.returns hlk (hb hby own_d9_41) (by decide) (by decide) e0 ⟨(by simp only [own_least, hc17, hc22, hc4, hc9, hpa, ↓reduceIte]), N0, rfl⟩
        · refine own_fs (XS.icmpNo X0.here hx rfl (hb hby own_d9_22) rfl (XT.ii_lt_f hc22) (Steps.refl _)) ?_
          show own_G p.tables e below _ (s₁.setTop (mkF m 25 #[.val (.int fr), .val (.int pa), .val (.int ia), .val (.int pb), .val (.int ib), .val (.int (-1 : Int32))] []))
          refine own_fs (XS.iload X0.here hx rfl (hb hby own_d9_25) rfl (Steps.refl _)) ?_
          show own_G p.tables e below _ (s₁.setTop (mkF m 27 #[.val (.int fr), .val (.int pa), .val (.int ia), .val (.int pb), .val (.int ib), .val (.int (-1 : Int32))] [(.int (-1 : Int32))]))
          refine own_fs (XS.ifYes X0.here hx rfl (pc0 := 27) (pc' := 36) rfl (hb hby own_d9_27) rfl (XT.i0_lt_t (by decide : (-1 : Int32) < (0 : Int32))) (by decide) (by decide) (Steps.refl _)) ?_
          show own_G p.tables e below _ (s₁.setTop (mkF m 36 #[.val (.int fr), .val (.int pa), .val (.int ia), .val (.int pb), .val (.int ib), .val (.int (-1 : Int32))] []))
          refine own_fs (XS.iloadN X0.here hx rfl (hb hby own_d9_36) rfl (Steps.refl _)) ?_
          show own_G p.tables e below _ (s₁.setTop (mkF m 37 #[.val (.int fr), .val (.int pa), .val (.int ia), .val (.int pb), .val (.int ib), .val (.int (-1 : Int32))] [(.int pb)]))
          refine own_fs (XS.istore X0.here hx rfl (hb hby own_d9_37) rfl (l' := #[.val (.int fr), .val (.int pa), .val (.int ia), .val (.int pb), .val (.int ib), .val (.int pb)]) rfl (Steps.refl _)) ?_
          show own_G p.tables e below _ (s₁.setTop (mkF m 39 #[.val (.int fr), .val (.int pa), .val (.int ia), .val (.int pb), .val (.int ib), .val (.int pb)] []))
          refine own_fs (XS.iload X0.here hx rfl (hb hby own_d9_39) rfl (Steps.refl _)) ?_
          show own_G p.tables e below _ (s₁.setTop (mkF m 41 #[.val (.int fr), .val (.int pa), .val (.int ia), .val (.int pb), .val (.int ib), .val (.int pb)] [(.int pb)]))
          exact own_retI X0 hx Bd.returns hlk (hb hby own_d9_41) (by decide) (by decide) e0 ⟨(by simp only [own_least, hc17, hc22, hc4, hc9, hpa, ↓reduceIte]), N0, rfl⟩
    · refine own_fs (XS.icmpNo X0.here hx rfl (hb hby own_d9_9) rfl (XT.ii_lt_f hc9) (Steps.refl _)) ?_
      show own_G p.tables e below _ (s₁.setTop (mkF m 12 #[.val (.int fr), .val (.int pa), .val (.int ia), .val (.int pb), .val (.int ib), .val (.int (-1 : Int32))] []))
      refine own_fs (XS.iloadN X0.here hx rfl (hb hby own_d9_12) rfl (Steps.refl _)) ?_
      show own_G p.tables e below _ (s₁.setTop (mkF m 13 #[.val (.int fr), .val (.int pa), .val (.int ia), .val (.int pb), .val (.int ib), .val (.int (-1 : Int32))] [(.int pa)]))
      refine own_fs (XS.istore X0.here hx rfl (hb hby own_d9_13) rfl (l' := #[.val (.int fr), .val (.int pa), .val (.int ia), .val (.int pb), .val (.int ib), .val (.int pa)]) rfl (Steps.refl _)) ?_
      show own_G p.tables e below _ (s₁.setTop (mkF m 15 #[.val (.int fr), .val (.int pa), .val (.int ia), .val (.int pb), .val (.int ib), .val (.int pa)] []))
      refine own_fs (XS.iload X0.here hx rfl (hb hby own_d9_15) rfl (Steps.refl _)) ?_
      show own_G p.tables e below _ (s₁.setTop (mkF m 17 #[.val (.int fr), .val (.int pa), .val (.int ia), .val (.int pb), .val (.int ib), .val (.int pa)] [(.int ib)]))
      by_cases hc17 : ib = (0 : Int32)
      · refine own_fs (XS.ifYes X0.here hx rfl (pc0 := 17) (pc' := 39) rfl (hb hby own_d9_17) rfl (XT.i0_eq_t hc17) (by decide) (by decide) (Steps.refl _)) ?_
        show own_G p.tables e below _ (s₁.setTop (mkF m 39 #[.val (.int fr), .val (.int pa), .val (.int ia), .val (.int pb), .val (.int ib), .val (.int pa)] []))
        refine own_fs (XS.iload X0.here hx rfl (hb hby own_d9_39) rfl (Steps.refl _)) ?_
        show own_G p.tables e below _ (s₁.setTop (mkF m 41 #[.val (.int fr), .val (.int pa), .val (.int ia), .val (.int pb), .val (.int ib), .val (.int pa)] [(.int pa)]))
        exact own_retI X0 hx Bd.returns hlk (hb hby own_d9_41) (by decide) (by decide) e0 ⟨(by simp only [own_least, hc17, hc4, hc9, hpa, ↓reduceIte]), N0, rfl⟩
      · refine own_fs (XS.ifNo X0.here hx rfl (hb hby own_d9_17) rfl (XT.i0_eq_f hc17) (Steps.refl _)) ?_
        show own_G p.tables e below _ (s₁.setTop (mkF m 20 #[.val (.int fr), .val (.int pa), .val (.int ia), .val (.int pb), .val (.int ib), .val (.int pa)] []))
        refine own_fs (XS.iloadN X0.here hx rfl (hb hby own_d9_20) rfl (Steps.refl _)) ?_
        show own_G p.tables e below _ (s₁.setTop (mkF m 21 #[.val (.int fr), .val (.int pa), .val (.int ia), .val (.int pb), .val (.int ib), .val (.int pa)] [(.int pb)]))
        refine own_fs (XS.iloadN X0.here hx rfl (hb hby own_d9_21) rfl (Steps.refl _)) ?_
        show own_G p.tables e below _ (s₁.setTop (mkF m 22 #[.val (.int fr), .val (.int pa), .val (.int ia), .val (.int pb), .val (.int ib), .val (.int pa)] [(.int fr), (.int pb)]))
        by_cases hc22 : pb < fr
        · refine own_fs (XS.icmpYes X0.here hx rfl (pc0 := 22) (pc' := 39) rfl (hb hby own_d9_22) rfl (XT.ii_lt_t hc22) (by decide) (by decide) (Steps.refl _)) ?_
          show own_G p.tables e below _ (s₁.setTop (mkF m 39 #[.val (.int fr), .val (.int pa), .val (.int ia), .val (.int pb), .val (.int ib), .val (.int pa)] []))
          refine own_fs (XS.iload X0.here hx rfl (hb hby own_d9_39) rfl (Steps.refl _)) ?_
          show own_G p.tables e below _ (s₁.setTop (mkF m 41 #[.val (.int fr), .val (.int pa), .val (.int ia), .val (.int pb), .val (.int ib), .val (.int pa)] [(.int pa)]))
          exact own_retI X0 hx Bd.returns hlk (hb hby own_d9_41) (by decide) (by decide) e0 ⟨(by simp only [own_least, hc17, hc22, hc4, hc9, hpa, ↓reduceIte]), N0, rfl⟩
        · refine own_fs (XS.icmpNo X0.here hx rfl (hb hby own_d9_22) rfl (XT.ii_lt_f hc22) (Steps.refl _)) ?_
          show own_G p.tables e below _ (s₁.setTop (mkF m 25 #[.val (.int fr), .val (.int pa), .val (.int ia), .val (.int pb), .val (.int ib), .val (.int pa)] []))
          refine own_fs (XS.iload X0.here hx rfl (hb hby own_d9_25) rfl (Steps.refl _)) ?_
          show own_G p.tables e below _ (s₁.setTop (mkF m 27 #[.val (.int fr), .val (.int pa), .val (.int ia), .val (.int pb), .val (.int ib), .val (.int pa)] [(.int pa)]))
          refine own_fs (XS.ifNo X0.here hx rfl (hb hby own_d9_27) rfl (XT.i0_lt_f hpa) (Steps.refl _)) ?_
          show own_G p.tables e below _ (s₁.setTop (mkF m 30 #[.val (.int fr), .val (.int pa), .val (.int ia), .val (.int pb), .val (.int ib), .val (.int pa)] []))
          refine own_fs (XS.iloadN X0.here hx rfl (hb hby own_d9_30) rfl (Steps.refl _)) ?_
          show own_G p.tables e below _ (s₁.setTop (mkF m 31 #[.val (.int fr), .val (.int pa), .val (.int ia), .val (.int pb), .val (.int ib), .val (.int pa)] [(.int pb)]))
          refine own_fs (XS.iload X0.here hx rfl (hb hby own_d9_31) rfl (Steps.refl _)) ?_
          show own_G p.tables e below _ (s₁.setTop (mkF m 33 #[.val (.int fr), .val (.int pa), .val (.int ia), .val (.int pb), .val (.int ib), .val (.int pa)] [(.int pa), (.int pb)]))
          by_cases hc33 : pb < pa
          · refine own_fs (XS.icmpNo X0.here hx rfl (hb hby own_d9_33) rfl (XT.ii_ge_f hc33) (Steps.refl _)) ?_
            show own_G p.tables e below _ (s₁.setTop (mkF m 36 #[.val (.int fr), .val (.int pa), .val (.int ia), .val (.int pb), .val (.int ib), .val (.int pa)] []))
            refine own_fs (XS.iloadN X0.here hx rfl (hb hby own_d9_36) rfl (Steps.refl _)) ?_
            show own_G p.tables e below _ (s₁.setTop (mkF m 37 #[.val (.int fr), .val (.int pa), .val (.int ia), .val (.int pb), .val (.int ib), .val (.int pa)] [(.int pb)]))
            refine own_fs (XS.istore X0.here hx rfl (hb hby own_d9_37) rfl (l' := #[.val (.int fr), .val (.int pa), .val (.int ia), .val (.int pb), .val (.int ib), .val (.int pb)]) rfl (Steps.refl _)) ?_
            show own_G p.tables e below _ (s₁.setTop (mkF m 39 #[.val (.int fr), .val (.int pa), .val (.int ia), .val (.int pb), .val (.int ib), .val (.int pb)] []))
            refine own_fs (XS.iload X0.here hx rfl (hb hby own_d9_39) rfl (Steps.refl _)) ?_
            show own_G p.tables e below _ (s₁.setTop (mkF m 41 #[.val (.int fr), .val (.int pa), .val (.int ia), .val (.int pb), .val (.int ib), .val (.int pb)] [(.int pb)]))
            exact own_retI X0 hx Bd.returns hlk (hb hby own_d9_41) (by decide) (by decide) e0 ⟨(by simp only [own_least, hc17, hc22, hc33, hc4, hc9, hpa, ↓reduceIte]), N0, rfl⟩
          · refine own_fs (XS.icmpYes X0.here hx rfl (pc0 := 33) (pc' := 39) rfl (hb hby own_d9_33) rfl (XT.ii_ge_t hc33) (by decide) (by decide) (Steps.refl _)) ?_
            show own_G p.tables e below _ (s₁.setTop (mkF m 39 #[.val (.int fr), .val (.int pa), .val (.int ia), .val (.int pb), .val (.int ib), .val (.int pa)] []))
            refine own_fs (XS.iload X0.here hx rfl (hb hby own_d9_39) rfl (Steps.refl _)) ?_
            show own_G p.tables e below _ (s₁.setTop (mkF m 41 #[.val (.int fr), .val (.int pa), .val (.int ia), .val (.int pb), .val (.int ib), .val (.int pa)] [(.int pa)]))
            exact own_retI X0 hx Bd.returns hlk (hb hby own_d9_41) (by decide) (by decide) e0 ⟨(by simp only [own_least, hc17, hc22, hc33, hc4, hc9, hpa, ↓reduceIte]), N0, rfl⟩
theorem own_copyOf_ef (m : MethodId) (x0 : Addr) (x1 : Int32) : entryFrame m #[(.ref x0), (.int x1)] 3 = mkF m 0 #[.val (.ref x0), .val (.int x1), .unset] [] := by first | (simp [entryFrame, mkF, argsToLocals, Value.category]; done) | rfl
def own_copyOf_Q (Z : State) (d1 : Addr) (p1 : Int32) (k1 : ClassId) (z1 : Int32) (ff : Nat → Int64) (h0 : Heap) (n0 : Nat) (v : Option Value) (h : Heap) (L : List Loc) : Prop := ∃ br : Addr, ∃ kr : ClassId, (v = some (.ref br) ∧ Fr n0 L ∧ Keep h0 h [] ∧ (h0.size ≤ br) ∧ (Arv Z h br kr .long p1 (own_L ff) (.long (0 : Int64))))
set_option maxRecDepth 65536 in
set_option maxHeartbeats 40000000 in
theorem own_copyOf (l : Launch) (Z : State) (a0 : Array Value) (hw : ∀ d ∈ tables_1, d.before a0 Z = true) (ws : List Jvm.Cond) (d1 : Addr) (p1 : Int32) (k1 : ClassId) (z1 : Int32) (ff : Nat → Int64) (h0 : Heap) (n0 : Nat) (Z0 : n0 ≤ h0.size) (hV_d1 : Arv Z h0 d1 k1 .long z1 (own_L ff) (.long (0 : Int64))) (hfz : ∀ i, z1.toNatClampNeg ≤ i → ff i = 0) (hz1 : ¬ z1 < 0) (hlt : z1 < p1) (hp16 : p1.toInt ≤ 16) :
    MetFree l (⟨"java/util/Arrays", "copyOf", "([JI)[J"⟩ : MethodName) (head1 (Jvm.Cond.code (⟨"java/util/Arrays", "copyOf", "([JI)[J"⟩ : MethodName) jdk_65_method_124_code 3 (some (.array .long)) :: ws) ({ frames := 1, cells := 1, slots := 16, locals := 18 } : Room)) (fun a U => a = #[(.ref d1), (.int p1)] ∧ Z.Warmed39 U.vm ∧ U.heap = h0) (fun _ _ _ _ _ => True) (fun _ U o U' => ∃ v L, o = .returned v ∧ own_copyOf_Q Z d1 p1 k1 z1 ff h0 n0 v U'.heap L ∧ FrameEnd U o U' L ({ frames := 1, cells := 1, slots := 16, locals := 18 } : Room).cells ({ frames := 1, cells := 1, slots := 16, locals := 18 } : Room).slots) := by
  refine MetFree.of_bodySF (plainFor_of_name own_pn3) hisR ?_
  intro p e s m args below meth c s₁ Bd hml0 hP hK
  obtain ⟨rfl, hZ, hh⟩ := hP
  have hx := Bd.exec
  have hby := Bd.bytes
  have hlk : meth.locks = false := BodyLoose.notSynchronized Bd
  have hml : c.maxLocals = 3 := hml0
  have hown : s.vm.findClass "java/util/Arrays" = some m.cls := findClass_of_methodNamed Bd.named
  have hnm := (name_of_methodNamed Bd.named Bd.method).1
  have X0 : Stand p l e ({ frames := 1, cells := 1, slots := 16, locals := 18 } : Room) s m #[(.ref d1), (.int p1)] below meth c s₁ [] 0 0 := Stand.of_body Bd
  have e0 : s₁.heap = h0 := by rw [← hh, Bd.state]; rfl
  have N0 := Fr.nil n0
  refine own_start (QQ := own_copyOf_Q Z d1 p1 k1 z1 ff h0 n0) (rc := ({ frames := 1, cells := 1, slots := 16, locals := 18 } : Room).cells) (rs := ({ frames := 1, cells := 1, slots := 16, locals := 18 } : Room).slots) (own_copyOf_ef m d1 p1 ) ?_
  show own_G p.tables e below _ (s₁.setTop (mkF m 0 #[.val (.ref d1), .val (.int p1), .unset] []))
  refine own_fs (XS.iloadN X0.here hx rfl (hb hby own_d11_0) rfl (Steps.refl _)) ?_
  show own_G p.tables e below _ (s₁.setTop (mkF m 1 #[.val (.ref d1), .val (.int p1), .unset] [(.int p1)]))
  refine own_fs (XS.aloadN X0.here hx rfl (hb hby own_d11_1) rfl rfl (Steps.refl _)) ?_
  show own_G p.tables e below _ (s₁.setTop (mkF m 2 #[.val (.ref d1), .val (.int p1), .unset] [(.ref d1), (.int p1)]))
  obtain ⟨cl1, Ar1, -, S1, O1, -, -⟩ := (id hV_d1)
  have sl1 := X0.arraylength hx (by rw [e0]; exact Ar1.1) (State.isArrayOf_alike hZ.alike Ar1.2.1) (g := (mkF m 2 #[.val (.ref d1), .val (.int p1), .unset] [(.ref d1), (.int p1)])) rfl rfl (hb hby own_d11_2) _ (Steps.refl _)
  rw [len_of S1 O1] at sl1
  refine own_fs sl1 ?_
  show own_G p.tables e below _ (s₁.setTop (mkF m 3 #[.val (.ref d1), .val (.int p1), .unset] [(.int z1), (.int p1)]))
  refine own_fs (XS.icmpYes X0.here hx rfl (pc0 := 3) (pc' := 14) rfl (hb hby own_d11_3) rfl (XT.ii_ne_t (own_ltne hlt)) (by decide) (by decide) (Steps.refl _)) ?_
  show own_G p.tables e below _ (s₁.setTop (mkF m 14 #[.val (.ref d1), .val (.int p1), .unset] []))
  refine own_fs (XS.iloadN X0.here hx rfl (hb hby own_d11_14) rfl (Steps.refl _)) ?_
  show own_G p.tables e below _ (s₁.setTop (mkF m 15 #[.val (.ref d1), .val (.int p1), .unset] [(.int p1)]))
  have cp := own_cap hz1 hlt hp16
  obtain ⟨T2, h2, k2, X2, e2, E2, A2, st2⟩ := newP X0 hx hZ (hw _ (List.mem_of_getElem? (i := 9) rfl)) e0 (g := (mkF m 15 #[.val (.ref d1), .val (.int p1), .unset] [(.int p1)])) rfl (hb hby own_d11_15) rfl cp.1 (cap := 16) cp.2.1 (by decide) (by decide) (by decide)
  obtain ⟨b2, g2⟩ : ∃ z, z = h0.size := ⟨_, rfl⟩
  rw [← g2] at A2 st2
  have ge_b2 : n0 ≤ b2 := Nat.le_trans Z0 (Nat.le_of_eq g2.symm)
  have gz_b2 : h0.size ≤ b2 := Nat.le_trans (Nat.le_refl _) (Nat.le_of_eq g2.symm)
  have V_b2 : Arv Z h2 b2 k2 .long p1 (own_L own_z) (.long (0 : Int64)) := (Arv.new A2 cp.1).pad own_pad0
  refine own_fs (st2 _ (Steps.refl _)) ?_
  show own_G p.tables e below _ (T2.setTop (mkF m 17 #[.val (.ref d1), .val (.int p1), .unset] [(.ref b2)]))
  refine own_fs (XS.astoreN X2.here hx rfl (hb hby own_d11_17) rfl rfl (l' := #[.val (.ref d1), .val (.int p1), .val (.ref b2)]) rfl (Steps.refl _)) ?_
  show own_G p.tables e below _ (T2.setTop (mkF m 18 #[.val (.ref d1), .val (.int p1), .val (.ref b2)] []))
  refine own_fs (XS.aloadN X2.here hx rfl (hb hby own_d11_18) rfl rfl (Steps.refl _)) ?_
  show own_G p.tables e below _ (T2.setTop (mkF m 19 #[.val (.ref d1), .val (.int p1), .val (.ref b2)] [(.ref d1)]))
  refine own_fs (XS.iconst X2.here hx rfl (hb hby own_d11_19) (Steps.refl _)) ?_
  show own_G p.tables e below _ (T2.setTop (mkF m 20 #[.val (.ref d1), .val (.int p1), .val (.ref b2)] [(.int (0 : Int32)), (.ref d1)]))
  refine own_fs (XS.aloadN X2.here hx rfl (hb hby own_d11_20) rfl rfl (Steps.refl _)) ?_
  show own_G p.tables e below _ (T2.setTop (mkF m 21 #[.val (.ref d1), .val (.int p1), .val (.ref b2)] [(.ref b2), (.int (0 : Int32)), (.ref d1)]))
  refine own_fs (XS.iconst X2.here hx rfl (hb hby own_d11_21) (Steps.refl _)) ?_
  show own_G p.tables e below _ (T2.setTop (mkF m 22 #[.val (.ref d1), .val (.int p1), .val (.ref b2)] [(.int (0 : Int32)), (.ref b2), (.int (0 : Int32)), (.ref d1)]))
  refine own_fs (XS.aloadN X2.here hx rfl (hb hby own_d11_22) rfl rfl (Steps.refl _)) ?_
  show own_G p.tables e below _ (T2.setTop (mkF m 23 #[.val (.ref d1), .val (.int p1), .val (.ref b2)] [(.ref d1), (.int (0 : Int32)), (.ref b2), (.int (0 : Int32)), (.ref d1)]))
  obtain ⟨cl3, Ar3, -, S3, O3, -, -⟩ := (hV_d1.ext E2)
  have sl3 := X2.arraylength hx (by rw [e2]; exact Ar3.1) (State.isArrayOf_alike hZ.alike Ar3.2.1) (g := (mkF m 23 #[.val (.ref d1), .val (.int p1), .val (.ref b2)] [(.ref d1), (.int (0 : Int32)), (.ref b2), (.int (0 : Int32)), (.ref d1)])) rfl rfl (hb hby own_d11_23) _ (Steps.refl _)
  rw [len_of S3 O3] at sl3
  refine own_fs sl3 ?_
  show own_G p.tables e below _ (T2.setTop (mkF m 24 #[.val (.ref d1), .val (.int p1), .val (.ref b2)] [(.int z1), (.int (0 : Int32)), (.ref b2), (.int (0 : Int32)), (.ref d1)]))
  refine own_fs (XS.iloadN X2.here hx rfl (hb hby own_d11_24) rfl (Steps.refl _)) ?_
  show own_G p.tables e below _ (T2.setTop (mkF m 25 #[.val (.ref d1), .val (.int p1), .val (.ref b2)] [(.int p1), (.int z1), (.int (0 : Int32)), (.ref b2), (.int (0 : Int32)), (.ref d1)]))
  have Zs6 : n0 ≤ h2.size := (Nat.le_trans Z0 E2.1)
  obtain ⟨_, _, ⟨T5, L5, k5, n5⟩, -, X5, ⟨Lc5, hQ5, l5, y5, z5⟩, st5⟩ := Jvm.LawKit.callS X2 hx (y := (⟨"java/lang/Math", "min", "(II)I"⟩ : MethodName)) hown (mvT hZ (hw _ (List.mem_of_getElem? (i := 54) rfl))) (mvT hZ (hw _ (List.mem_of_getElem? (i := 20) rfl))) (mvT hZ (hw _ (List.mem_of_getElem? (i := 21) rfl))) (mvT hZ (hw _ (List.mem_of_getElem? (i := 22) rfl))) (by decide) (backOf (W := 4) (own_min2 l Z a0 hw [] z1 p1 h2 n0 Zs6 ) hZ (hw _ (List.mem_of_getElem? (i := 22) rfl)) (hw _ (List.mem_of_getElem? (i := 21) rfl)) (by decide) (by decide)) (g := (mkF m 25 #[.val (.ref d1), .val (.int p1), .val (.ref b2)] [(.int p1), (.int z1), (.int (0 : Int32)), (.ref b2), (.int (0 : Int32)), (.ref d1)])) rfl (by rw [hml]; rfl) (argsL := [(.int z1), (.int p1)]) (rest := [(.int (0 : Int32)), (.ref b2), (.int (0 : Int32)), (.ref d1)]) (lenOf own_pd1 rfl) rfl (by show 2 * 0 + _ ≤ _; exact Nat.le_of_eq rfl) (hb hby own_d11_25) (fun _ _ => ⟨rfl, e2, (by decide : 1 + 0 ≤ _), (by decide : 16 + 0 ≤ _)⟩)
  dsimp only [Pt.U, Pt.locs, Pt.cells, Pt.slots] at X5 l5 y5 z5 st5 hQ5
  subst l5 y5 z5
  obtain ⟨rfl, Nq5, e5⟩ := hQ5
  have N5 := Fr.app N0 Nq5
  refine own_fs (st5 _ (Steps.refl _)) ?_
  show own_G p.tables e below _ (T5.setTop (mkF m 28 #[.val (.ref d1), .val (.int p1), .val (.ref b2)] [(.int (own_mn z1 p1)), (.int (0 : Int32)), (.ref b2), (.int (0 : Int32)), (.ref d1)]))
  rw [show own_mn z1 p1 = z1 from own_mnl hlt]
  show own_G p.tables e below _ (T5.setTop (mkF m 28 #[.val (.ref d1), .val (.int p1), .val (.ref b2)] [(.int z1), (.int (0 : Int32)), (.ref b2), (.int (0 : Int32)), (.ref d1)]))
  obtain ⟨T7, h7, L7, X7, e7, N7, K7, V7, st7⟩ := cpA X5 hx hZ hown (hw _ (List.mem_of_getElem? (i := 55) rfl)) (hw _ (List.mem_of_getElem? (i := 58) rfl)) (hw _ (List.mem_of_getElem? (i := 56) rfl)) (hw _ (List.mem_of_getElem? (i := 57) rfl)) e5 (hV_d1.ext E2) V_b2 (us := (List.range z1.toNatClampNeg).map fun i => (own_L ff).getD ((0 : Int32).toNatClampNeg + i) (.long (0 : Int64))) (Or.inl ⟨rfl, rfl⟩) (by decide) (by decide) hz1 cp.2.2.1 cp.2.2.2.1 rfl (by rw [own_L_len]; exact cp.2.2.2.2) N5 ge_b2 (g := (mkF m 28 #[.val (.ref d1), .val (.int p1), .val (.ref b2)] [(.int z1), (.int (0 : Int32)), (.ref b2), (.int (0 : Int32)), (.ref d1)])) rfl (by rw [hml]; rfl) rfl (hb hby own_d11_28) (by decide) (W := 0) (by show 2 * 0 + _ ≤ _; exact Nat.le_of_eq rfl) (by decide)
  have V7' : Arv Z h7 b2 k2 .long p1 (own_L ff) (.long (0 : Int64)) := V7.pad (own_padC hfz (by have := cp.2.2.2.2; simpa using this))
  refine own_fs (st7 _ (Steps.refl _)) ?_
  show own_G p.tables e below _ (T7.setTop (mkF m 31 #[.val (.ref d1), .val (.int p1), .val (.ref b2)] []))
  refine own_fs (XS.aloadN X7.here hx rfl (hb hby own_d11_31) rfl rfl (Steps.refl _)) ?_
  show own_G p.tables e below _ (T7.setTop (mkF m 32 #[.val (.ref d1), .val (.int p1), .val (.ref b2)] [(.ref b2)]))
  exact own_retA X7 hx (t := (.array .long)) Bd.returns hlk rfl rfl (hb hby own_d11_32) (by decide) (by decide) e7 ⟨b2, k2, rfl, N7, (((Keep.refl _ _).ext E2).trans K7 (allS (Or.inr gz_b2) all0)), gz_b2, V7'⟩
theorem own_winit_ef (m : MethodId) (x0 : Addr) : entryFrame m #[(.ref x0)] 1 = mkF m 0 #[.val (.ref x0)] [] := by first | (simp [entryFrame, mkF, argsToLocals, Value.category]; done) | rfl
def own_winit_Q (Z : State) (a1 : Addr) (u1 : Value) (u2 : Int32) (h0 : Heap) (n0 : Nat) (v : Option Value) (h : Heap) (L : List Loc) : Prop := ∃ br : Addr, ∃ kr : ClassId, (v = none ∧ Fr n0 L ∧ Keep h0 h [a1] ∧ (Fld Z h a1 "com/example/diligent_tableau/diligenttableau/tableau/Worklist" "words" "[J" (.ref br)) ∧ (Fld Z h a1 "com/example/diligent_tableau/diligenttableau/tableau/Worklist" "lowest" "I" (.int u2)) ∧ (h0.size ≤ br) ∧ (Arv Z h br kr .long (1 : Int32) (own_L own_z) (.long (0 : Int64))))
set_option maxRecDepth 65536 in
set_option maxHeartbeats 40000000 in
theorem own_winit (l : Launch) (Z : State) (a0 : Array Value) (hw : ∀ d ∈ tables_1, d.before a0 Z = true) (ws : List Jvm.Cond) (a1 : Addr) (u1 : Value) (u2 : Int32) (h0 : Heap) (n0 : Nat) (Z0 : n0 ≤ h0.size) (hE_a1 : Exa Z h0 a1 "com/example/diligent_tableau/diligenttableau/tableau/Worklist") (hF_words_a1 : Fld Z h0 a1 "com/example/diligent_tableau/diligenttableau/tableau/Worklist" "words" "[J" u1) (hF_lowest_a1 : Fld Z h0 a1 "com/example/diligent_tableau/diligenttableau/tableau/Worklist" "lowest" "I" (.int u2)) (ge_a1 : n0 ≤ a1) :
    MetFree l (⟨"com/example/diligent_tableau/diligenttableau/tableau/Worklist", "<init>", "()V"⟩ : MethodName) (head1 (Jvm.Cond.code (⟨"com/example/diligent_tableau/diligenttableau/tableau/Worklist", "<init>", "()V"⟩ : MethodName) prog_64_method_1_code 1 none :: ws) ({ frames := 1, cells := 1, slots := 1, locals := 12 } : Room)) (fun a U => a = #[(.ref a1)] ∧ Z.Warmed39 U.vm ∧ U.heap = h0) (fun _ _ _ _ _ => True) (fun _ U o U' => ∃ v L, o = .returned v ∧ own_winit_Q Z a1 u1 u2 h0 n0 v U'.heap L ∧ FrameEnd U o U' L ({ frames := 1, cells := 1, slots := 1, locals := 12 } : Room).cells ({ frames := 1, cells := 1, slots := 1, locals := 12 } : Room).slots) := by
  refine MetFree.of_bodySF (plainFor_of_name own_pn4) hisR ?_
  intro p e s m args below meth c s₁ Bd hml0 hP hK
  obtain ⟨rfl, hZ, hh⟩ := hP
  have hx := Bd.exec
  have hby := Bd.bytes
  have hlk : meth.locks = false := BodyLoose.notSynchronized Bd
  have hml : c.maxLocals = 1 := hml0
  have hown : s.vm.findClass "com/example/diligent_tableau/diligenttableau/tableau/Worklist" = some m.cls := findClass_of_methodNamed Bd.named
  have hnm := (name_of_methodNamed Bd.named Bd.method).1
  have X0 : Stand p l e ({ frames := 1, cells := 1, slots := 1, locals := 12 } : Room) s m #[(.ref a1)] below meth c s₁ [] 0 0 := Stand.of_body Bd
  have e0 : s₁.heap = h0 := by rw [← hh, Bd.state]; rfl
  have N0 := Fr.nil n0
  refine own_start (QQ := own_winit_Q Z a1 u1 u2 h0 n0) (rc := ({ frames := 1, cells := 1, slots := 1, locals := 12 } : Room).cells) (rs := ({ frames := 1, cells := 1, slots := 1, locals := 12 } : Room).slots) (own_winit_ef m a1 ) ?_
  show own_G p.tables e below _ (s₁.setTop (mkF m 0 #[.val (.ref a1)] []))
  refine own_fs (XS.aloadN X0.here hx rfl (hb hby own_d1_0) rfl rfl (Steps.refl _)) ?_
  show own_G p.tables e below _ (s₁.setTop (mkF m 1 #[.val (.ref a1)] [(.ref a1)]))
  obtain ⟨T1, X1, e1, st1⟩ := initO X0 hx hZ hown (hw _ (List.mem_of_getElem? (i := 6) rfl)) (hw _ (List.mem_of_getElem? (i := 7) rfl)) (hw _ (List.mem_of_getElem? (i := 8) rfl)) e0 (g := (mkF m 1 #[.val (.ref a1)] [(.ref a1)])) rfl (by rw [hml]; rfl) rfl (hb hby own_d1_1) (by decide) (W := 0) (by show 2 * 0 + _ ≤ _; exact Nat.le_of_eq rfl) (by decide)
  refine own_fs (st1 _ (Steps.refl _)) ?_
  show own_G p.tables e below _ (T1.setTop (mkF m 4 #[.val (.ref a1)] []))
  refine own_fs (XS.aloadN X1.here hx rfl (hb hby own_d1_4) rfl rfl (Steps.refl _)) ?_
  show own_G p.tables e below _ (T1.setTop (mkF m 5 #[.val (.ref a1)] [(.ref a1)]))
  refine own_fs (XS.iconst X1.here hx rfl (hb hby own_d1_5) (Steps.refl _)) ?_
  show own_G p.tables e below _ (T1.setTop (mkF m 6 #[.val (.ref a1)] [(.int (1 : Int32)), (.ref a1)]))
  obtain ⟨T2, h2, k2, X2, e2, E2, A2, st2⟩ := newP X1 hx hZ (hw _ (List.mem_of_getElem? (i := 9) rfl)) e1 (g := (mkF m 6 #[.val (.ref a1)] [(.int (1 : Int32)), (.ref a1)])) rfl (hb hby own_d1_6) rfl (by decide) (cap := 1) (by decide) (by decide) (by decide) (by decide)
  obtain ⟨b2, g2⟩ : ∃ z, z = h0.size := ⟨_, rfl⟩
  rw [← g2] at A2 st2
  have ge_b2 : n0 ≤ b2 := Nat.le_trans Z0 (Nat.le_of_eq g2.symm)
  have gz_b2 : h0.size ≤ b2 := Nat.le_trans (Nat.le_refl _) (Nat.le_of_eq g2.symm)
  have V_b2 : Arv Z h2 b2 k2 .long (1 : Int32) [(.long (0 : Int64))] (.long (0 : Int64)) := (Arv.new A2 (by decide)).pad (pad_rep [] (.long (0 : Int64)) 1)
  refine own_fs (st2 _ (Steps.refl _)) ?_
  show own_G p.tables e below _ (T2.setTop (mkF m 8 #[.val (.ref a1)] [(.ref b2), (.ref a1)]))
  obtain ⟨T3, h3, X3, e3, W3, st3⟩ := putF X2 hx hZ hown (host := "") (Or.inl (hw _ (List.mem_of_getElem? (i := 10) rfl))) Via.refl e2 (Fld.ext E2 hF_words_a1) (Exa.ext E2 hE_a1) (Or.inl (hw _ (List.mem_of_getElem? (i := 11) rfl))) (hw _ (List.mem_of_getElem? (i := 1) rfl)) (ty := (.array .long)) (by decide) rfl rfl (g := (mkF m 8 #[.val (.ref a1)] [(.ref b2), (.ref a1)])) rfl rfl (hb hby own_d1_8)
  refine own_fs (st3 _ (Steps.refl _)) ?_
  have Fw3 := Fld.same W3 (Fld.ext E2 hF_words_a1)
  have N3 := Fr.snoc X3 N0 ge_a1
  show own_G p.tables e below _ (T3.setTop (mkF m 11 #[.val (.ref a1)] []))
  exact own_retV X3 hx Bd.returns hlk (hb hby own_d1_11) (by decide) (by decide) e3 ⟨b2, k2, rfl, N3, (((Keep.refl _ _).ext E2).wr W3 (Or.inl (List.mem_of_getElem? (i := 0) rfl))), Fw3, (Fld.other W3 (Fld.ext E2 hF_lowest_a1) (Or.inr (slot_ne (Or.inl (hw _ (List.mem_of_getElem? (i := 18) rfl))) (Or.inl (hw _ (List.mem_of_getElem? (i := 11) rfl))) (by decide) (t := .int) (t' := (.array .long)) (by decide) (by decide)))), gz_b2, ((V_b2.other W3 (Ne.symm (Nat.ne_of_lt (Nat.lt_of_lt_of_le (Exa.lt hE_a1) (Nat.le_of_eq g2.symm))))).pad own_pad1)⟩
theorem own_wadd_ef (m : MethodId) (x0 : Addr) (x1 : Int32) : entryFrame m #[(.ref x0), (.int x1)] 3 = mkF m 0 #[.val (.ref x0), .val (.int x1), .unset] [] := by first | (simp [entryFrame, mkF, argsToLocals, Value.category]; done) | rfl
def own_wadd_Q (Z : State) (a1 : Addr) (p1 : Int32) (u2 : Int32) (d1 : Addr) (k1 : ClassId) (z1 : Int32) (ff : Nat → Int64) (h0 : Heap) (n0 : Nat) (v : Option Value) (h : Heap) (L : List Loc) : Prop := ∃ d2 : Addr, ∃ k2 : ClassId, ∃ z2 : Int32, ∃ u3 : Int32, (v = none ∧ Fr n0 L ∧ Keep h0 h [a1, d1] ∧ (Fld Z h a1 "com/example/diligent_tableau/diligenttableau/tableau/Worklist" "words" "[J" (.ref d2)) ∧ (Fld Z h a1 "com/example/diligent_tableau/diligenttableau/tableau/Worklist" "lowest" "I" (.int u3)) ∧ (Arv Z h d2 k2 .long z2 (own_L (own_add ff p1)) (.long (0 : Int64))) ∧ (n0 ≤ d2) ∧ (a1 ≠ d2) ∧ (own_zok ff p1 z1 z2) ∧ (d2 < h.size))
set_option maxRecDepth 65536 in
set_option maxHeartbeats 40000000 in
theorem own_wadd (l : Launch) (Z : State) (a0 : Array Value) (hw : ∀ d ∈ tables_1, d.before a0 Z = true) (ws : List Jvm.Cond) (a1 : Addr) (p1 : Int32) (u2 : Int32) (d1 : Addr) (k1 : ClassId) (z1 : Int32) (ff : Nat → Int64) (h0 : Heap) (n0 : Nat) (Z0 : n0 ≤ h0.size) (hE_a1 : Exa Z h0 a1 "com/example/diligent_tableau/diligenttableau/tableau/Worklist") (hF_words_a1 : Fld Z h0 a1 "com/example/diligent_tableau/diligenttableau/tableau/Worklist" "words" "[J" (.ref d1)) (hF_lowest_a1 : Fld Z h0 a1 "com/example/diligent_tableau/diligenttableau/tableau/Worklist" "lowest" "I" (.int u2)) (ge_a1 : n0 ≤ a1) (ge_d1 : n0 ≤ d1) (hne_a1_d1 : a1 ≠ d1) (hV_d1 : Arv Z h0 d1 k1 .long z1 (own_L ff) (.long (0 : Int64))) (hfz : ∀ i, z1.toNatClampNeg ≤ i → ff i = 0) (hz1 : ¬ z1 < 0) (hz16 : z1.toInt ≤ 16) (hz8 : z1.toInt ≤ 8) (hzp : 0 < z1.toInt) (hp : ¬ p1 < 0) (hp512 : p1.toInt < 512) :
    MetFree l (⟨"com/example/diligent_tableau/diligenttableau/tableau/Worklist", "add", "(I)V"⟩ : MethodName) (head1 (Jvm.Cond.code (⟨"com/example/diligent_tableau/diligenttableau/tableau/Worklist", "add", "(I)V"⟩ : MethodName) prog_64_method_2_code 3 none :: ws) ({ frames := 2, cells := 1, slots := 16, locals := 33 } : Room)) (fun a U => a = #[(.ref a1), (.int p1)] ∧ Z.Warmed39 U.vm ∧ U.heap = h0) (fun _ _ _ _ _ => True) (fun _ U o U' => ∃ v L, o = .returned v ∧ own_wadd_Q Z a1 p1 u2 d1 k1 z1 ff h0 n0 v U'.heap L ∧ FrameEnd U o U' L ({ frames := 2, cells := 1, slots := 16, locals := 33 } : Room).cells ({ frames := 2, cells := 1, slots := 16, locals := 33 } : Room).slots) := by
  refine MetFree.of_bodySF (plainFor_of_name own_pn4) hisR ?_
  intro p e s m args below meth c s₁ Bd hml0 hP hK
  obtain ⟨rfl, hZ, hh⟩ := hP
  have hx := Bd.exec
  have hby := Bd.bytes
  have hlk : meth.locks = false := BodyLoose.notSynchronized Bd
  have hml : c.maxLocals = 3 := hml0
  have hown : s.vm.findClass "com/example/diligent_tableau/diligenttableau/tableau/Worklist" = some m.cls := findClass_of_methodNamed Bd.named
  have hnm := (name_of_methodNamed Bd.named Bd.method).1
  have X0 : Stand p l e ({ frames := 2, cells := 1, slots := 16, locals := 33 } : Room) s m #[(.ref a1), (.int p1)] below meth c s₁ [] 0 0 := Stand.of_body Bd
  have e0 : s₁.heap = h0 := by rw [← hh, Bd.state]; rfl
  have N0 := Fr.nil n0
  refine own_start (QQ := own_wadd_Q Z a1 p1 u2 d1 k1 z1 ff h0 n0) (rc := ({ frames := 2, cells := 1, slots := 16, locals := 33 } : Room).cells) (rs := ({ frames := 2, cells := 1, slots := 16, locals := 33 } : Room).slots) (own_wadd_ef m a1 p1 ) ?_
  show own_G p.tables e below _ (s₁.setTop (mkF m 0 #[.val (.ref a1), .val (.int p1), .unset] []))
  refine own_fs (XS.iloadN X0.here hx rfl (hb hby own_d3_0) rfl (Steps.refl _)) ?_
  show own_G p.tables e below _ (s₁.setTop (mkF m 1 #[.val (.ref a1), .val (.int p1), .unset] [(.int p1)]))
  refine own_fs (XS.bipush X0.here hx rfl (hb hby own_d3_1) (Steps.refl _)) ?_
  show own_G p.tables e below _ (s₁.setTop (mkF m 3 #[.val (.ref a1), .val (.int p1), .unset] [(.int (64 : Int32)), (.int p1)]))
  refine own_fs (XS.idiv X0.here hx rfl (hb hby own_d3_3) rfl (by decide) (Steps.refl _)) ?_
  show own_G p.tables e below _ (s₁.setTop (mkF m 4 #[.val (.ref a1), .val (.int p1), .unset] [(.int (p1 / (64 : Int32)))]))
  refine own_fs (XS.istoreN X0.here hx rfl (hb hby own_d3_4) rfl (l' := #[.val (.ref a1), .val (.int p1), .val (.int (p1 / (64 : Int32)))]) rfl (Steps.refl _)) ?_
  show own_G p.tables e below _ (s₁.setTop (mkF m 5 #[.val (.ref a1), .val (.int p1), .val (.int (p1 / (64 : Int32)))] []))
  refine own_fs (XS.iloadN X0.here hx rfl (hb hby own_d3_5) rfl (Steps.refl _)) ?_
  show own_G p.tables e below _ (s₁.setTop (mkF m 6 #[.val (.ref a1), .val (.int p1), .val (.int (p1 / (64 : Int32)))] [(.int (p1 / (64 : Int32)))]))
  refine own_fs (XS.aloadN X0.here hx rfl (hb hby own_d3_6) rfl rfl (Steps.refl _)) ?_
  show own_G p.tables e below _ (s₁.setTop (mkF m 7 #[.val (.ref a1), .val (.int p1), .val (.int (p1 / (64 : Int32)))] [(.ref a1), (.int (p1 / (64 : Int32)))]))
  obtain ⟨T1, X1, e1, st1⟩ := getF X0 hx hZ hown (host := "") (Or.inl (hw _ (List.mem_of_getElem? (i := 10) rfl))) Via.refl e0 hF_words_a1 (g := (mkF m 7 #[.val (.ref a1), .val (.int p1), .val (.int (p1 / (64 : Int32)))] [(.ref a1), (.int (p1 / (64 : Int32)))])) rfl rfl (hb hby own_d3_7)
  refine own_fs (st1 _ (Steps.refl _)) ?_
  show own_G p.tables e below _ (T1.setTop (mkF m 10 #[.val (.ref a1), .val (.int p1), .val (.int (p1 / (64 : Int32)))] [(.ref d1), (.int (p1 / (64 : Int32)))]))
  obtain ⟨cl2, Ar2, -, S2, O2, -, -⟩ := (id hV_d1)
  have sl2 := X1.arraylength hx (by rw [e1]; exact Ar2.1) (State.isArrayOf_alike hZ.alike Ar2.2.1) (g := (mkF m 10 #[.val (.ref a1), .val (.int p1), .val (.int (p1 / (64 : Int32)))] [(.ref d1), (.int (p1 / (64 : Int32)))])) rfl rfl (hb hby own_d3_10) _ (Steps.refl _)
  rw [len_of S2 O2] at sl2
  refine own_fs sl2 ?_
  show own_G p.tables e below _ (T1.setTop (mkF m 11 #[.val (.ref a1), .val (.int p1), .val (.int (p1 / (64 : Int32)))] [(.int z1), (.int (p1 / (64 : Int32)))]))
  by_cases hc11 : (p1 / (64 : Int32)) < z1
  · refine own_fs (XS.icmpYes X1.here hx rfl (pc0 := 11) (pc' := 38) rfl (hb hby own_d3_11) rfl (XT.ii_lt_t hc11) (by decide) (by decide) (Steps.refl _)) ?_
    show own_G p.tables e below _ (T1.setTop (mkF m 38 #[.val (.ref a1), .val (.int p1), .val (.int (p1 / (64 : Int32)))] []))
    refine own_fs (XS.aloadN X1.here hx rfl (hb hby own_d3_38) rfl rfl (Steps.refl _)) ?_
    show own_G p.tables e below _ (T1.setTop (mkF m 39 #[.val (.ref a1), .val (.int p1), .val (.int (p1 / (64 : Int32)))] [(.ref a1)]))
    obtain ⟨T3, X3, e3, st3⟩ := getF X1 hx hZ hown (host := "") (Or.inl (hw _ (List.mem_of_getElem? (i := 10) rfl))) Via.refl e1 hF_words_a1 (g := (mkF m 39 #[.val (.ref a1), .val (.int p1), .val (.int (p1 / (64 : Int32)))] [(.ref a1)])) rfl rfl (hb hby own_d3_39)
    refine own_fs (st3 _ (Steps.refl _)) ?_
    show own_G p.tables e below _ (T3.setTop (mkF m 42 #[.val (.ref a1), .val (.int p1), .val (.int (p1 / (64 : Int32)))] [(.ref d1)]))
    refine own_fs (XS.iloadN X3.here hx rfl (hb hby own_d3_42) rfl (Steps.refl _)) ?_
    show own_G p.tables e below _ (T3.setTop (mkF m 43 #[.val (.ref a1), .val (.int p1), .val (.int (p1 / (64 : Int32)))] [(.int (p1 / (64 : Int32))), (.ref d1)]))
    have sd4 : Steps p.tables e below (T3.setTop (mkF m 43 #[.val (.ref a1), .val (.int p1), .val (.int (p1 / (64 : Int32)))] [(.int (p1 / (64 : Int32))), (.ref d1)])) (T3.setTop (mkF m 44 #[.val (.ref a1), .val (.int p1), .val (.int (p1 / (64 : Int32)))] [(.int (p1 / (64 : Int32))), (.ref d1), (.int (p1 / (64 : Int32))), (.ref d1)])) := by
      jvm_step X3.here [X3.here.top, hx, (hb hby own_d3_43), Value.category]
      exact Steps.refl _
    refine own_fs sd4 ?_
    have li := own_liA hz1 hz16 hp hc11
    have f16 := own_f16 hfz hz16 hz1
    show own_G p.tables e below _ (T3.setTop (mkF m 44 #[.val (.ref a1), .val (.int p1), .val (.int (p1 / (64 : Int32)))] [(.int (p1 / (64 : Int32))), (.ref d1), (.int (p1 / (64 : Int32))), (.ref d1)]))
    obtain ⟨cl5, Ar5, q5, S5, O5, H5, G5⟩ := (id hV_d1)
    have hin5 : ¬ ((p1 / (64 : Int32)) < 0 ∨ cl5.slots.size ≤ ((p1 / (64 : Int32))).toNatClampNeg) := inb_of S5 ⟨li.1, li.2.1⟩
    have hat5 : cl5.slots[((p1 / (64 : Int32))).toNatClampNeg]? = some (.long (ff ((p1 / (64 : Int32))).toNatClampNeg)) := Has.at H5 hin5 (own_L_get f16 _)
    show own_G p.tables e below _ (T3.setTop (mkF m 44 #[.val (.ref a1), .val (.int p1), .val (.int (p1 / (64 : Int32)))] [(.int (p1 / (64 : Int32))), (.ref d1), (.int (p1 / (64 : Int32))), (.ref d1)]))
    refine own_fs (X3.laload hx (j := (p1 / (64 : Int32))) (v := (.long (ff ((p1 / (64 : Int32))).toNatClampNeg))) (by rw [e3]; exact Ar5.1) (State.isArrayOf_alike hZ.alike Ar5.2.1) Ar5.2.2 hin5 hat5 (g := (mkF m 44 #[.val (.ref a1), .val (.int p1), .val (.int (p1 / (64 : Int32)))] [(.int (p1 / (64 : Int32))), (.ref d1), (.int (p1 / (64 : Int32))), (.ref d1)])) rfl rfl (hb hby own_d3_44) _ (Steps.refl _)) ?_
    show own_G p.tables e below _ (T3.setTop (mkF m 45 #[.val (.ref a1), .val (.int p1), .val (.int (p1 / (64 : Int32)))] [(.long (ff ((p1 / (64 : Int32))).toNatClampNeg)), (.int (p1 / (64 : Int32))), (.ref d1)]))
    refine own_fs (XS.lconst X3.here hx rfl (hb hby own_d3_45) (Steps.refl _)) ?_
    show own_G p.tables e below _ (T3.setTop (mkF m 46 #[.val (.ref a1), .val (.int p1), .val (.int (p1 / (64 : Int32)))] [(.long (1 : Int64)), (.long (ff ((p1 / (64 : Int32))).toNatClampNeg)), (.int (p1 / (64 : Int32))), (.ref d1)]))
    refine own_fs (XS.iloadN X3.here hx rfl (hb hby own_d3_46) rfl (Steps.refl _)) ?_
    show own_G p.tables e below _ (T3.setTop (mkF m 47 #[.val (.ref a1), .val (.int p1), .val (.int (p1 / (64 : Int32)))] [(.int p1), (.long (1 : Int64)), (.long (ff ((p1 / (64 : Int32))).toNatClampNeg)), (.int (p1 / (64 : Int32))), (.ref d1)]))
    refine own_fs (XS.lshl X3.here hx rfl (hb hby own_d3_47) rfl (Steps.refl _)) ?_
    show own_G p.tables e below _ (T3.setTop (mkF m 48 #[.val (.ref a1), .val (.int p1), .val (.int (p1 / (64 : Int32)))] [(.long ((1 : Int64) <<< (p1 &&& 0x3f).toInt64)), (.long (ff ((p1 / (64 : Int32))).toNatClampNeg)), (.int (p1 / (64 : Int32))), (.ref d1)]))
    refine own_fs (XS.lor X3.here hx rfl (hb hby own_d3_48) rfl (Steps.refl _)) ?_
    show own_G p.tables e below _ (T3.setTop (mkF m 49 #[.val (.ref a1), .val (.int p1), .val (.int (p1 / (64 : Int32)))] [(.long ((ff ((p1 / (64 : Int32))).toNatClampNeg) ||| ((1 : Int64) <<< (p1 &&& 0x3f).toInt64))), (.int (p1 / (64 : Int32))), (.ref d1)]))
    obtain ⟨cl6, Ar6, q6, S6, O6, H6, G6⟩ := (id hV_d1)
    obtain ⟨T7, h7, X7, e7, W7, st7⟩ := stJ X3 hx hZ e3 Ar6 (j := (p1 / (64 : Int32))) (inb_of S6 ⟨li.1, li.2.1⟩) (g := (mkF m 49 #[.val (.ref a1), .val (.int p1), .val (.int (p1 / (64 : Int32)))] [(.long ((ff ((p1 / (64 : Int32))).toNatClampNeg) ||| ((1 : Int64) <<< (p1 &&& 0x3f).toInt64))), (.int (p1 / (64 : Int32))), (.ref d1)])) rfl rfl (hb hby own_d3_49)
    refine own_fs (st7 _ (Steps.refl _)) ?_
    have V7 : Arv Z h7 d1 k1 .long z1 (own_L (own_add ff p1)) (.long (0 : Int64)) := (Arv.set Ar6 q6 S6 O6 H6 G6 rfl W7 _ rfl (by rw [own_L_len]; exact li.2.2)).pad (own_L_set f16 li.2.2 _)
    have N7 := Fr.snoc X7 N0 ge_d1
    show own_G p.tables e below _ (T7.setTop (mkF m 50 #[.val (.ref a1), .val (.int p1), .val (.int (p1 / (64 : Int32)))] []))
    refine own_fs (XS.aloadN X7.here hx rfl (hb hby own_d3_50) rfl rfl (Steps.refl _)) ?_
    show own_G p.tables e below _ (T7.setTop (mkF m 51 #[.val (.ref a1), .val (.int p1), .val (.int (p1 / (64 : Int32)))] [(.ref a1)]))
    refine own_fs (XS.aloadN X7.here hx rfl (hb hby own_d3_51) rfl rfl (Steps.refl _)) ?_
    show own_G p.tables e below _ (T7.setTop (mkF m 52 #[.val (.ref a1), .val (.int p1), .val (.int (p1 / (64 : Int32)))] [(.ref a1), (.ref a1)]))
    obtain ⟨T8, X8, e8, st8⟩ := getF X7 hx hZ hown (host := "") (Or.inl (hw _ (List.mem_of_getElem? (i := 17) rfl))) Via.refl e7 (Fld.other W7 hF_lowest_a1 (Or.inl hne_a1_d1)) (g := (mkF m 52 #[.val (.ref a1), .val (.int p1), .val (.int (p1 / (64 : Int32)))] [(.ref a1), (.ref a1)])) rfl rfl (hb hby own_d3_52)
    refine own_fs (st8 _ (Steps.refl _)) ?_
    show own_G p.tables e below _ (T8.setTop (mkF m 55 #[.val (.ref a1), .val (.int p1), .val (.int (p1 / (64 : Int32)))] [(.int u2), (.ref a1)]))
    refine own_fs (XS.iloadN X8.here hx rfl (hb hby own_d3_55) rfl (Steps.refl _)) ?_
    show own_G p.tables e below _ (T8.setTop (mkF m 56 #[.val (.ref a1), .val (.int p1), .val (.int (p1 / (64 : Int32)))] [(.int p1), (.int u2), (.ref a1)]))
    have Zs11 : n0 ≤ h7.size := (Nat.le_trans Z0 (Keep.of_wr W7).1)
    obtain ⟨_, _, ⟨T10, L10, k10, n10⟩, -, X10, ⟨Lc10, hQ10, l10, y10, z10⟩, st10⟩ := Jvm.LawKit.callS X8 hx (y := (⟨"java/lang/Math", "min", "(II)I"⟩ : MethodName)) hown (mvT hZ (hw _ (List.mem_of_getElem? (i := 19) rfl))) (mvT hZ (hw _ (List.mem_of_getElem? (i := 20) rfl))) (mvT hZ (hw _ (List.mem_of_getElem? (i := 21) rfl))) (mvT hZ (hw _ (List.mem_of_getElem? (i := 22) rfl))) (by decide) (backOf (W := 1) (own_min2 l Z a0 hw [] u2 p1 h7 n0 Zs11 ) hZ (hw _ (List.mem_of_getElem? (i := 22) rfl)) (hw _ (List.mem_of_getElem? (i := 21) rfl)) (by decide) (by decide)) (g := (mkF m 56 #[.val (.ref a1), .val (.int p1), .val (.int (p1 / (64 : Int32)))] [(.int p1), (.int u2), (.ref a1)])) rfl (by rw [hml]; rfl) (argsL := [(.int u2), (.int p1)]) (rest := [(.ref a1)]) (lenOf own_pd1 rfl) rfl (by show 2 * 0 + _ ≤ _; exact Nat.le_of_eq rfl) (hb hby own_d3_56) (fun _ _ => ⟨rfl, e8, (by decide : 0 + 0 ≤ _), (by decide : 0 + 0 ≤ _)⟩)
    dsimp only [Pt.U, Pt.locs, Pt.cells, Pt.slots] at X10 l10 y10 z10 st10 hQ10
    subst l10 y10 z10
    obtain ⟨rfl, Nq10, e10⟩ := hQ10
    have N10 := Fr.app N7 Nq10
    refine own_fs (st10 _ (Steps.refl _)) ?_
    show own_G p.tables e below _ (T10.setTop (mkF m 59 #[.val (.ref a1), .val (.int p1), .val (.int (p1 / (64 : Int32)))] [(.int (own_mn u2 p1)), (.ref a1)]))
    obtain ⟨T12, h12, X12, e12, W12, st12⟩ := putF X10 hx hZ hown (host := "") (Or.inl (hw _ (List.mem_of_getElem? (i := 17) rfl))) Via.refl e10 (Fld.other W7 hF_lowest_a1 (Or.inl hne_a1_d1)) (Exa.wr W7 hE_a1) (Or.inl (hw _ (List.mem_of_getElem? (i := 18) rfl))) (hw _ (List.mem_of_getElem? (i := 1) rfl)) (ty := .int) (by decide) rfl rfl (g := (mkF m 59 #[.val (.ref a1), .val (.int p1), .val (.int (p1 / (64 : Int32)))] [(.int (own_mn u2 p1)), (.ref a1)])) rfl rfl (hb hby own_d3_59)
    refine own_fs (st12 _ (Steps.refl _)) ?_
    have Fw12 := Fld.same W12 (Fld.other W7 hF_lowest_a1 (Or.inl hne_a1_d1))
    have N12 := Fr.snoc X12 N10 ge_a1
    show own_G p.tables e below _ (T12.setTop (mkF m 62 #[.val (.ref a1), .val (.int p1), .val (.int (p1 / (64 : Int32)))] []))
    exact own_retV X12 hx Bd.returns hlk (hb hby own_d3_62) (by decide) (by decide) e12 ⟨d1, k1, z1, (own_mn u2 p1), rfl, N12, (((Keep.refl _ _).wr W7 (Or.inl (List.mem_of_getElem? (i := 1) rfl))).wr W12 (Or.inl (List.mem_of_getElem? (i := 0) rfl))), (Fld.other W12 (Fld.other W7 hF_words_a1 (Or.inl hne_a1_d1)) (Or.inr (slot_ne (Or.inl (hw _ (List.mem_of_getElem? (i := 11) rfl))) (Or.inl (hw _ (List.mem_of_getElem? (i := 18) rfl))) (by decide) (t := (.array .long)) (t' := .int) (by decide) (by decide)))), Fw12, (V7.other W12 (Ne.symm hne_a1_d1)), ge_d1, hne_a1_d1, (own_zokA hfz hz1 hz16 hp hc11), (Arv.lt (V7.other W12 (Ne.symm hne_a1_d1)))⟩
  · refine own_fs (XS.icmpNo X1.here hx rfl (hb hby own_d3_11) rfl (XT.ii_lt_f hc11) (Steps.refl _)) ?_
    show own_G p.tables e below _ (T1.setTop (mkF m 14 #[.val (.ref a1), .val (.int p1), .val (.int (p1 / (64 : Int32)))] []))
    refine own_fs (XS.aloadN X1.here hx rfl (hb hby own_d3_14) rfl rfl (Steps.refl _)) ?_
    show own_G p.tables e below _ (T1.setTop (mkF m 15 #[.val (.ref a1), .val (.int p1), .val (.int (p1 / (64 : Int32)))] [(.ref a1)]))
    refine own_fs (XS.aloadN X1.here hx rfl (hb hby own_d3_15) rfl rfl (Steps.refl _)) ?_
    show own_G p.tables e below _ (T1.setTop (mkF m 16 #[.val (.ref a1), .val (.int p1), .val (.int (p1 / (64 : Int32)))] [(.ref a1), (.ref a1)]))
    obtain ⟨T13, X13, e13, st13⟩ := getF X1 hx hZ hown (host := "") (Or.inl (hw _ (List.mem_of_getElem? (i := 10) rfl))) Via.refl e1 hF_words_a1 (g := (mkF m 16 #[.val (.ref a1), .val (.int p1), .val (.int (p1 / (64 : Int32)))] [(.ref a1), (.ref a1)])) rfl rfl (hb hby own_d3_16)
    refine own_fs (st13 _ (Steps.refl _)) ?_
    show own_G p.tables e below _ (T13.setTop (mkF m 19 #[.val (.ref a1), .val (.int p1), .val (.int (p1 / (64 : Int32)))] [(.ref d1), (.ref a1)]))
    refine own_fs (XS.iconst X13.here hx rfl (hb hby own_d3_19) (Steps.refl _)) ?_
    show own_G p.tables e below _ (T13.setTop (mkF m 20 #[.val (.ref a1), .val (.int p1), .val (.int (p1 / (64 : Int32)))] [(.int (2 : Int32)), (.ref d1), (.ref a1)]))
    refine own_fs (XS.aloadN X13.here hx rfl (hb hby own_d3_20) rfl rfl (Steps.refl _)) ?_
    show own_G p.tables e below _ (T13.setTop (mkF m 21 #[.val (.ref a1), .val (.int p1), .val (.int (p1 / (64 : Int32)))] [(.ref a1), (.int (2 : Int32)), (.ref d1), (.ref a1)]))
    obtain ⟨T14, X14, e14, st14⟩ := getF X13 hx hZ hown (host := "") (Or.inl (hw _ (List.mem_of_getElem? (i := 10) rfl))) Via.refl e13 hF_words_a1 (g := (mkF m 21 #[.val (.ref a1), .val (.int p1), .val (.int (p1 / (64 : Int32)))] [(.ref a1), (.int (2 : Int32)), (.ref d1), (.ref a1)])) rfl rfl (hb hby own_d3_21)
    refine own_fs (st14 _ (Steps.refl _)) ?_
    show own_G p.tables e below _ (T14.setTop (mkF m 24 #[.val (.ref a1), .val (.int p1), .val (.int (p1 / (64 : Int32)))] [(.ref d1), (.int (2 : Int32)), (.ref d1), (.ref a1)]))
    obtain ⟨cl15, Ar15, -, S15, O15, -, -⟩ := (id hV_d1)
    have sl15 := X14.arraylength hx (by rw [e14]; exact Ar15.1) (State.isArrayOf_alike hZ.alike Ar15.2.1) (g := (mkF m 24 #[.val (.ref a1), .val (.int p1), .val (.int (p1 / (64 : Int32)))] [(.ref d1), (.int (2 : Int32)), (.ref d1), (.ref a1)])) rfl rfl (hb hby own_d3_24) _ (Steps.refl _)
    rw [len_of S15 O15] at sl15
    refine own_fs sl15 ?_
    show own_G p.tables e below _ (T14.setTop (mkF m 25 #[.val (.ref a1), .val (.int p1), .val (.int (p1 / (64 : Int32)))] [(.int z1), (.int (2 : Int32)), (.ref d1), (.ref a1)]))
    refine own_fs (XS.imul X14.here hx rfl (hb hby own_d3_25) rfl (Steps.refl _)) ?_
    show own_G p.tables e below _ (T14.setTop (mkF m 26 #[.val (.ref a1), .val (.int p1), .val (.int (p1 / (64 : Int32)))] [(.int ((2 : Int32) * z1)), (.ref d1), (.ref a1)]))
    refine own_fs (XS.iloadN X14.here hx rfl (hb hby own_d3_26) rfl (Steps.refl _)) ?_
    show own_G p.tables e below _ (T14.setTop (mkF m 27 #[.val (.ref a1), .val (.int p1), .val (.int (p1 / (64 : Int32)))] [(.int (p1 / (64 : Int32))), (.int ((2 : Int32) * z1)), (.ref d1), (.ref a1)]))
    refine own_fs (XS.iconst X14.here hx rfl (hb hby own_d3_27) (Steps.refl _)) ?_
    show own_G p.tables e below _ (T14.setTop (mkF m 28 #[.val (.ref a1), .val (.int p1), .val (.int (p1 / (64 : Int32)))] [(.int (1 : Int32)), (.int (p1 / (64 : Int32))), (.int ((2 : Int32) * z1)), (.ref d1), (.ref a1)]))
    refine own_fs (XS.iadd X14.here hx rfl (hb hby own_d3_28) rfl (Steps.refl _)) ?_
    show own_G p.tables e below _ (T14.setTop (mkF m 29 #[.val (.ref a1), .val (.int p1), .val (.int (p1 / (64 : Int32)))] [(.int ((p1 / (64 : Int32)) + (1 : Int32))), (.int ((2 : Int32) * z1)), (.ref d1), (.ref a1)]))
    have Zs18 : n0 ≤ h0.size := Z0
    obtain ⟨_, _, ⟨T17, L17, k17, n17⟩, -, X17, ⟨Lc17, hQ17, l17, y17, z17⟩, st17⟩ := Jvm.LawKit.callS X14 hx (y := (⟨"java/lang/Math", "max", "(II)I"⟩ : MethodName)) hown (mvT hZ (hw _ (List.mem_of_getElem? (i := 47) rfl))) (mvT hZ (hw _ (List.mem_of_getElem? (i := 48) rfl))) (mvT hZ (hw _ (List.mem_of_getElem? (i := 21) rfl))) (mvT hZ (hw _ (List.mem_of_getElem? (i := 49) rfl))) (by decide) (backOf (W := 2) (own_max l Z a0 hw [] ((2 : Int32) * z1) ((p1 / (64 : Int32)) + (1 : Int32)) h0 n0 Zs18 ) hZ (hw _ (List.mem_of_getElem? (i := 49) rfl)) (hw _ (List.mem_of_getElem? (i := 21) rfl)) (by decide) (by decide)) (g := (mkF m 29 #[.val (.ref a1), .val (.int p1), .val (.int (p1 / (64 : Int32)))] [(.int ((p1 / (64 : Int32)) + (1 : Int32))), (.int ((2 : Int32) * z1)), (.ref d1), (.ref a1)])) rfl (by rw [hml]; rfl) (argsL := [(.int ((2 : Int32) * z1)), (.int ((p1 / (64 : Int32)) + (1 : Int32)))]) (rest := [(.ref d1), (.ref a1)]) (lenOf own_pd1 rfl) rfl (by show 2 * 0 + _ ≤ _; exact Nat.le_of_eq rfl) (hb hby own_d3_29) (fun _ _ => ⟨rfl, e14, (by decide : 0 + 0 ≤ _), (by decide : 0 + 0 ≤ _)⟩)
    dsimp only [Pt.U, Pt.locs, Pt.cells, Pt.slots] at X17 l17 y17 z17 st17 hQ17
    subst l17 y17 z17
    obtain ⟨rfl, Nq17, e17⟩ := hQ17
    have N17 := Fr.app N0 Nq17
    refine own_fs (st17 _ (Steps.refl _)) ?_
    show own_G p.tables e below _ (T17.setTop (mkF m 32 #[.val (.ref a1), .val (.int p1), .val (.int (p1 / (64 : Int32)))] [(.int (own_mx ((2 : Int32) * z1) ((p1 / (64 : Int32)) + (1 : Int32)))), (.ref d1), (.ref a1)]))
    have gl := own_grow hz1 hz8 hzp hp hp512 hc11
    show own_G p.tables e below _ (T17.setTop (mkF m 32 #[.val (.ref a1), .val (.int p1), .val (.int (p1 / (64 : Int32)))] [(.int (own_mx ((2 : Int32) * z1) ((p1 / (64 : Int32)) + (1 : Int32)))), (.ref d1), (.ref a1)]))
    have Zs23 : n0 ≤ h0.size := Z0
    obtain ⟨_, _, ⟨T22, L22, k22, n22⟩, -, X22, ⟨Lc22, hQ22, l22, y22, z22⟩, st22⟩ := Jvm.LawKit.callS X17 hx (y := (⟨"java/util/Arrays", "copyOf", "([JI)[J"⟩ : MethodName)) hown (mvT hZ (hw _ (List.mem_of_getElem? (i := 50) rfl))) (mvT hZ (hw _ (List.mem_of_getElem? (i := 51) rfl))) (mvT hZ (hw _ (List.mem_of_getElem? (i := 52) rfl))) (mvT hZ (hw _ (List.mem_of_getElem? (i := 53) rfl))) (by decide) (backOf (W := 1) (own_copyOf l Z a0 hw [] d1 (own_mx ((2 : Int32) * z1) ((p1 / (64 : Int32)) + (1 : Int32))) k1 z1 ff h0 n0 Zs23 hV_d1 hfz hz1 gl.1 gl.2) hZ (hw _ (List.mem_of_getElem? (i := 53) rfl)) (hw _ (List.mem_of_getElem? (i := 52) rfl)) (by decide) (by decide)) (g := (mkF m 32 #[.val (.ref a1), .val (.int p1), .val (.int (p1 / (64 : Int32)))] [(.int (own_mx ((2 : Int32) * z1) ((p1 / (64 : Int32)) + (1 : Int32)))), (.ref d1), (.ref a1)])) rfl (by rw [hml]; rfl) (argsL := [(.ref d1), (.int (own_mx ((2 : Int32) * z1) ((p1 / (64 : Int32)) + (1 : Int32))))]) (rest := [(.ref a1)]) (lenOf own_pd2 rfl) rfl (by show 2 * 0 + _ ≤ _; exact Nat.le_of_eq rfl) (hb hby own_d3_32) (fun _ _ => ⟨rfl, e17, (by decide : 0 + 1 ≤ _), (by decide : 0 + 16 ≤ _)⟩)
    dsimp only [Pt.U, Pt.locs, Pt.cells, Pt.slots] at X22 l22 y22 z22 st22 hQ22
    subst l22 y22 z22
    obtain ⟨h22, e22⟩ : ∃ h, T22.heap = h := ⟨_, rfl⟩
    rw [e22] at hQ22
    obtain ⟨br19, kr20, rfl, Nq22, K22, P21_0, P21_1⟩ := hQ22
    have N22 := Fr.app N17 Nq22
    have ge_br19 : n0 ≤ br19 := Nat.le_trans Z0 P21_0
    have gz_br19 : h0.size ≤ br19 := Nat.le_trans (Nat.le_refl _) P21_0
    refine own_fs (st22 _ (Steps.refl _)) ?_
    show own_G p.tables e below _ (T22.setTop (mkF m 35 #[.val (.ref a1), .val (.int p1), .val (.int (p1 / (64 : Int32)))] [(.ref br19), (.ref a1)]))
    obtain ⟨T24, h24, X24, e24, W24, st24⟩ := putF X22 hx hZ hown (host := "") (Or.inl (hw _ (List.mem_of_getElem? (i := 10) rfl))) Via.refl e22 (hF_words_a1.keep K22 nin0) (hE_a1.keep K22) (Or.inl (hw _ (List.mem_of_getElem? (i := 11) rfl))) (hw _ (List.mem_of_getElem? (i := 1) rfl)) (ty := (.array .long)) (by decide) rfl rfl (g := (mkF m 35 #[.val (.ref a1), .val (.int p1), .val (.int (p1 / (64 : Int32)))] [(.ref br19), (.ref a1)])) rfl rfl (hb hby own_d3_35)
    refine own_fs (st24 _ (Steps.refl _)) ?_
    have Fw24 := Fld.same W24 (hF_words_a1.keep K22 nin0)
    have N24 := Fr.snoc X24 N22 ge_a1
    show own_G p.tables e below _ (T24.setTop (mkF m 38 #[.val (.ref a1), .val (.int p1), .val (.int (p1 / (64 : Int32)))] []))
    refine own_fs (XS.aloadN X24.here hx rfl (hb hby own_d3_38) rfl rfl (Steps.refl _)) ?_
    show own_G p.tables e below _ (T24.setTop (mkF m 39 #[.val (.ref a1), .val (.int p1), .val (.int (p1 / (64 : Int32)))] [(.ref a1)]))
    obtain ⟨T25, X25, e25, st25⟩ := getF X24 hx hZ hown (host := "") (Or.inl (hw _ (List.mem_of_getElem? (i := 10) rfl))) Via.refl e24 Fw24 (g := (mkF m 39 #[.val (.ref a1), .val (.int p1), .val (.int (p1 / (64 : Int32)))] [(.ref a1)])) rfl rfl (hb hby own_d3_39)
    refine own_fs (st25 _ (Steps.refl _)) ?_
    show own_G p.tables e below _ (T25.setTop (mkF m 42 #[.val (.ref a1), .val (.int p1), .val (.int (p1 / (64 : Int32)))] [(.ref br19)]))
    refine own_fs (XS.iloadN X25.here hx rfl (hb hby own_d3_42) rfl (Steps.refl _)) ?_
    show own_G p.tables e below _ (T25.setTop (mkF m 43 #[.val (.ref a1), .val (.int p1), .val (.int (p1 / (64 : Int32)))] [(.int (p1 / (64 : Int32))), (.ref br19)]))
    have sd26 : Steps p.tables e below (T25.setTop (mkF m 43 #[.val (.ref a1), .val (.int p1), .val (.int (p1 / (64 : Int32)))] [(.int (p1 / (64 : Int32))), (.ref br19)])) (T25.setTop (mkF m 44 #[.val (.ref a1), .val (.int p1), .val (.int (p1 / (64 : Int32)))] [(.int (p1 / (64 : Int32))), (.ref br19), (.int (p1 / (64 : Int32))), (.ref br19)])) := by
      jvm_step X25.here [X25.here.top, hx, (hb hby own_d3_43), Value.category]
      exact Steps.refl _
    refine own_fs sd26 ?_
    have li := own_liB hz1 hz8 hzp hp hp512 hc11
    have f16 := own_f16 hfz hz16 hz1
    show own_G p.tables e below _ (T25.setTop (mkF m 44 #[.val (.ref a1), .val (.int p1), .val (.int (p1 / (64 : Int32)))] [(.int (p1 / (64 : Int32))), (.ref br19), (.int (p1 / (64 : Int32))), (.ref br19)]))
    obtain ⟨cl27, Ar27, q27, S27, O27, H27, G27⟩ := (P21_1.other W24 (Ne.symm (Nat.ne_of_lt (Nat.lt_of_lt_of_le (Exa.lt hE_a1) P21_0))))
    have hin27 : ¬ ((p1 / (64 : Int32)) < 0 ∨ cl27.slots.size ≤ ((p1 / (64 : Int32))).toNatClampNeg) := inb_of S27 ⟨li.1, li.2.1⟩
    have hat27 : cl27.slots[((p1 / (64 : Int32))).toNatClampNeg]? = some (.long (ff ((p1 / (64 : Int32))).toNatClampNeg)) := Has.at H27 hin27 (own_L_get f16 _)
    show own_G p.tables e below _ (T25.setTop (mkF m 44 #[.val (.ref a1), .val (.int p1), .val (.int (p1 / (64 : Int32)))] [(.int (p1 / (64 : Int32))), (.ref br19), (.int (p1 / (64 : Int32))), (.ref br19)]))
    refine own_fs (X25.laload hx (j := (p1 / (64 : Int32))) (v := (.long (ff ((p1 / (64 : Int32))).toNatClampNeg))) (by rw [e25]; exact Ar27.1) (State.isArrayOf_alike hZ.alike Ar27.2.1) Ar27.2.2 hin27 hat27 (g := (mkF m 44 #[.val (.ref a1), .val (.int p1), .val (.int (p1 / (64 : Int32)))] [(.int (p1 / (64 : Int32))), (.ref br19), (.int (p1 / (64 : Int32))), (.ref br19)])) rfl rfl (hb hby own_d3_44) _ (Steps.refl _)) ?_
    show own_G p.tables e below _ (T25.setTop (mkF m 45 #[.val (.ref a1), .val (.int p1), .val (.int (p1 / (64 : Int32)))] [(.long (ff ((p1 / (64 : Int32))).toNatClampNeg)), (.int (p1 / (64 : Int32))), (.ref br19)]))
    refine own_fs (XS.lconst X25.here hx rfl (hb hby own_d3_45) (Steps.refl _)) ?_
    show own_G p.tables e below _ (T25.setTop (mkF m 46 #[.val (.ref a1), .val (.int p1), .val (.int (p1 / (64 : Int32)))] [(.long (1 : Int64)), (.long (ff ((p1 / (64 : Int32))).toNatClampNeg)), (.int (p1 / (64 : Int32))), (.ref br19)]))
    refine own_fs (XS.iloadN X25.here hx rfl (hb hby own_d3_46) rfl (Steps.refl _)) ?_
    show own_G p.tables e below _ (T25.setTop (mkF m 47 #[.val (.ref a1), .val (.int p1), .val (.int (p1 / (64 : Int32)))] [(.int p1), (.long (1 : Int64)), (.long (ff ((p1 / (64 : Int32))).toNatClampNeg)), (.int (p1 / (64 : Int32))), (.ref br19)]))
    refine own_fs (XS.lshl X25.here hx rfl (hb hby own_d3_47) rfl (Steps.refl _)) ?_
    show own_G p.tables e below _ (T25.setTop (mkF m 48 #[.val (.ref a1), .val (.int p1), .val (.int (p1 / (64 : Int32)))] [(.long ((1 : Int64) <<< (p1 &&& 0x3f).toInt64)), (.long (ff ((p1 / (64 : Int32))).toNatClampNeg)), (.int (p1 / (64 : Int32))), (.ref br19)]))
    refine own_fs (XS.lor X25.here hx rfl (hb hby own_d3_48) rfl (Steps.refl _)) ?_
    show own_G p.tables e below _ (T25.setTop (mkF m 49 #[.val (.ref a1), .val (.int p1), .val (.int (p1 / (64 : Int32)))] [(.long ((ff ((p1 / (64 : Int32))).toNatClampNeg) ||| ((1 : Int64) <<< (p1 &&& 0x3f).toInt64))), (.int (p1 / (64 : Int32))), (.ref br19)]))
    obtain ⟨cl28, Ar28, q28, S28, O28, H28, G28⟩ := (P21_1.other W24 (Ne.symm (Nat.ne_of_lt (Nat.lt_of_lt_of_le (Exa.lt hE_a1) P21_0))))
    obtain ⟨T29, h29, X29, e29, W29, st29⟩ := stJ X25 hx hZ e25 Ar28 (j := (p1 / (64 : Int32))) (inb_of S28 ⟨li.1, li.2.1⟩) (g := (mkF m 49 #[.val (.ref a1), .val (.int p1), .val (.int (p1 / (64 : Int32)))] [(.long ((ff ((p1 / (64 : Int32))).toNatClampNeg) ||| ((1 : Int64) <<< (p1 &&& 0x3f).toInt64))), (.int (p1 / (64 : Int32))), (.ref br19)])) rfl rfl (hb hby own_d3_49)
    refine own_fs (st29 _ (Steps.refl _)) ?_
    have V29 : Arv Z h29 br19 kr20 .long (own_mx ((2 : Int32) * z1) ((p1 / (64 : Int32)) + (1 : Int32))) (own_L (own_add ff p1)) (.long (0 : Int64)) := (Arv.set Ar28 q28 S28 O28 H28 G28 rfl W29 _ rfl (by rw [own_L_len]; exact li.2.2)).pad (own_L_set f16 li.2.2 _)
    have N29 := Fr.snoc X29 N24 ge_br19
    show own_G p.tables e below _ (T29.setTop (mkF m 50 #[.val (.ref a1), .val (.int p1), .val (.int (p1 / (64 : Int32)))] []))
    refine own_fs (XS.aloadN X29.here hx rfl (hb hby own_d3_50) rfl rfl (Steps.refl _)) ?_
    show own_G p.tables e below _ (T29.setTop (mkF m 51 #[.val (.ref a1), .val (.int p1), .val (.int (p1 / (64 : Int32)))] [(.ref a1)]))
    refine own_fs (XS.aloadN X29.here hx rfl (hb hby own_d3_51) rfl rfl (Steps.refl _)) ?_
    show own_G p.tables e below _ (T29.setTop (mkF m 52 #[.val (.ref a1), .val (.int p1), .val (.int (p1 / (64 : Int32)))] [(.ref a1), (.ref a1)]))
    obtain ⟨T30, X30, e30, st30⟩ := getF X29 hx hZ hown (host := "") (Or.inl (hw _ (List.mem_of_getElem? (i := 17) rfl))) Via.refl e29 (Fld.other W29 (Fld.other W24 (hF_lowest_a1.keep K22 nin0) (Or.inr (slot_ne (Or.inl (hw _ (List.mem_of_getElem? (i := 18) rfl))) (Or.inl (hw _ (List.mem_of_getElem? (i := 11) rfl))) (by decide) (t := .int) (t' := (.array .long)) (by decide) (by decide)))) (Or.inl (Nat.ne_of_lt (Nat.lt_of_lt_of_le (Exa.lt hE_a1) P21_0)))) (g := (mkF m 52 #[.val (.ref a1), .val (.int p1), .val (.int (p1 / (64 : Int32)))] [(.ref a1), (.ref a1)])) rfl rfl (hb hby own_d3_52)
    refine own_fs (st30 _ (Steps.refl _)) ?_
    show own_G p.tables e below _ (T30.setTop (mkF m 55 #[.val (.ref a1), .val (.int p1), .val (.int (p1 / (64 : Int32)))] [(.int u2), (.ref a1)]))
    refine own_fs (XS.iloadN X30.here hx rfl (hb hby own_d3_55) rfl (Steps.refl _)) ?_
    show own_G p.tables e below _ (T30.setTop (mkF m 56 #[.val (.ref a1), .val (.int p1), .val (.int (p1 / (64 : Int32)))] [(.int p1), (.int u2), (.ref a1)]))
    have Zs33 : n0 ≤ h29.size := (Nat.le_trans (Nat.le_trans (Nat.le_trans Z0 K22.1) (Keep.of_wr W24).1) (Keep.of_wr W29).1)
    obtain ⟨_, _, ⟨T32, L32, k32, n32⟩, -, X32, ⟨Lc32, hQ32, l32, y32, z32⟩, st32⟩ := Jvm.LawKit.callS X30 hx (y := (⟨"java/lang/Math", "min", "(II)I"⟩ : MethodName)) hown (mvT hZ (hw _ (List.mem_of_getElem? (i := 19) rfl))) (mvT hZ (hw _ (List.mem_of_getElem? (i := 20) rfl))) (mvT hZ (hw _ (List.mem_of_getElem? (i := 21) rfl))) (mvT hZ (hw _ (List.mem_of_getElem? (i := 22) rfl))) (by decide) (backOf (W := 1) (own_min2 l Z a0 hw [] u2 p1 h29 n0 Zs33 ) hZ (hw _ (List.mem_of_getElem? (i := 22) rfl)) (hw _ (List.mem_of_getElem? (i := 21) rfl)) (by decide) (by decide)) (g := (mkF m 56 #[.val (.ref a1), .val (.int p1), .val (.int (p1 / (64 : Int32)))] [(.int p1), (.int u2), (.ref a1)])) rfl (by rw [hml]; rfl) (argsL := [(.int u2), (.int p1)]) (rest := [(.ref a1)]) (lenOf own_pd1 rfl) rfl (by show 2 * 0 + _ ≤ _; exact Nat.le_of_eq rfl) (hb hby own_d3_56) (fun _ _ => ⟨rfl, e30, (by decide : 1 + 0 ≤ _), (by decide : 16 + 0 ≤ _)⟩)
    dsimp only [Pt.U, Pt.locs, Pt.cells, Pt.slots] at X32 l32 y32 z32 st32 hQ32
    subst l32 y32 z32
    obtain ⟨rfl, Nq32, e32⟩ := hQ32
    have N32 := Fr.app N29 Nq32
    refine own_fs (st32 _ (Steps.refl _)) ?_
    show own_G p.tables e below _ (T32.setTop (mkF m 59 #[.val (.ref a1), .val (.int p1), .val (.int (p1 / (64 : Int32)))] [(.int (own_mn u2 p1)), (.ref a1)]))
    obtain ⟨T34, h34, X34, e34, W34, st34⟩ := putF X32 hx hZ hown (host := "") (Or.inl (hw _ (List.mem_of_getElem? (i := 17) rfl))) Via.refl e32 (Fld.other W29 (Fld.other W24 (hF_lowest_a1.keep K22 nin0) (Or.inr (slot_ne (Or.inl (hw _ (List.mem_of_getElem? (i := 18) rfl))) (Or.inl (hw _ (List.mem_of_getElem? (i := 11) rfl))) (by decide) (t := .int) (t' := (.array .long)) (by decide) (by decide)))) (Or.inl (Nat.ne_of_lt (Nat.lt_of_lt_of_le (Exa.lt hE_a1) P21_0)))) (Exa.wr W29 (Exa.wr W24 (hE_a1.keep K22))) (Or.inl (hw _ (List.mem_of_getElem? (i := 18) rfl))) (hw _ (List.mem_of_getElem? (i := 1) rfl)) (ty := .int) (by decide) rfl rfl (g := (mkF m 59 #[.val (.ref a1), .val (.int p1), .val (.int (p1 / (64 : Int32)))] [(.int (own_mn u2 p1)), (.ref a1)])) rfl rfl (hb hby own_d3_59)
    refine own_fs (st34 _ (Steps.refl _)) ?_
    have Fw34 := Fld.same W34 (Fld.other W29 (Fld.other W24 (hF_lowest_a1.keep K22 nin0) (Or.inr (slot_ne (Or.inl (hw _ (List.mem_of_getElem? (i := 18) rfl))) (Or.inl (hw _ (List.mem_of_getElem? (i := 11) rfl))) (by decide) (t := .int) (t' := (.array .long)) (by decide) (by decide)))) (Or.inl (Nat.ne_of_lt (Nat.lt_of_lt_of_le (Exa.lt hE_a1) P21_0))))
    have N34 := Fr.snoc X34 N32 ge_a1
    show own_G p.tables e below _ (T34.setTop (mkF m 62 #[.val (.ref a1), .val (.int p1), .val (.int (p1 / (64 : Int32)))] []))
    exact own_retV X34 hx Bd.returns hlk (hb hby own_d3_62) (by decide) (by decide) e34 ⟨br19, kr20, (own_mx ((2 : Int32) * z1) ((p1 / (64 : Int32)) + (1 : Int32))), (own_mn u2 p1), rfl, N34, (((((Keep.refl _ _).trans K22 all0).wr W24 (Or.inl (List.mem_of_getElem? (i := 0) rfl))).wr W29 (Or.inr gz_br19)).wr W34 (Or.inl (List.mem_of_getElem? (i := 0) rfl))), (Fld.other W34 (Fld.other W29 Fw24 (Or.inl (Nat.ne_of_lt (Nat.lt_of_lt_of_le (Exa.lt hE_a1) P21_0)))) (Or.inr (slot_ne (Or.inl (hw _ (List.mem_of_getElem? (i := 11) rfl))) (Or.inl (hw _ (List.mem_of_getElem? (i := 18) rfl))) (by decide) (t := (.array .long)) (t' := .int) (by decide) (by decide)))), Fw34, (V29.other W34 (Ne.symm (Nat.ne_of_lt (Nat.lt_of_lt_of_le (Exa.lt hE_a1) P21_0)))), ge_br19, (Nat.ne_of_lt (Nat.lt_of_lt_of_le (Exa.lt hE_a1) P21_0)), (own_zokB hfz hz1 hz8 hzp hp hp512 hc11), (Arv.lt (V29.other W34 (Ne.symm (Nat.ne_of_lt (Nat.lt_of_lt_of_le (Exa.lt hE_a1) P21_0)))))⟩
theorem own_wrem_ef (m : MethodId) (x0 : Addr) (x1 : Int32) : entryFrame m #[(.ref x0), (.int x1)] 3 = mkF m 0 #[.val (.ref x0), .val (.int x1), .unset] [] := by first | (simp [entryFrame, mkF, argsToLocals, Value.category]; done) | rfl
def own_wrem_Q (Z : State) (a1 : Addr) (p1 : Int32) (d1 : Addr) (k1 : ClassId) (z1 : Int32) (ff : Nat → Int64) (h0 : Heap) (n0 : Nat) (v : Option Value) (h : Heap) (L : List Loc) : Prop := (v = none ∧ Fr n0 L ∧ Keep h0 h [d1] ∧ (Arv Z h d1 k1 .long z1 (own_L (own_rem ff p1)) (.long (0 : Int64))))
set_option maxRecDepth 65536 in
set_option maxHeartbeats 40000000 in
theorem own_wrem (l : Launch) (Z : State) (a0 : Array Value) (hw : ∀ d ∈ tables_1, d.before a0 Z = true) (ws : List Jvm.Cond) (a1 : Addr) (p1 : Int32) (d1 : Addr) (k1 : ClassId) (z1 : Int32) (ff : Nat → Int64) (h0 : Heap) (n0 : Nat) (Z0 : n0 ≤ h0.size) (hF_words_a1 : Fld Z h0 a1 "com/example/diligent_tableau/diligenttableau/tableau/Worklist" "words" "[J" (.ref d1)) (ge_d1 : n0 ≤ d1) (hne_a1_d1 : a1 ≠ d1) (hV_d1 : Arv Z h0 d1 k1 .long z1 (own_L ff) (.long (0 : Int64))) (hfz : ∀ i, z1.toNatClampNeg ≤ i → ff i = 0) (hz1 : ¬ z1 < 0) (hz16 : z1.toInt ≤ 16) (hp : ¬ p1 < 0) :
    MetFree l (⟨"com/example/diligent_tableau/diligenttableau/tableau/Worklist", "remove", "(I)V"⟩ : MethodName) (head1 (Jvm.Cond.code (⟨"com/example/diligent_tableau/diligenttableau/tableau/Worklist", "remove", "(I)V"⟩ : MethodName) prog_64_method_4_code 3 none :: ws) ({ frames := 0, cells := 0, slots := 0, locals := 0 } : Room)) (fun a U => a = #[(.ref a1), (.int p1)] ∧ Z.Warmed39 U.vm ∧ U.heap = h0) (fun _ _ _ _ _ => True) (fun _ U o U' => ∃ v L, o = .returned v ∧ own_wrem_Q Z a1 p1 d1 k1 z1 ff h0 n0 v U'.heap L ∧ FrameEnd U o U' L ({ frames := 0, cells := 0, slots := 0, locals := 0 } : Room).cells ({ frames := 0, cells := 0, slots := 0, locals := 0 } : Room).slots) := by
  refine MetFree.of_bodySF (plainFor_of_name own_pn4) hisR ?_
  intro p e s m args below meth c s₁ Bd hml0 hP hK
  obtain ⟨rfl, hZ, hh⟩ := hP
  have hx := Bd.exec
  have hby := Bd.bytes
  have hlk : meth.locks = false := BodyLoose.notSynchronized Bd
  have hml : c.maxLocals = 3 := hml0
  have hown : s.vm.findClass "com/example/diligent_tableau/diligenttableau/tableau/Worklist" = some m.cls := findClass_of_methodNamed Bd.named
  have hnm := (name_of_methodNamed Bd.named Bd.method).1
  have X0 : Stand p l e ({ frames := 0, cells := 0, slots := 0, locals := 0 } : Room) s m #[(.ref a1), (.int p1)] below meth c s₁ [] 0 0 := Stand.of_body Bd
  have e0 : s₁.heap = h0 := by rw [← hh, Bd.state]; rfl
  have N0 := Fr.nil n0
  refine own_start (QQ := own_wrem_Q Z a1 p1 d1 k1 z1 ff h0 n0) (rc := ({ frames := 0, cells := 0, slots := 0, locals := 0 } : Room).cells) (rs := ({ frames := 0, cells := 0, slots := 0, locals := 0 } : Room).slots) (own_wrem_ef m a1 p1 ) ?_
  show own_G p.tables e below _ (s₁.setTop (mkF m 0 #[.val (.ref a1), .val (.int p1), .unset] []))
  refine own_fs (XS.iloadN X0.here hx rfl (hb hby own_d5_0) rfl (Steps.refl _)) ?_
  show own_G p.tables e below _ (s₁.setTop (mkF m 1 #[.val (.ref a1), .val (.int p1), .unset] [(.int p1)]))
  refine own_fs (XS.bipush X0.here hx rfl (hb hby own_d5_1) (Steps.refl _)) ?_
  show own_G p.tables e below _ (s₁.setTop (mkF m 3 #[.val (.ref a1), .val (.int p1), .unset] [(.int (64 : Int32)), (.int p1)]))
  refine own_fs (XS.idiv X0.here hx rfl (hb hby own_d5_3) rfl (by decide) (Steps.refl _)) ?_
  show own_G p.tables e below _ (s₁.setTop (mkF m 4 #[.val (.ref a1), .val (.int p1), .unset] [(.int (p1 / (64 : Int32)))]))
  refine own_fs (XS.istoreN X0.here hx rfl (hb hby own_d5_4) rfl (l' := #[.val (.ref a1), .val (.int p1), .val (.int (p1 / (64 : Int32)))]) rfl (Steps.refl _)) ?_
  show own_G p.tables e below _ (s₁.setTop (mkF m 5 #[.val (.ref a1), .val (.int p1), .val (.int (p1 / (64 : Int32)))] []))
  refine own_fs (XS.iloadN X0.here hx rfl (hb hby own_d5_5) rfl (Steps.refl _)) ?_
  show own_G p.tables e below _ (s₁.setTop (mkF m 6 #[.val (.ref a1), .val (.int p1), .val (.int (p1 / (64 : Int32)))] [(.int (p1 / (64 : Int32)))]))
  refine own_fs (XS.aloadN X0.here hx rfl (hb hby own_d5_6) rfl rfl (Steps.refl _)) ?_
  show own_G p.tables e below _ (s₁.setTop (mkF m 7 #[.val (.ref a1), .val (.int p1), .val (.int (p1 / (64 : Int32)))] [(.ref a1), (.int (p1 / (64 : Int32)))]))
  obtain ⟨T1, X1, e1, st1⟩ := getF X0 hx hZ hown (host := "") (Or.inl (hw _ (List.mem_of_getElem? (i := 10) rfl))) Via.refl e0 hF_words_a1 (g := (mkF m 7 #[.val (.ref a1), .val (.int p1), .val (.int (p1 / (64 : Int32)))] [(.ref a1), (.int (p1 / (64 : Int32)))])) rfl rfl (hb hby own_d5_7)
  refine own_fs (st1 _ (Steps.refl _)) ?_
  show own_G p.tables e below _ (T1.setTop (mkF m 10 #[.val (.ref a1), .val (.int p1), .val (.int (p1 / (64 : Int32)))] [(.ref d1), (.int (p1 / (64 : Int32)))]))
  obtain ⟨cl2, Ar2, -, S2, O2, -, -⟩ := (id hV_d1)
  have sl2 := X1.arraylength hx (by rw [e1]; exact Ar2.1) (State.isArrayOf_alike hZ.alike Ar2.2.1) (g := (mkF m 10 #[.val (.ref a1), .val (.int p1), .val (.int (p1 / (64 : Int32)))] [(.ref d1), (.int (p1 / (64 : Int32)))])) rfl rfl (hb hby own_d5_10) _ (Steps.refl _)
  rw [len_of S2 O2] at sl2
  refine own_fs sl2 ?_
  show own_G p.tables e below _ (T1.setTop (mkF m 11 #[.val (.ref a1), .val (.int p1), .val (.int (p1 / (64 : Int32)))] [(.int z1), (.int (p1 / (64 : Int32)))]))
  by_cases hc11 : (p1 / (64 : Int32)) < z1
  · refine own_fs (XS.icmpNo X1.here hx rfl (hb hby own_d5_11) rfl (XT.ii_ge_f hc11) (Steps.refl _)) ?_
    show own_G p.tables e below _ (T1.setTop (mkF m 14 #[.val (.ref a1), .val (.int p1), .val (.int (p1 / (64 : Int32)))] []))
    refine own_fs (XS.aloadN X1.here hx rfl (hb hby own_d5_14) rfl rfl (Steps.refl _)) ?_
    show own_G p.tables e below _ (T1.setTop (mkF m 15 #[.val (.ref a1), .val (.int p1), .val (.int (p1 / (64 : Int32)))] [(.ref a1)]))
    obtain ⟨T3, X3, e3, st3⟩ := getF X1 hx hZ hown (host := "") (Or.inl (hw _ (List.mem_of_getElem? (i := 10) rfl))) Via.refl e1 hF_words_a1 (g := (mkF m 15 #[.val (.ref a1), .val (.int p1), .val (.int (p1 / (64 : Int32)))] [(.ref a1)])) rfl rfl (hb hby own_d5_15)
    refine own_fs (st3 _ (Steps.refl _)) ?_
    show own_G p.tables e below _ (T3.setTop (mkF m 18 #[.val (.ref a1), .val (.int p1), .val (.int (p1 / (64 : Int32)))] [(.ref d1)]))
    refine own_fs (XS.iloadN X3.here hx rfl (hb hby own_d5_18) rfl (Steps.refl _)) ?_
    show own_G p.tables e below _ (T3.setTop (mkF m 19 #[.val (.ref a1), .val (.int p1), .val (.int (p1 / (64 : Int32)))] [(.int (p1 / (64 : Int32))), (.ref d1)]))
    have sd4 : Steps p.tables e below (T3.setTop (mkF m 19 #[.val (.ref a1), .val (.int p1), .val (.int (p1 / (64 : Int32)))] [(.int (p1 / (64 : Int32))), (.ref d1)])) (T3.setTop (mkF m 20 #[.val (.ref a1), .val (.int p1), .val (.int (p1 / (64 : Int32)))] [(.int (p1 / (64 : Int32))), (.ref d1), (.int (p1 / (64 : Int32))), (.ref d1)])) := by
      jvm_step X3.here [X3.here.top, hx, (hb hby own_d5_19), Value.category]
      exact Steps.refl _
    refine own_fs sd4 ?_
    have li := own_liA hz1 hz16 hp hc11
    have f16 := own_f16 hfz hz16 hz1
    show own_G p.tables e below _ (T3.setTop (mkF m 20 #[.val (.ref a1), .val (.int p1), .val (.int (p1 / (64 : Int32)))] [(.int (p1 / (64 : Int32))), (.ref d1), (.int (p1 / (64 : Int32))), (.ref d1)]))
    obtain ⟨cl5, Ar5, q5, S5, O5, H5, G5⟩ := (id hV_d1)
    have hin5 : ¬ ((p1 / (64 : Int32)) < 0 ∨ cl5.slots.size ≤ ((p1 / (64 : Int32))).toNatClampNeg) := inb_of S5 ⟨li.1, li.2.1⟩
    have hat5 : cl5.slots[((p1 / (64 : Int32))).toNatClampNeg]? = some (.long (ff ((p1 / (64 : Int32))).toNatClampNeg)) := Has.at H5 hin5 (own_L_get f16 _)
    show own_G p.tables e below _ (T3.setTop (mkF m 20 #[.val (.ref a1), .val (.int p1), .val (.int (p1 / (64 : Int32)))] [(.int (p1 / (64 : Int32))), (.ref d1), (.int (p1 / (64 : Int32))), (.ref d1)]))
    refine own_fs (X3.laload hx (j := (p1 / (64 : Int32))) (v := (.long (ff ((p1 / (64 : Int32))).toNatClampNeg))) (by rw [e3]; exact Ar5.1) (State.isArrayOf_alike hZ.alike Ar5.2.1) Ar5.2.2 hin5 hat5 (g := (mkF m 20 #[.val (.ref a1), .val (.int p1), .val (.int (p1 / (64 : Int32)))] [(.int (p1 / (64 : Int32))), (.ref d1), (.int (p1 / (64 : Int32))), (.ref d1)])) rfl rfl (hb hby own_d5_20) _ (Steps.refl _)) ?_
    show own_G p.tables e below _ (T3.setTop (mkF m 21 #[.val (.ref a1), .val (.int p1), .val (.int (p1 / (64 : Int32)))] [(.long (ff ((p1 / (64 : Int32))).toNatClampNeg)), (.int (p1 / (64 : Int32))), (.ref d1)]))
    refine own_fs (XS.lconst X3.here hx rfl (hb hby own_d5_21) (Steps.refl _)) ?_
    show own_G p.tables e below _ (T3.setTop (mkF m 22 #[.val (.ref a1), .val (.int p1), .val (.int (p1 / (64 : Int32)))] [(.long (1 : Int64)), (.long (ff ((p1 / (64 : Int32))).toNatClampNeg)), (.int (p1 / (64 : Int32))), (.ref d1)]))
    refine own_fs (XS.iloadN X3.here hx rfl (hb hby own_d5_22) rfl (Steps.refl _)) ?_
    show own_G p.tables e below _ (T3.setTop (mkF m 23 #[.val (.ref a1), .val (.int p1), .val (.int (p1 / (64 : Int32)))] [(.int p1), (.long (1 : Int64)), (.long (ff ((p1 / (64 : Int32))).toNatClampNeg)), (.int (p1 / (64 : Int32))), (.ref d1)]))
    refine own_fs (XS.lshl X3.here hx rfl (hb hby own_d5_23) rfl (Steps.refl _)) ?_
    show own_G p.tables e below _ (T3.setTop (mkF m 24 #[.val (.ref a1), .val (.int p1), .val (.int (p1 / (64 : Int32)))] [(.long ((1 : Int64) <<< (p1 &&& 0x3f).toInt64)), (.long (ff ((p1 / (64 : Int32))).toNatClampNeg)), (.int (p1 / (64 : Int32))), (.ref d1)]))
    refine own_fs (X3.ldc2Long hx hown (mvT hZ (hw _ (List.mem_of_getElem? (i := 28) rfl))) (g := (mkF m 24 #[.val (.ref a1), .val (.int p1), .val (.int (p1 / (64 : Int32)))] [(.long ((1 : Int64) <<< (p1 &&& 0x3f).toInt64)), (.long (ff ((p1 / (64 : Int32))).toNatClampNeg)), (.int (p1 / (64 : Int32))), (.ref d1)])) rfl (hb hby own_d5_24) _ (Steps.refl _)) ?_
    show own_G p.tables e below _ (T3.setTop (mkF m 27 #[.val (.ref a1), .val (.int p1), .val (.int (p1 / (64 : Int32)))] [(.long (-1 : Int64)), (.long ((1 : Int64) <<< (p1 &&& 0x3f).toInt64)), (.long (ff ((p1 / (64 : Int32))).toNatClampNeg)), (.int (p1 / (64 : Int32))), (.ref d1)]))
    refine own_fs (XS.lxor X3.here hx rfl (hb hby own_d5_27) rfl (Steps.refl _)) ?_
    show own_G p.tables e below _ (T3.setTop (mkF m 28 #[.val (.ref a1), .val (.int p1), .val (.int (p1 / (64 : Int32)))] [(.long (((1 : Int64) <<< (p1 &&& 0x3f).toInt64) ^^^ (-1 : Int64))), (.long (ff ((p1 / (64 : Int32))).toNatClampNeg)), (.int (p1 / (64 : Int32))), (.ref d1)]))
    refine own_fs (XS.land X3.here hx rfl (hb hby own_d5_28) rfl (Steps.refl _)) ?_
    show own_G p.tables e below _ (T3.setTop (mkF m 29 #[.val (.ref a1), .val (.int p1), .val (.int (p1 / (64 : Int32)))] [(.long ((ff ((p1 / (64 : Int32))).toNatClampNeg) &&& (((1 : Int64) <<< (p1 &&& 0x3f).toInt64) ^^^ (-1 : Int64)))), (.int (p1 / (64 : Int32))), (.ref d1)]))
    obtain ⟨cl6, Ar6, q6, S6, O6, H6, G6⟩ := (id hV_d1)
    obtain ⟨T7, h7, X7, e7, W7, st7⟩ := stJ X3 hx hZ e3 Ar6 (j := (p1 / (64 : Int32))) (inb_of S6 ⟨li.1, li.2.1⟩) (g := (mkF m 29 #[.val (.ref a1), .val (.int p1), .val (.int (p1 / (64 : Int32)))] [(.long ((ff ((p1 / (64 : Int32))).toNatClampNeg) &&& (((1 : Int64) <<< (p1 &&& 0x3f).toInt64) ^^^ (-1 : Int64)))), (.int (p1 / (64 : Int32))), (.ref d1)])) rfl rfl (hb hby own_d5_29)
    refine own_fs (st7 _ (Steps.refl _)) ?_
    have V7 : Arv Z h7 d1 k1 .long z1 (own_L (own_rem ff p1)) (.long (0 : Int64)) := (Arv.set Ar6 q6 S6 O6 H6 G6 rfl W7 _ rfl (by rw [own_L_len]; exact li.2.2)).pad (own_L_set f16 li.2.2 _)
    have N7 := Fr.snoc X7 N0 ge_d1
    show own_G p.tables e below _ (T7.setTop (mkF m 30 #[.val (.ref a1), .val (.int p1), .val (.int (p1 / (64 : Int32)))] []))
    exact own_retV X7 hx Bd.returns hlk (hb hby own_d5_30) (by decide) (by decide) e7 ⟨rfl, N7, ((Keep.refl _ _).wr W7 (Or.inl (List.mem_of_getElem? (i := 0) rfl))), V7⟩
  · refine own_fs (XS.icmpYes X1.here hx rfl (pc0 := 11) (pc' := 30) rfl (hb hby own_d5_11) rfl (XT.ii_ge_t hc11) (by decide) (by decide) (Steps.refl _)) ?_
    show own_G p.tables e below _ (T1.setTop (mkF m 30 #[.val (.ref a1), .val (.int p1), .val (.int (p1 / (64 : Int32)))] []))
    exact own_retV X1 hx Bd.returns hlk (hb hby own_d5_30) (by decide) (by decide) e1 ⟨rfl, N0, (Keep.refl _ _), (hV_d1.pad (own_remO hfz hz1 hz16 hp hc11))⟩
theorem own_wnext_ef (m : MethodId) (x0 : Addr) (x1 : Int32) : entryFrame m #[(.ref x0), (.int x1)] 5 = mkF m 0 #[.val (.ref x0), .val (.int x1), .unset, .unset, .unset] [] := by first | (simp [entryFrame, mkF, argsToLocals, Value.category]; done) | rfl
def own_wnext_Q (Z : State) (a1 : Addr) (p1 : Int32) (d1 : Addr) (k1 : ClassId) (z1 : Int32) (ff : Nat → Int64) (h0 : Heap) (n0 : Nat) (v : Option Value) (h : Heap) (L : List Loc) : Prop := ∃ vr : Int32, (v = some (.int vr) ∧ Fr n0 L ∧ h = h0 ∧ (own_isNext ff p1 vr))
set_option maxRecDepth 65536 in
set_option maxHeartbeats 40000000 in
theorem own_wnext (l : Launch) (Z : State) (a0 : Array Value) (hw : ∀ d ∈ tables_1, d.before a0 Z = true) (ws : List Jvm.Cond) (a1 : Addr) (p1 : Int32) (d1 : Addr) (k1 : ClassId) (z1 : Int32) (ff : Nat → Int64) (h0 : Heap) (n0 : Nat) (Z0 : n0 ≤ h0.size) (hF_words_a1 : Fld Z h0 a1 "com/example/diligent_tableau/diligenttableau/tableau/Worklist" "words" "[J" (.ref d1)) (hV_d1 : Arv Z h0 d1 k1 .long z1 (own_L ff) (.long (0 : Int64))) (hfz : ∀ i, z1.toNatClampNeg ≤ i → ff i = 0) (hz1 : ¬ z1 < 0) (hz16 : z1.toInt ≤ 16) (hp : ¬ p1 < 0) :
    MetFree l (⟨"com/example/diligent_tableau/diligenttableau/tableau/Worklist", "next", "(I)I"⟩ : MethodName) (head1 (Jvm.Cond.code (⟨"com/example/diligent_tableau/diligenttableau/tableau/Worklist", "next", "(I)I"⟩ : MethodName) prog_64_method_7_code 5 (some .int) :: ws) ({ frames := 2, cells := 0, slots := 0, locals := 29 } : Room)) (fun a U => a = #[(.ref a1), (.int p1)] ∧ Z.Warmed39 U.vm ∧ U.heap = h0) (fun _ _ _ _ _ => True) (fun _ U o U' => ∃ v L, o = .returned v ∧ own_wnext_Q Z a1 p1 d1 k1 z1 ff h0 n0 v U'.heap L ∧ FrameEnd U o U' L ({ frames := 2, cells := 0, slots := 0, locals := 29 } : Room).cells ({ frames := 2, cells := 0, slots := 0, locals := 29 } : Room).slots) := by
  refine MetFree.of_bodySF (plainFor_of_name own_pn4) hisR ?_
  intro p e s m args below meth c s₁ Bd hml0 hP hK
  obtain ⟨rfl, hZ, hh⟩ := hP
  have hx := Bd.exec
  have hby := Bd.bytes
  have hlk : meth.locks = false := BodyLoose.notSynchronized Bd
  have hml : c.maxLocals = 5 := hml0
  have hown : s.vm.findClass "com/example/diligent_tableau/diligenttableau/tableau/Worklist" = some m.cls := findClass_of_methodNamed Bd.named
  have hnm := (name_of_methodNamed Bd.named Bd.method).1
  have X0 : Stand p l e ({ frames := 2, cells := 0, slots := 0, locals := 29 } : Room) s m #[(.ref a1), (.int p1)] below meth c s₁ [] 0 0 := Stand.of_body Bd
  have e0 : s₁.heap = h0 := by rw [← hh, Bd.state]; rfl
  have N0 := Fr.nil n0
  refine own_start (QQ := own_wnext_Q Z a1 p1 d1 k1 z1 ff h0 n0) (rc := ({ frames := 2, cells := 0, slots := 0, locals := 29 } : Room).cells) (rs := ({ frames := 2, cells := 0, slots := 0, locals := 29 } : Room).slots) (own_wnext_ef m a1 p1 ) ?_
  show own_G p.tables e below _ (s₁.setTop (mkF m 0 #[.val (.ref a1), .val (.int p1), .unset, .unset, .unset] []))
  refine own_fs (XS.iloadN X0.here hx rfl (hb hby own_d6_0) rfl (Steps.refl _)) ?_
  show own_G p.tables e below _ (s₁.setTop (mkF m 1 #[.val (.ref a1), .val (.int p1), .unset, .unset, .unset] [(.int p1)]))
  refine own_fs (XS.bipush X0.here hx rfl (hb hby own_d6_1) (Steps.refl _)) ?_
  show own_G p.tables e below _ (s₁.setTop (mkF m 3 #[.val (.ref a1), .val (.int p1), .unset, .unset, .unset] [(.int (64 : Int32)), (.int p1)]))
  refine own_fs (XS.idiv X0.here hx rfl (hb hby own_d6_3) rfl (by decide) (Steps.refl _)) ?_
  show own_G p.tables e below _ (s₁.setTop (mkF m 4 #[.val (.ref a1), .val (.int p1), .unset, .unset, .unset] [(.int (p1 / (64 : Int32)))]))
  refine own_fs (XS.istoreN X0.here hx rfl (hb hby own_d6_4) rfl (l' := #[.val (.ref a1), .val (.int p1), .val (.int (p1 / (64 : Int32))), .unset, .unset]) rfl (Steps.refl _)) ?_
  show own_G p.tables e below _ (s₁.setTop (mkF m 5 #[.val (.ref a1), .val (.int p1), .val (.int (p1 / (64 : Int32))), .unset, .unset] []))
  refine own_fs (XS.iloadN X0.here hx rfl (hb hby own_d6_5) rfl (Steps.refl _)) ?_
  show own_G p.tables e below _ (s₁.setTop (mkF m 6 #[.val (.ref a1), .val (.int p1), .val (.int (p1 / (64 : Int32))), .unset, .unset] [(.int (p1 / (64 : Int32)))]))
  refine own_fs (XS.aloadN X0.here hx rfl (hb hby own_d6_6) rfl rfl (Steps.refl _)) ?_
  show own_G p.tables e below _ (s₁.setTop (mkF m 7 #[.val (.ref a1), .val (.int p1), .val (.int (p1 / (64 : Int32))), .unset, .unset] [(.ref a1), (.int (p1 / (64 : Int32)))]))
  obtain ⟨T1, X1, e1, st1⟩ := getF X0 hx hZ hown (host := "") (Or.inl (hw _ (List.mem_of_getElem? (i := 10) rfl))) Via.refl e0 hF_words_a1 (g := (mkF m 7 #[.val (.ref a1), .val (.int p1), .val (.int (p1 / (64 : Int32))), .unset, .unset] [(.ref a1), (.int (p1 / (64 : Int32)))])) rfl rfl (hb hby own_d6_7)
  refine own_fs (st1 _ (Steps.refl _)) ?_
  show own_G p.tables e below _ (T1.setTop (mkF m 10 #[.val (.ref a1), .val (.int p1), .val (.int (p1 / (64 : Int32))), .unset, .unset] [(.ref d1), (.int (p1 / (64 : Int32)))]))
  obtain ⟨cl2, Ar2, -, S2, O2, -, -⟩ := (id hV_d1)
  have sl2 := X1.arraylength hx (by rw [e1]; exact Ar2.1) (State.isArrayOf_alike hZ.alike Ar2.2.1) (g := (mkF m 10 #[.val (.ref a1), .val (.int p1), .val (.int (p1 / (64 : Int32))), .unset, .unset] [(.ref d1), (.int (p1 / (64 : Int32)))])) rfl rfl (hb hby own_d6_10) _ (Steps.refl _)
  rw [len_of S2 O2] at sl2
  refine own_fs sl2 ?_
  show own_G p.tables e below _ (T1.setTop (mkF m 11 #[.val (.ref a1), .val (.int p1), .val (.int (p1 / (64 : Int32))), .unset, .unset] [(.int z1), (.int (p1 / (64 : Int32)))]))
  by_cases hc11 : (p1 / (64 : Int32)) < z1
  · refine own_fs (XS.icmpYes X1.here hx rfl (pc0 := 11) (pc' := 16) rfl (hb hby own_d6_11) rfl (XT.ii_lt_t hc11) (by decide) (by decide) (Steps.refl _)) ?_
    show own_G p.tables e below _ (T1.setTop (mkF m 16 #[.val (.ref a1), .val (.int p1), .val (.int (p1 / (64 : Int32))), .unset, .unset] []))
    refine own_fs (XS.aloadN X1.here hx rfl (hb hby own_d6_16) rfl rfl (Steps.refl _)) ?_
    show own_G p.tables e below _ (T1.setTop (mkF m 17 #[.val (.ref a1), .val (.int p1), .val (.int (p1 / (64 : Int32))), .unset, .unset] [(.ref a1)]))
    obtain ⟨T3, X3, e3, st3⟩ := getF X1 hx hZ hown (host := "") (Or.inl (hw _ (List.mem_of_getElem? (i := 10) rfl))) Via.refl e1 hF_words_a1 (g := (mkF m 17 #[.val (.ref a1), .val (.int p1), .val (.int (p1 / (64 : Int32))), .unset, .unset] [(.ref a1)])) rfl rfl (hb hby own_d6_17)
    refine own_fs (st3 _ (Steps.refl _)) ?_
    show own_G p.tables e below _ (T3.setTop (mkF m 20 #[.val (.ref a1), .val (.int p1), .val (.int (p1 / (64 : Int32))), .unset, .unset] [(.ref d1)]))
    refine own_fs (XS.iloadN X3.here hx rfl (hb hby own_d6_20) rfl (Steps.refl _)) ?_
    have li := own_liA hz1 hz16 hp hc11
    have f16 := own_f16 hfz hz16 hz1
    show own_G p.tables e below _ (T3.setTop (mkF m 21 #[.val (.ref a1), .val (.int p1), .val (.int (p1 / (64 : Int32))), .unset, .unset] [(.int (p1 / (64 : Int32))), (.ref d1)]))
    obtain ⟨cl4, Ar4, q4, S4, O4, H4, G4⟩ := (id hV_d1)
    have hin4 : ¬ ((p1 / (64 : Int32)) < 0 ∨ cl4.slots.size ≤ ((p1 / (64 : Int32))).toNatClampNeg) := inb_of S4 ⟨li.1, li.2.1⟩
    have hat4 : cl4.slots[((p1 / (64 : Int32))).toNatClampNeg]? = some (.long (ff ((p1 / (64 : Int32))).toNatClampNeg)) := Has.at H4 hin4 (own_L_get f16 _)
    show own_G p.tables e below _ (T3.setTop (mkF m 21 #[.val (.ref a1), .val (.int p1), .val (.int (p1 / (64 : Int32))), .unset, .unset] [(.int (p1 / (64 : Int32))), (.ref d1)]))
    refine own_fs (X3.laload hx (j := (p1 / (64 : Int32))) (v := (.long (ff ((p1 / (64 : Int32))).toNatClampNeg))) (by rw [e3]; exact Ar4.1) (State.isArrayOf_alike hZ.alike Ar4.2.1) Ar4.2.2 hin4 hat4 (g := (mkF m 21 #[.val (.ref a1), .val (.int p1), .val (.int (p1 / (64 : Int32))), .unset, .unset] [(.int (p1 / (64 : Int32))), (.ref d1)])) rfl rfl (hb hby own_d6_21) _ (Steps.refl _)) ?_
    show own_G p.tables e below _ (T3.setTop (mkF m 22 #[.val (.ref a1), .val (.int p1), .val (.int (p1 / (64 : Int32))), .unset, .unset] [(.long (ff ((p1 / (64 : Int32))).toNatClampNeg))]))
    refine own_fs (X3.ldc2Long hx hown (mvT hZ (hw _ (List.mem_of_getElem? (i := 28) rfl))) (g := (mkF m 22 #[.val (.ref a1), .val (.int p1), .val (.int (p1 / (64 : Int32))), .unset, .unset] [(.long (ff ((p1 / (64 : Int32))).toNatClampNeg))])) rfl (hb hby own_d6_22) _ (Steps.refl _)) ?_
    show own_G p.tables e below _ (T3.setTop (mkF m 25 #[.val (.ref a1), .val (.int p1), .val (.int (p1 / (64 : Int32))), .unset, .unset] [(.long (-1 : Int64)), (.long (ff ((p1 / (64 : Int32))).toNatClampNeg))]))
    refine own_fs (XS.iloadN X3.here hx rfl (hb hby own_d6_25) rfl (Steps.refl _)) ?_
    show own_G p.tables e below _ (T3.setTop (mkF m 26 #[.val (.ref a1), .val (.int p1), .val (.int (p1 / (64 : Int32))), .unset, .unset] [(.int p1), (.long (-1 : Int64)), (.long (ff ((p1 / (64 : Int32))).toNatClampNeg))]))
    refine own_fs (XS.lshl X3.here hx rfl (hb hby own_d6_26) rfl (Steps.refl _)) ?_
    show own_G p.tables e below _ (T3.setTop (mkF m 27 #[.val (.ref a1), .val (.int p1), .val (.int (p1 / (64 : Int32))), .unset, .unset] [(.long ((-1 : Int64) <<< (p1 &&& 0x3f).toInt64)), (.long (ff ((p1 / (64 : Int32))).toNatClampNeg))]))
    refine own_fs (XS.land X3.here hx rfl (hb hby own_d6_27) rfl (Steps.refl _)) ?_
    show own_G p.tables e below _ (T3.setTop (mkF m 28 #[.val (.ref a1), .val (.int p1), .val (.int (p1 / (64 : Int32))), .unset, .unset] [(.long ((ff ((p1 / (64 : Int32))).toNatClampNeg) &&& ((-1 : Int64) <<< (p1 &&& 0x3f).toInt64)))]))
    refine own_fs (XS.lstoreN X3.here hx rfl (hb hby own_d6_28) rfl (l' := #[.val (.ref a1), .val (.int p1), .val (.int (p1 / (64 : Int32))), .val (.long ((ff ((p1 / (64 : Int32))).toNatClampNeg) &&& ((-1 : Int64) <<< (p1 &&& 0x3f).toInt64))), .second]) rfl (Steps.refl _)) ?_
    have loop : ∀ (k : Nat) (T : State) (w2 : Int32) (bits : Int64), Stand p l e ({ frames := 2, cells := 0, slots := 0, locals := 29 } : Room) s m #[(.ref a1), (.int p1)] below meth c T [] 0 0 → T.heap = h0 → z1.toNatClampNeg ≤ w2.toNatClampNeg + k → ¬ w2 < 0 → w2 < z1 → own_inv ff p1 w2 bits → own_G p.tables e below (own_P s (own_wnext_Q Z a1 p1 d1 k1 z1 ff h0 n0) ({ frames := 2, cells := 0, slots := 0, locals := 29 } : Room).cells ({ frames := 2, cells := 0, slots := 0, locals := 29 } : Room).slots) (T.setTop (mkF m 29 #[.val (.ref a1), .val (.int p1), .val (.int w2), .val (.long bits), .second] [])) := by
      intro k
      induction k with
      | zero => intro T w2 bits XL eL hk hwn hwz hI; exact absurd hk (own_notz hwn hwz hz1)
      | succ k ih =>
        intro T w2 bits XL eL hk hwn hwz hI
        have wn := own_w1 hwn hwz hz16
        show own_G p.tables e below _ (T.setTop (mkF m 29 #[.val (.ref a1), .val (.int p1), .val (.int w2), .val (.long bits), .second] []))
        refine own_fs (XS.lloadN XL.here hx rfl (hb hby own_d6_29) rfl (Steps.refl _)) ?_
        show own_G p.tables e below _ (T.setTop (mkF m 30 #[.val (.ref a1), .val (.int p1), .val (.int w2), .val (.long bits), .second] [(.long bits)]))
        refine own_fs (XS.lconst XL.here hx rfl (hb hby own_d6_30) (Steps.refl _)) ?_
        show own_G p.tables e below _ (T.setTop (mkF m 31 #[.val (.ref a1), .val (.int p1), .val (.int w2), .val (.long bits), .second] [(.long (0 : Int64)), (.long bits)]))
        refine own_fs (XT.lcmp XL.here hx rfl (hb hby own_d6_31) rfl (Steps.refl _)) ?_
        show own_G p.tables e below _ (T.setTop (mkF m 32 #[.val (.ref a1), .val (.int p1), .val (.int w2), .val (.long bits), .second] [(.int (XT.cmpL bits (0 : Int64)))]))
        by_cases hc32 : bits = (0 : Int64)
        · refine own_fs (XS.ifNo XL.here hx rfl (hb hby own_d6_32) rfl (XT.ll_ne_f hc32) (Steps.refl _)) ?_
          show own_G p.tables e below _ (T.setTop (mkF m 35 #[.val (.ref a1), .val (.int p1), .val (.int w2), .val (.long bits), .second] []))
          refine own_fs (XS.iinc XL.here hx rfl (hb hby own_d6_35) rfl (l' := #[.val (.ref a1), .val (.int p1), .val (.int (w2 + (1 : Int32))), .val (.long bits), .second]) rfl (Steps.refl _)) ?_
          show own_G p.tables e below _ (T.setTop (mkF m 38 #[.val (.ref a1), .val (.int p1), .val (.int (w2 + (1 : Int32))), .val (.long bits), .second] []))
          refine own_fs (XS.iloadN XL.here hx rfl (hb hby own_d6_38) rfl (Steps.refl _)) ?_
          show own_G p.tables e below _ (T.setTop (mkF m 39 #[.val (.ref a1), .val (.int p1), .val (.int (w2 + (1 : Int32))), .val (.long bits), .second] [(.int (w2 + (1 : Int32)))]))
          refine own_fs (XS.aloadN XL.here hx rfl (hb hby own_d6_39) rfl rfl (Steps.refl _)) ?_
          show own_G p.tables e below _ (T.setTop (mkF m 40 #[.val (.ref a1), .val (.int p1), .val (.int (w2 + (1 : Int32))), .val (.long bits), .second] [(.ref a1), (.int (w2 + (1 : Int32)))]))
          obtain ⟨T5, X5, e5, st5⟩ := getF XL hx hZ hown (host := "") (Or.inl (hw _ (List.mem_of_getElem? (i := 10) rfl))) Via.refl eL hF_words_a1 (g := (mkF m 40 #[.val (.ref a1), .val (.int p1), .val (.int (w2 + (1 : Int32))), .val (.long bits), .second] [(.ref a1), (.int (w2 + (1 : Int32)))])) rfl rfl (hb hby own_d6_40)
          refine own_fs (st5 _ (Steps.refl _)) ?_
          show own_G p.tables e below _ (T5.setTop (mkF m 43 #[.val (.ref a1), .val (.int p1), .val (.int (w2 + (1 : Int32))), .val (.long bits), .second] [(.ref d1), (.int (w2 + (1 : Int32)))]))
          obtain ⟨cl6, Ar6, -, S6, O6, -, -⟩ := (id hV_d1)
          have sl6 := X5.arraylength hx (by rw [e5]; exact Ar6.1) (State.isArrayOf_alike hZ.alike Ar6.2.1) (g := (mkF m 43 #[.val (.ref a1), .val (.int p1), .val (.int (w2 + (1 : Int32))), .val (.long bits), .second] [(.ref d1), (.int (w2 + (1 : Int32)))])) rfl rfl (hb hby own_d6_43) _ (Steps.refl _)
          rw [len_of S6 O6] at sl6
          refine own_fs sl6 ?_
          show own_G p.tables e below _ (T5.setTop (mkF m 44 #[.val (.ref a1), .val (.int p1), .val (.int (w2 + (1 : Int32))), .val (.long bits), .second] [(.int z1), (.int (w2 + (1 : Int32)))]))
          by_cases hc44 : (w2 + (1 : Int32)) = z1
          · refine own_fs (XS.icmpNo X5.here hx rfl (hb hby own_d6_44) rfl (XT.ii_ne_f hc44) (Steps.refl _)) ?_
            show own_G p.tables e below _ (T5.setTop (mkF m 47 #[.val (.ref a1), .val (.int p1), .val (.int (w2 + (1 : Int32))), .val (.long bits), .second] []))
            refine own_fs (XS.iconst X5.here hx rfl (hb hby own_d6_47) (Steps.refl _)) ?_
            show own_G p.tables e below _ (T5.setTop (mkF m 48 #[.val (.ref a1), .val (.int p1), .val (.int (w2 + (1 : Int32))), .val (.long bits), .second] [(.int (-1 : Int32))]))
            exact own_retI X5 hx Bd.returns hlk (hb hby own_d6_48) (by decide) (by decide) e5 ⟨(-1 : Int32), rfl, N0, rfl, (by subst hc32; exact own_invE hwn hwz hz16 hfz hI hc44)⟩
          · refine own_fs (XS.icmpYes X5.here hx rfl (pc0 := 44) (pc' := 49) rfl (hb hby own_d6_44) rfl (XT.ii_ne_t hc44) (by decide) (by decide) (Steps.refl _)) ?_
            show own_G p.tables e below _ (T5.setTop (mkF m 49 #[.val (.ref a1), .val (.int p1), .val (.int (w2 + (1 : Int32))), .val (.long bits), .second] []))
            refine own_fs (XS.aloadN X5.here hx rfl (hb hby own_d6_49) rfl rfl (Steps.refl _)) ?_
            show own_G p.tables e below _ (T5.setTop (mkF m 50 #[.val (.ref a1), .val (.int p1), .val (.int (w2 + (1 : Int32))), .val (.long bits), .second] [(.ref a1)]))
            obtain ⟨T7, X7, e7, st7⟩ := getF X5 hx hZ hown (host := "") (Or.inl (hw _ (List.mem_of_getElem? (i := 10) rfl))) Via.refl e5 hF_words_a1 (g := (mkF m 50 #[.val (.ref a1), .val (.int p1), .val (.int (w2 + (1 : Int32))), .val (.long bits), .second] [(.ref a1)])) rfl rfl (hb hby own_d6_50)
            refine own_fs (st7 _ (Steps.refl _)) ?_
            show own_G p.tables e below _ (T7.setTop (mkF m 53 #[.val (.ref a1), .val (.int p1), .val (.int (w2 + (1 : Int32))), .val (.long bits), .second] [(.ref d1)]))
            refine own_fs (XS.iloadN X7.here hx rfl (hb hby own_d6_53) rfl (Steps.refl _)) ?_
            show own_G p.tables e below _ (T7.setTop (mkF m 54 #[.val (.ref a1), .val (.int p1), .val (.int (w2 + (1 : Int32))), .val (.long bits), .second] [(.int (w2 + (1 : Int32))), (.ref d1)]))
            obtain ⟨cl8, Ar8, q8, S8, O8, H8, G8⟩ := (id hV_d1)
            have hin8 : ¬ ((w2 + (1 : Int32)) < 0 ∨ cl8.slots.size ≤ ((w2 + (1 : Int32))).toNatClampNeg) := inb_of S8 ⟨wn.1, wn.2.2.1 hc44⟩
            have hat8 : cl8.slots[((w2 + (1 : Int32))).toNatClampNeg]? = some (.long (ff ((w2 + (1 : Int32))).toNatClampNeg)) := Has.at H8 hin8 (own_L_get f16 _)
            show own_G p.tables e below _ (T7.setTop (mkF m 54 #[.val (.ref a1), .val (.int p1), .val (.int (w2 + (1 : Int32))), .val (.long bits), .second] [(.int (w2 + (1 : Int32))), (.ref d1)]))
            refine own_fs (X7.laload hx (j := (w2 + (1 : Int32))) (v := (.long (ff ((w2 + (1 : Int32))).toNatClampNeg))) (by rw [e7]; exact Ar8.1) (State.isArrayOf_alike hZ.alike Ar8.2.1) Ar8.2.2 hin8 hat8 (g := (mkF m 54 #[.val (.ref a1), .val (.int p1), .val (.int (w2 + (1 : Int32))), .val (.long bits), .second] [(.int (w2 + (1 : Int32))), (.ref d1)])) rfl rfl (hb hby own_d6_54) _ (Steps.refl _)) ?_
            show own_G p.tables e below _ (T7.setTop (mkF m 55 #[.val (.ref a1), .val (.int p1), .val (.int (w2 + (1 : Int32))), .val (.long bits), .second] [(.long (ff ((w2 + (1 : Int32))).toNatClampNeg))]))
            refine own_fs (XS.lstoreN X7.here hx rfl (hb hby own_d6_55) rfl (l' := #[.val (.ref a1), .val (.int p1), .val (.int (w2 + (1 : Int32))), .val (.long (ff ((w2 + (1 : Int32))).toNatClampNeg)), .second]) rfl (Steps.refl _)) ?_
            show own_G p.tables e below _ (T7.setTop (mkF m 56 #[.val (.ref a1), .val (.int p1), .val (.int (w2 + (1 : Int32))), .val (.long (ff ((w2 + (1 : Int32))).toNatClampNeg)), .second] []))
            refine own_fs (XS.goto X7.here hx rfl (pc0 := 56) (pc' := 29) rfl (hb hby own_d6_56) (by decide) (by decide) (Steps.refl _)) ?_
            exact ih T7 ((w2 + (1 : Int32))) (ff ((w2 + (1 : Int32))).toNatClampNeg) X7 e7 (by rw [wn.2.1]; omega) wn.1 (wn.2.2.1 hc44) (by subst hc32; exact own_invS hwn hwz hz16 hI)
        · refine own_fs (XS.ifYes XL.here hx rfl (pc0 := 32) (pc' := 59) rfl (hb hby own_d6_32) rfl (XT.ll_ne_t hc32) (by decide) (by decide) (Steps.refl _)) ?_
          show own_G p.tables e below _ (T.setTop (mkF m 59 #[.val (.ref a1), .val (.int p1), .val (.int w2), .val (.long bits), .second] []))
          refine own_fs (XS.iloadN XL.here hx rfl (hb hby own_d6_59) rfl (Steps.refl _)) ?_
          show own_G p.tables e below _ (T.setTop (mkF m 60 #[.val (.ref a1), .val (.int p1), .val (.int w2), .val (.long bits), .second] [(.int w2)]))
          refine own_fs (XS.bipush XL.here hx rfl (hb hby own_d6_60) (Steps.refl _)) ?_
          show own_G p.tables e below _ (T.setTop (mkF m 62 #[.val (.ref a1), .val (.int p1), .val (.int w2), .val (.long bits), .second] [(.int (64 : Int32)), (.int w2)]))
          refine own_fs (XS.imul XL.here hx rfl (hb hby own_d6_62) rfl (Steps.refl _)) ?_
          show own_G p.tables e below _ (T.setTop (mkF m 63 #[.val (.ref a1), .val (.int p1), .val (.int w2), .val (.long bits), .second] [(.int (w2 * (64 : Int32)))]))
          refine own_fs (XS.lloadN XL.here hx rfl (hb hby own_d6_63) rfl (Steps.refl _)) ?_
          show own_G p.tables e below _ (T.setTop (mkF m 64 #[.val (.ref a1), .val (.int p1), .val (.int w2), .val (.long bits), .second] [(.long bits), (.int (w2 * (64 : Int32)))]))
          have Zs11 : n0 ≤ h0.size := Z0
          obtain ⟨_, _, ⟨T10, L10, k10, n10⟩, -, X10, ⟨Lc10, hQ10, l10, y10, z10⟩, st10⟩ := Jvm.LawKit.callS XL hx (y := (⟨"java/lang/Long", "numberOfTrailingZeros", "(J)I"⟩ : MethodName)) hown (mvT hZ (hw _ (List.mem_of_getElem? (i := 34) rfl))) (mvT hZ (hw _ (List.mem_of_getElem? (i := 35) rfl))) (mvT hZ (hw _ (List.mem_of_getElem? (i := 36) rfl))) (mvT hZ (hw _ (List.mem_of_getElem? (i := 37) rfl))) (by decide) (backOf (W := 1) (own_rntzL l Z a0 hw [] bits h0 n0 Zs11 ) hZ (hw _ (List.mem_of_getElem? (i := 37) rfl)) (hw _ (List.mem_of_getElem? (i := 36) rfl)) (by decide) (by decide)) (g := (mkF m 64 #[.val (.ref a1), .val (.int p1), .val (.int w2), .val (.long bits), .second] [(.long bits), (.int (w2 * (64 : Int32)))])) rfl (by rw [hml]; rfl) (argsL := [(.long bits)]) (rest := [(.int (w2 * (64 : Int32)))]) (lenOf own_pd3 rfl) rfl (by show 2 * 0 + _ ≤ _; exact Nat.le_of_eq rfl) (hb hby own_d6_64) (fun _ _ => ⟨rfl, eL, (by decide : 0 + 0 ≤ _), (by decide : 0 + 0 ≤ _)⟩)
          dsimp only [Pt.U, Pt.locs, Pt.cells, Pt.slots] at X10 l10 y10 z10 st10 hQ10
          subst l10 y10 z10
          obtain ⟨rfl, Nq10, e10⟩ := hQ10
          have N10 := Fr.app N0 Nq10
          refine own_fs (st10 _ (Steps.refl _)) ?_
          show own_G p.tables e below _ (T10.setTop (mkF m 67 #[.val (.ref a1), .val (.int p1), .val (.int w2), .val (.long bits), .second] [(.int (own_ntzL bits)), (.int (w2 * (64 : Int32)))]))
          refine own_fs (XS.iadd X10.here hx rfl (hb hby own_d6_67) rfl (Steps.refl _)) ?_
          show own_G p.tables e below _ (T10.setTop (mkF m 68 #[.val (.ref a1), .val (.int p1), .val (.int w2), .val (.long bits), .second] [(.int ((w2 * (64 : Int32)) + (own_ntzL bits)))]))
          exact own_retI X10 hx Bd.returns hlk (hb hby own_d6_68) (by decide) (by decide) e10 ⟨((w2 * (64 : Int32)) + (own_ntzL bits)), rfl, N10, rfl, (own_invH hwn hwz hz16 hI hc32)⟩
    exact loop z1.toNatClampNeg T3 (p1 / (64 : Int32)) ((ff ((p1 / (64 : Int32))).toNatClampNeg) &&& ((-1 : Int64) <<< (p1 &&& 0x3f).toInt64)) X3 e3 (Nat.le_add_left _ _) li.1 li.2.1 (own_inv0 ff p1 hp)
  · refine own_fs (XS.icmpNo X1.here hx rfl (hb hby own_d6_11) rfl (XT.ii_lt_f hc11) (Steps.refl _)) ?_
    show own_G p.tables e below _ (T1.setTop (mkF m 14 #[.val (.ref a1), .val (.int p1), .val (.int (p1 / (64 : Int32))), .unset, .unset] []))
    refine own_fs (XS.iconst X1.here hx rfl (hb hby own_d6_14) (Steps.refl _)) ?_
    show own_G p.tables e below _ (T1.setTop (mkF m 15 #[.val (.ref a1), .val (.int p1), .val (.int (p1 / (64 : Int32))), .unset, .unset] [(.int (-1 : Int32))]))
    exact own_retI X1 hx Bd.returns hlk (hb hby own_d6_15) (by decide) (by decide) e1 ⟨(-1 : Int32), rfl, N0, rfl, (own_invO hp hz1 hfz hc11)⟩
theorem own_law_ef (m : MethodId) (x0 : Int32) (x1 : Int32) (x2 : Int32) : entryFrame m #[(.int x0), (.int x1), (.int x2)] maxLocals = mkF m 0 #[.val (.int x0), .val (.int x1), .val (.int x2), .unset, .unset, .unset, .unset, .unset, .unset, .unset, .unset, .unset, .unset, .unset] [] := by first | (simp [entryFrame, mkF, argsToLocals, Value.category, maxLocals]; done) | rfl
def own_law_Q (Z : State) (x0 : Int32) (y0 : Int32) (s0 : Int32) (h0 : Heap) (n0 : Nat) (v : Option Value) (h : Heap) (L : List Loc) : Prop := (v = some (.int (1 : Int32)) ∧ Fr n0 L)
set_option maxRecDepth 65536 in
set_option maxHeartbeats 40000000 in
theorem own_law (l : Launch) (Z : State) (a0 : Array Value) (hw : ∀ d ∈ tables_1, d.before a0 Z = true) (ws : List Jvm.Cond) (x0 : Int32) (y0 : Int32) (s0 : Int32) (h0 : Heap) (n0 : Nat) (Z0 : n0 ≤ h0.size)  :
    MetFree l x (head1 (Jvm.Cond.code x code maxLocals ret :: ws) room_1) (fun a U => a = #[(.int x0), (.int y0), (.int s0)] ∧ Z.Warmed39 U.vm ∧ U.heap = h0) (fun _ _ _ _ _ => True) (fun _ U o U' => ∃ v L, o = .returned v ∧ own_law_Q Z x0 y0 s0 h0 n0 v U'.heap L ∧ FrameEnd U o U' L room_1.cells room_1.slots) := by
  refine MetFree.of_bodySF (plainFor_of_name own_pn2) hisR ?_
  intro p e s m args below meth c s₁ Bd hml0 hP hK
  obtain ⟨rfl, hZ, hh⟩ := hP
  have hx := Bd.exec
  have hby := Bd.bytes
  have hlk : meth.locks = false := BodyLoose.notSynchronized Bd
  have hml : c.maxLocals = 14 := hml0
  have hown : s.vm.findClass "com/example/diligent_tableau/diligenttableau/tableau/WorklistRemovePinLaw" = some m.cls := findClass_of_methodNamed Bd.named
  have hnm := (name_of_methodNamed Bd.named Bd.method).1
  have X0 : Stand p l e room_1 s m #[(.int x0), (.int y0), (.int s0)] below meth c s₁ [] 0 0 := Stand.of_body Bd
  have e0 : s₁.heap = h0 := by rw [← hh, Bd.state]; rfl
  have N0 := Fr.nil n0
  refine own_start (QQ := own_law_Q Z x0 y0 s0 h0 n0) (rc := room_1.cells) (rs := room_1.slots) (own_law_ef m x0 y0 s0 ) ?_
  show own_G p.tables e below _ (s₁.setTop (mkF m 0 #[.val (.int x0), .val (.int y0), .val (.int s0), .unset, .unset, .unset, .unset, .unset, .unset, .unset, .unset, .unset, .unset, .unset] []))
  refine own_fs (XS.iloadN X0.here hx rfl (hb hby at_0) rfl (Steps.refl _)) ?_
  show own_G p.tables e below _ (s₁.setTop (mkF m 1 #[.val (.int x0), .val (.int y0), .val (.int s0), .unset, .unset, .unset, .unset, .unset, .unset, .unset, .unset, .unset, .unset, .unset] [(.int x0)]))
  refine own_fs (XS.sipush X0.here hx rfl (hb hby at_1) (Steps.refl _)) ?_
  show own_G p.tables e below _ (s₁.setTop (mkF m 4 #[.val (.int x0), .val (.int y0), .val (.int s0), .unset, .unset, .unset, .unset, .unset, .unset, .unset, .unset, .unset, .unset, .unset] [(.int (511 : Int32)), (.int x0)]))
  refine own_fs (XS.iand X0.here hx rfl (hb hby at_4) rfl (Steps.refl _)) ?_
  show own_G p.tables e below _ (s₁.setTop (mkF m 5 #[.val (.int x0), .val (.int y0), .val (.int s0), .unset, .unset, .unset, .unset, .unset, .unset, .unset, .unset, .unset, .unset, .unset] [(.int (x0 &&& (511 : Int32)))]))
  refine own_fs (XS.istoreN X0.here hx rfl (hb hby at_5) rfl (l' := #[.val (.int x0), .val (.int y0), .val (.int s0), .val (.int (x0 &&& (511 : Int32))), .unset, .unset, .unset, .unset, .unset, .unset, .unset, .unset, .unset, .unset]) rfl (Steps.refl _)) ?_
  show own_G p.tables e below _ (s₁.setTop (mkF m 6 #[.val (.int x0), .val (.int y0), .val (.int s0), .val (.int (x0 &&& (511 : Int32))), .unset, .unset, .unset, .unset, .unset, .unset, .unset, .unset, .unset, .unset] []))
  refine own_fs (XS.iloadN X0.here hx rfl (hb hby at_6) rfl (Steps.refl _)) ?_
  show own_G p.tables e below _ (s₁.setTop (mkF m 7 #[.val (.int x0), .val (.int y0), .val (.int s0), .val (.int (x0 &&& (511 : Int32))), .unset, .unset, .unset, .unset, .unset, .unset, .unset, .unset, .unset, .unset] [(.int y0)]))
  refine own_fs (XS.sipush X0.here hx rfl (hb hby at_7) (Steps.refl _)) ?_
  show own_G p.tables e below _ (s₁.setTop (mkF m 10 #[.val (.int x0), .val (.int y0), .val (.int s0), .val (.int (x0 &&& (511 : Int32))), .unset, .unset, .unset, .unset, .unset, .unset, .unset, .unset, .unset, .unset] [(.int (511 : Int32)), (.int y0)]))
  refine own_fs (XS.iand X0.here hx rfl (hb hby at_10) rfl (Steps.refl _)) ?_
  show own_G p.tables e below _ (s₁.setTop (mkF m 11 #[.val (.int x0), .val (.int y0), .val (.int s0), .val (.int (x0 &&& (511 : Int32))), .unset, .unset, .unset, .unset, .unset, .unset, .unset, .unset, .unset, .unset] [(.int (y0 &&& (511 : Int32)))]))
  refine own_fs (XS.istore X0.here hx rfl (hb hby at_11) rfl (l' := #[.val (.int x0), .val (.int y0), .val (.int s0), .val (.int (x0 &&& (511 : Int32))), .val (.int (y0 &&& (511 : Int32))), .unset, .unset, .unset, .unset, .unset, .unset, .unset, .unset, .unset]) rfl (Steps.refl _)) ?_
  show own_G p.tables e below _ (s₁.setTop (mkF m 13 #[.val (.int x0), .val (.int y0), .val (.int s0), .val (.int (x0 &&& (511 : Int32))), .val (.int (y0 &&& (511 : Int32))), .unset, .unset, .unset, .unset, .unset, .unset, .unset, .unset, .unset] []))
  refine own_fs (XS.iloadN X0.here hx rfl (hb hby at_13) rfl (Steps.refl _)) ?_
  show own_G p.tables e below _ (s₁.setTop (mkF m 14 #[.val (.int x0), .val (.int y0), .val (.int s0), .val (.int (x0 &&& (511 : Int32))), .val (.int (y0 &&& (511 : Int32))), .unset, .unset, .unset, .unset, .unset, .unset, .unset, .unset, .unset] [(.int s0)]))
  refine own_fs (XS.iconst X0.here hx rfl (hb hby at_14) (Steps.refl _)) ?_
  show own_G p.tables e below _ (s₁.setTop (mkF m 15 #[.val (.int x0), .val (.int y0), .val (.int s0), .val (.int (x0 &&& (511 : Int32))), .val (.int (y0 &&& (511 : Int32))), .unset, .unset, .unset, .unset, .unset, .unset, .unset, .unset, .unset] [(.int (3 : Int32)), (.int s0)]))
  refine own_fs (XS.iand X0.here hx rfl (hb hby at_15) rfl (Steps.refl _)) ?_
  show own_G p.tables e below _ (s₁.setTop (mkF m 16 #[.val (.int x0), .val (.int y0), .val (.int s0), .val (.int (x0 &&& (511 : Int32))), .val (.int (y0 &&& (511 : Int32))), .unset, .unset, .unset, .unset, .unset, .unset, .unset, .unset, .unset] [(.int (s0 &&& (3 : Int32)))]))
  refine own_fs (XS.istore X0.here hx rfl (hb hby at_16) rfl (l' := #[.val (.int x0), .val (.int y0), .val (.int s0), .val (.int (x0 &&& (511 : Int32))), .val (.int (y0 &&& (511 : Int32))), .val (.int (s0 &&& (3 : Int32))), .unset, .unset, .unset, .unset, .unset, .unset, .unset, .unset]) rfl (Steps.refl _)) ?_
  have hA := own_511 x0
  have hB := own_511 y0
  show own_G p.tables e below _ (s₁.setTop (mkF m 18 #[.val (.int x0), .val (.int y0), .val (.int s0), .val (.int (x0 &&& (511 : Int32))), .val (.int (y0 &&& (511 : Int32))), .val (.int (s0 &&& (3 : Int32))), .unset, .unset, .unset, .unset, .unset, .unset, .unset, .unset] []))
  generalize hg_pa : (x0 &&& (511 : Int32)) = pa at hA ⊢
  show own_G p.tables e below _ (s₁.setTop (mkF m 18 #[.val (.int x0), .val (.int y0), .val (.int s0), .val (.int pa), .val (.int (y0 &&& (511 : Int32))), .val (.int (s0 &&& (3 : Int32))), .unset, .unset, .unset, .unset, .unset, .unset, .unset, .unset] []))
  generalize hg_pb : (y0 &&& (511 : Int32)) = pb at hB ⊢
  show own_G p.tables e below _ (s₁.setTop (mkF m 18 #[.val (.int x0), .val (.int y0), .val (.int s0), .val (.int pa), .val (.int pb), .val (.int (s0 &&& (3 : Int32))), .unset, .unset, .unset, .unset, .unset, .unset, .unset, .unset] []))
  generalize hg_sl : (s0 &&& (3 : Int32)) = sl
  have J65 : ∀ (rr : Int32) (hr : ¬ rr < 0), own_G p.tables e below (own_P s (own_law_Q Z x0 y0 s0 h0 n0) room_1.cells room_1.slots) (s₁.setTop (mkF m 65 #[.val (.int x0), .val (.int y0), .val (.int s0), .val (.int pa), .val (.int pb), .val (.int sl), .val (.int rr), .unset, .unset, .unset, .unset, .unset, .unset, .unset] [])) := by
    intro rr hr
    show own_G p.tables e below _ (s₁.setTop (mkF m 65 #[.val (.int x0), .val (.int y0), .val (.int s0), .val (.int pa), .val (.int pb), .val (.int sl), .val (.int rr), .unset, .unset, .unset, .unset, .unset, .unset, .unset] []))
    obtain ⟨T1, h1, X1, e1, E1, A1, D1, -, st1⟩ := newO X0 hx hZ hown (hw _ (List.mem_of_getElem? (i := 0) rfl)) (hw _ (List.mem_of_getElem? (i := 1) rfl)) (hw _ (List.mem_of_getElem? (i := 2) rfl)) e0 (g := (mkF m 65 #[.val (.int x0), .val (.int y0), .val (.int s0), .val (.int pa), .val (.int pb), .val (.int sl), .val (.int rr), .unset, .unset, .unset, .unset, .unset, .unset, .unset] [])) rfl (hb hby at_65) (by decide) (by decide)
    obtain ⟨b1, g1⟩ : ∃ z, z = h0.size := ⟨_, rfl⟩
    rw [← g1] at A1 D1 st1
    have ge_b1 : n0 ≤ b1 := Nat.le_trans Z0 (Nat.le_of_eq g1.symm)
    have gz_b1 : h0.size ≤ b1 := Nat.le_trans (Nat.le_refl _) (Nat.le_of_eq g1.symm)
    have F_words_b1 : Fld Z h1 b1 "com/example/diligent_tableau/diligenttableau/tableau/Worklist" "words" "[J" .null := D1 (Or.inl (hw _ (List.mem_of_getElem? (i := 11) rfl))) (ty := (.array .long)) (by decide)
    have F_lowest_b1 : Fld Z h1 b1 "com/example/diligent_tableau/diligenttableau/tableau/Worklist" "lowest" "I" (.int (0 : Int32)) := D1 (Or.inl (hw _ (List.mem_of_getElem? (i := 18) rfl))) (ty := .int) (by decide)
    refine own_fs (st1 _ (Steps.refl _)) ?_
    show own_G p.tables e below _ (T1.setTop (mkF m 68 #[.val (.int x0), .val (.int y0), .val (.int s0), .val (.int pa), .val (.int pb), .val (.int sl), .val (.int rr), .unset, .unset, .unset, .unset, .unset, .unset, .unset] [(.ref b1)]))
    refine own_fs (XS.dup X1.here hx rfl (hb hby at_68) rfl rfl (Steps.refl _)) ?_
    show own_G p.tables e below _ (T1.setTop (mkF m 69 #[.val (.int x0), .val (.int y0), .val (.int s0), .val (.int pa), .val (.int pb), .val (.int sl), .val (.int rr), .unset, .unset, .unset, .unset, .unset, .unset, .unset] [(.ref b1), (.ref b1)]))
    have Zs4 : n0 ≤ h1.size := (Nat.le_trans Z0 E1.1)
    obtain ⟨_, _, ⟨T3, L3, k3, n3⟩, -, X3, ⟨Lc3, hQ3, l3, y3, z3⟩, st3⟩ := X1.specialBack hx (y := (⟨"com/example/diligent_tableau/diligenttableau/tableau/Worklist", "<init>", "()V"⟩ : MethodName)) rfl hown (mvT hZ (hw _ (List.mem_of_getElem? (i := 3) rfl))) (mvT hZ (hw _ (List.mem_of_getElem? (i := 4) rfl))) (mvT hZ (hw _ (List.mem_of_getElem? (i := 5) rfl))) (by decide) (backOf (W := 1) (own_winit l Z a0 hw [] b1 (.null) (0 : Int32) h1 n0 Zs4 A1 F_words_b1 F_lowest_b1 ge_b1) hZ (hw _ (List.mem_of_getElem? (i := 5) rfl)) (hw _ (List.mem_of_getElem? (i := 2) rfl)) (by decide) (by decide)) (g := (mkF m 69 #[.val (.int x0), .val (.int y0), .val (.int s0), .val (.int pa), .val (.int pb), .val (.int sl), .val (.int rr), .unset, .unset, .unset, .unset, .unset, .unset, .unset] [(.ref b1), (.ref b1)])) rfl (by rw [hml]; rfl) (Steps.refl _) (a := b1) (argsL := []) (rest := [(.ref b1)]) (lenOf own_pd4 rfl) rfl (by show 2 * 0 + _ ≤ _; exact Nat.le_of_eq rfl) (hb hby at_69) (fun _ _ => ⟨rfl, e1, (by decide : 1 + 1 ≤ _), (by decide : 2 + 1 ≤ _)⟩)
    dsimp only [Pt.U, Pt.locs, Pt.cells, Pt.slots] at X3 l3 y3 z3 st3 hQ3
    subst l3 y3 z3
    obtain ⟨h3, e3⟩ : ∃ h, T3.heap = h := ⟨_, rfl⟩
    rw [e3] at hQ3
    obtain ⟨dd0, kk0, rfl, Nq3, K3, P2_0, P2_1, P2_2, P2_3⟩ := hQ3
    have N3 := Fr.app N0 Nq3
    have ge_dd0 : n0 ≤ dd0 := Nat.le_trans (Nat.le_trans Z0 E1.1) P2_2
    have gz_dd0 : h0.size ≤ dd0 := Nat.le_trans (Nat.le_trans (Nat.le_refl _) E1.1) P2_2
    refine own_fs st3 ?_
    show own_G p.tables e below _ (T3.setTop (mkF m 72 #[.val (.int x0), .val (.int y0), .val (.int s0), .val (.int pa), .val (.int pb), .val (.int sl), .val (.int rr), .unset, .unset, .unset, .unset, .unset, .unset, .unset] [(.ref b1)]))
    refine own_fs (XS.astore X3.here hx rfl (hb hby at_72) rfl rfl (l' := #[.val (.int x0), .val (.int y0), .val (.int s0), .val (.int pa), .val (.int pb), .val (.int sl), .val (.int rr), .val (.ref b1), .unset, .unset, .unset, .unset, .unset, .unset]) rfl (Steps.refl _)) ?_
    show own_G p.tables e below _ (T3.setTop (mkF m 74 #[.val (.int x0), .val (.int y0), .val (.int s0), .val (.int pa), .val (.int pb), .val (.int sl), .val (.int rr), .val (.ref b1), .unset, .unset, .unset, .unset, .unset, .unset] []))
    refine own_fs (XS.aload X3.here hx rfl (hb hby at_74) rfl rfl (Steps.refl _)) ?_
    show own_G p.tables e below _ (T3.setTop (mkF m 76 #[.val (.int x0), .val (.int y0), .val (.int s0), .val (.int pa), .val (.int pb), .val (.int sl), .val (.int rr), .val (.ref b1), .unset, .unset, .unset, .unset, .unset, .unset] [(.ref b1)]))
    refine own_fs (XS.iloadN X3.here hx rfl (hb hby at_76) rfl (Steps.refl _)) ?_
    show own_G p.tables e below _ (T3.setTop (mkF m 77 #[.val (.int x0), .val (.int y0), .val (.int s0), .val (.int pa), .val (.int pb), .val (.int sl), .val (.int rr), .val (.ref b1), .unset, .unset, .unset, .unset, .unset, .unset] [(.int pa), (.ref b1)]))
    have Zs7 : n0 ≤ h3.size := (Nat.le_trans (Nat.le_trans Z0 E1.1) K3.1)
    obtain ⟨cq6, kq6, q6a, q6b, q6c⟩ := isOf hZ e3 (A1.keep K3)
    obtain ⟨_, _, ⟨T6, L6, k6, n6⟩, -, X6, ⟨Lc6, hQ6, l6, y6, z6⟩, st6⟩ := X3.virtualBack hx (y := (⟨"com/example/diligent_tableau/diligenttableau/tableau/Worklist", "add", "(I)V"⟩ : MethodName)) (z := (⟨"com/example/diligent_tableau/diligenttableau/tableau/Worklist", "add", "(I)V"⟩ : MethodName)) hown (mvT hZ (hw _ (List.mem_of_getElem? (i := 12) rfl))) (mvT hZ (hw _ (List.mem_of_getElem? (i := 13) rfl))) (notFace_of_selects (args := #[]) (mvT hZ (hw _ (List.mem_of_getElem? (i := 15) rfl)))) (mvT hZ (hw _ (List.mem_of_getElem? (i := 15) rfl))) (mvT hZ (hw _ (List.mem_of_getElem? (i := 14) rfl))) (by decide) (backOf (W := 0) (own_wadd l Z a0 hw [] b1 pa (0 : Int32) dd0 kk0 (1 : Int32) own_z h3 n0 Zs7 (A1.keep K3) P2_0 P2_1 ge_b1 ge_dd0 (Nat.ne_of_lt (Nat.lt_of_lt_of_le (Exa.lt A1) P2_2)) P2_3 (fun _ _ => rfl) (by decide) (by decide) (by decide) (by decide) hA.1 hA.2) hZ (hw _ (List.mem_of_getElem? (i := 16) rfl)) (hw _ (List.mem_of_getElem? (i := 2) rfl)) (by decide) (by decide)) q6a q6c (g := (mkF m 77 #[.val (.int x0), .val (.int y0), .val (.int s0), .val (.int pa), .val (.int pb), .val (.int sl), .val (.int rr), .val (.ref b1), .unset, .unset, .unset, .unset, .unset, .unset] [(.int pa), (.ref b1)])) rfl (by rw [hml]; rfl) (Steps.refl _) (argsL := [(.int pa)]) (rest := []) (lenOf own_pd5 rfl) rfl (by show 2 * 0 + _ ≤ _; exact Nat.le_of_eq rfl) (hb hby at_77) (fun _ _ => ⟨rfl, e3, (by decide : 2 + 1 ≤ _), (by decide : 3 + 16 ≤ _)⟩)
    dsimp only [Pt.U, Pt.locs, Pt.cells, Pt.slots] at X6 l6 y6 z6 st6 hQ6
    subst l6 y6 z6
    obtain ⟨h6, e6⟩ : ∃ h, T6.heap = h := ⟨_, rfl⟩
    rw [e6] at hQ6
    obtain ⟨dd1, kk1, zz1, uu1, rfl, Nq6, K6, P5_0, P5_1, P5_2, P5_3, P5_4, P5_5, P5_6⟩ := hQ6
    have N6 := Fr.app N3 Nq6
    refine own_fs st6 ?_
    have ge_dd1 := P5_3
    have zk1 := P5_5
    show own_G p.tables e below _ (T6.setTop (mkF m 80 #[.val (.int x0), .val (.int y0), .val (.int s0), .val (.int pa), .val (.int pb), .val (.int sl), .val (.int rr), .val (.ref b1), .unset, .unset, .unset, .unset, .unset, .unset] []))
    refine own_fs (XS.aload X6.here hx rfl (hb hby at_80) rfl rfl (Steps.refl _)) ?_
    show own_G p.tables e below _ (T6.setTop (mkF m 82 #[.val (.int x0), .val (.int y0), .val (.int s0), .val (.int pa), .val (.int pb), .val (.int sl), .val (.int rr), .val (.ref b1), .unset, .unset, .unset, .unset, .unset, .unset] [(.ref b1)]))
    refine own_fs (XS.iload X6.here hx rfl (hb hby at_82) rfl (Steps.refl _)) ?_
    show own_G p.tables e below _ (T6.setTop (mkF m 84 #[.val (.int x0), .val (.int y0), .val (.int s0), .val (.int pa), .val (.int pb), .val (.int sl), .val (.int rr), .val (.ref b1), .unset, .unset, .unset, .unset, .unset, .unset] [(.int pb), (.ref b1)]))
    have Zs10 : n0 ≤ h6.size := (Nat.le_trans (Nat.le_trans (Nat.le_trans Z0 E1.1) K3.1) K6.1)
    obtain ⟨cq9, kq9, q9a, q9b, q9c⟩ := isOf hZ e6 ((A1.keep K3).keep K6)
    obtain ⟨_, _, ⟨T9, L9, k9, n9⟩, -, X9, ⟨Lc9, hQ9, l9, y9, z9⟩, st9⟩ := X6.virtualBack hx (y := (⟨"com/example/diligent_tableau/diligenttableau/tableau/Worklist", "add", "(I)V"⟩ : MethodName)) (z := (⟨"com/example/diligent_tableau/diligenttableau/tableau/Worklist", "add", "(I)V"⟩ : MethodName)) hown (mvT hZ (hw _ (List.mem_of_getElem? (i := 12) rfl))) (mvT hZ (hw _ (List.mem_of_getElem? (i := 13) rfl))) (notFace_of_selects (args := #[]) (mvT hZ (hw _ (List.mem_of_getElem? (i := 15) rfl)))) (mvT hZ (hw _ (List.mem_of_getElem? (i := 15) rfl))) (mvT hZ (hw _ (List.mem_of_getElem? (i := 14) rfl))) (by decide) (backOf (W := 0) (own_wadd l Z a0 hw [] b1 pb uu1 dd1 kk1 zz1 (own_add own_z pa) h6 n0 Zs10 ((A1.keep K3).keep K6) P5_0 P5_1 ge_b1 ge_dd1 P5_4 P5_2 zk1.1 zk1.2.1 zk1.2.2.1 (zk1.2.2.2.1 (by decide)) zk1.2.2.2.2 hB.1 hB.2) hZ (hw _ (List.mem_of_getElem? (i := 16) rfl)) (hw _ (List.mem_of_getElem? (i := 2) rfl)) (by decide) (by decide)) q9a q9c (g := (mkF m 84 #[.val (.int x0), .val (.int y0), .val (.int s0), .val (.int pa), .val (.int pb), .val (.int sl), .val (.int rr), .val (.ref b1), .unset, .unset, .unset, .unset, .unset, .unset] [(.int pb), (.ref b1)])) rfl (by rw [hml]; rfl) (Steps.refl _) (argsL := [(.int pb)]) (rest := []) (lenOf own_pd5 rfl) rfl (by show 2 * 0 + _ ≤ _; exact Nat.le_of_eq rfl) (hb hby at_84) (fun _ _ => ⟨rfl, e6, (by decide : 3 + 1 ≤ _), (by decide : 19 + 16 ≤ _)⟩)
    dsimp only [Pt.U, Pt.locs, Pt.cells, Pt.slots] at X9 l9 y9 z9 st9 hQ9
    subst l9 y9 z9
    obtain ⟨h9, e9⟩ : ∃ h, T9.heap = h := ⟨_, rfl⟩
    rw [e9] at hQ9
    obtain ⟨dd2, kk2, zz2, uu2, rfl, Nq9, K9, P8_0, P8_1, P8_2, P8_3, P8_4, P8_5, P8_6⟩ := hQ9
    have N9 := Fr.app N6 Nq9
    refine own_fs st9 ?_
    have ge_dd2 := P8_3
    have zk2 := P8_5
    show own_G p.tables e below _ (T9.setTop (mkF m 87 #[.val (.int x0), .val (.int y0), .val (.int s0), .val (.int pa), .val (.int pb), .val (.int sl), .val (.int rr), .val (.ref b1), .unset, .unset, .unset, .unset, .unset, .unset] []))
    refine own_fs (XS.aload X9.here hx rfl (hb hby at_87) rfl rfl (Steps.refl _)) ?_
    show own_G p.tables e below _ (T9.setTop (mkF m 89 #[.val (.int x0), .val (.int y0), .val (.int s0), .val (.int pa), .val (.int pb), .val (.int sl), .val (.int rr), .val (.ref b1), .unset, .unset, .unset, .unset, .unset, .unset] [(.ref b1)]))
    refine own_fs (XS.iload X9.here hx rfl (hb hby at_89) rfl (Steps.refl _)) ?_
    show own_G p.tables e below _ (T9.setTop (mkF m 91 #[.val (.int x0), .val (.int y0), .val (.int s0), .val (.int pa), .val (.int pb), .val (.int sl), .val (.int rr), .val (.ref b1), .unset, .unset, .unset, .unset, .unset, .unset] [(.int rr), (.ref b1)]))
    have Zs13 : n0 ≤ h9.size := (Nat.le_trans (Nat.le_trans (Nat.le_trans (Nat.le_trans Z0 E1.1) K3.1) K6.1) K9.1)
    obtain ⟨cq12, kq12, q12a, q12b, q12c⟩ := isOf hZ e9 (((A1.keep K3).keep K6).keep K9)
    obtain ⟨_, _, ⟨T12, L12, k12, n12⟩, -, X12, ⟨Lc12, hQ12, l12, y12, z12⟩, st12⟩ := X9.virtualBack hx (y := (⟨"com/example/diligent_tableau/diligenttableau/tableau/Worklist", "remove", "(I)V"⟩ : MethodName)) (z := (⟨"com/example/diligent_tableau/diligenttableau/tableau/Worklist", "remove", "(I)V"⟩ : MethodName)) hown (mvT hZ (hw _ (List.mem_of_getElem? (i := 23) rfl))) (mvT hZ (hw _ (List.mem_of_getElem? (i := 24) rfl))) (notFace_of_selects (args := #[]) (mvT hZ (hw _ (List.mem_of_getElem? (i := 26) rfl)))) (mvT hZ (hw _ (List.mem_of_getElem? (i := 26) rfl))) (mvT hZ (hw _ (List.mem_of_getElem? (i := 25) rfl))) (by decide) (backOf (W := 0) (own_wrem l Z a0 hw [] b1 rr dd2 kk2 zz2 (own_add (own_add own_z pa) pb) h9 n0 Zs13 P8_0 ge_dd2 P8_4 P8_2 zk2.1 zk2.2.1 zk2.2.2.1 hr) hZ (hw _ (List.mem_of_getElem? (i := 27) rfl)) (hw _ (List.mem_of_getElem? (i := 2) rfl)) (by decide) (by decide)) q12a q12c (g := (mkF m 91 #[.val (.int x0), .val (.int y0), .val (.int s0), .val (.int pa), .val (.int pb), .val (.int sl), .val (.int rr), .val (.ref b1), .unset, .unset, .unset, .unset, .unset, .unset] [(.int rr), (.ref b1)])) rfl (by rw [hml]; rfl) (Steps.refl _) (argsL := [(.int rr)]) (rest := []) (lenOf own_pd5 rfl) rfl (by show 2 * 0 + _ ≤ _; exact Nat.le_of_eq rfl) (hb hby at_91) (fun _ _ => ⟨rfl, e9, (by decide : 4 + 0 ≤ _), (by decide : 35 + 0 ≤ _)⟩)
    dsimp only [Pt.U, Pt.locs, Pt.cells, Pt.slots] at X12 l12 y12 z12 st12 hQ12
    subst l12 y12 z12
    obtain ⟨h12, e12⟩ : ∃ h, T12.heap = h := ⟨_, rfl⟩
    rw [e12] at hQ12
    obtain ⟨rfl, Nq12, K12, P11_0⟩ := hQ12
    have N12 := Fr.app N9 Nq12
    refine own_fs st12 ?_
    show own_G p.tables e below _ (T12.setTop (mkF m 94 #[.val (.int x0), .val (.int y0), .val (.int s0), .val (.int pa), .val (.int pb), .val (.int sl), .val (.int rr), .val (.ref b1), .unset, .unset, .unset, .unset, .unset, .unset] []))
    refine own_fs (XS.iloadN X12.here hx rfl (hb hby at_94) rfl (Steps.refl _)) ?_
    show own_G p.tables e below _ (T12.setTop (mkF m 95 #[.val (.int x0), .val (.int y0), .val (.int s0), .val (.int pa), .val (.int pb), .val (.int sl), .val (.int rr), .val (.ref b1), .unset, .unset, .unset, .unset, .unset, .unset] [(.int pa)]))
    refine own_fs (XS.iload X12.here hx rfl (hb hby at_95) rfl (Steps.refl _)) ?_
    show own_G p.tables e below _ (T12.setTop (mkF m 97 #[.val (.int x0), .val (.int y0), .val (.int s0), .val (.int pa), .val (.int pb), .val (.int sl), .val (.int rr), .val (.ref b1), .unset, .unset, .unset, .unset, .unset, .unset] [(.int rr), (.int pa)]))
    by_cases hc97 : pa = rr
    · refine own_fs (XS.icmpYes X12.here hx rfl (pc0 := 97) (pc' := 104) rfl (hb hby at_97) rfl (XT.ii_eq_t hc97) (by decide) (by decide) (Steps.refl _)) ?_
      show own_G p.tables e below _ (T12.setTop (mkF m 104 #[.val (.int x0), .val (.int y0), .val (.int s0), .val (.int pa), .val (.int pb), .val (.int sl), .val (.int rr), .val (.ref b1), .unset, .unset, .unset, .unset, .unset, .unset] []))
      refine own_fs (XS.iconst X12.here hx rfl (hb hby at_104) (Steps.refl _)) ?_
      show own_G p.tables e below _ (T12.setTop (mkF m 105 #[.val (.int x0), .val (.int y0), .val (.int s0), .val (.int pa), .val (.int pb), .val (.int sl), .val (.int rr), .val (.ref b1), .unset, .unset, .unset, .unset, .unset, .unset] [(.int (0 : Int32))]))
      refine own_fs (XS.istore X12.here hx rfl (hb hby at_105) rfl (l' := #[.val (.int x0), .val (.int y0), .val (.int s0), .val (.int pa), .val (.int pb), .val (.int sl), .val (.int rr), .val (.ref b1), .val (.int (0 : Int32)), .unset, .unset, .unset, .unset, .unset]) rfl (Steps.refl _)) ?_
      show own_G p.tables e below _ (T12.setTop (mkF m 107 #[.val (.int x0), .val (.int y0), .val (.int s0), .val (.int pa), .val (.int pb), .val (.int sl), .val (.int rr), .val (.ref b1), .val (.int (0 : Int32)), .unset, .unset, .unset, .unset, .unset] []))
      refine own_fs (XS.iload X12.here hx rfl (hb hby at_107) rfl (Steps.refl _)) ?_
      show own_G p.tables e below _ (T12.setTop (mkF m 109 #[.val (.int x0), .val (.int y0), .val (.int s0), .val (.int pa), .val (.int pb), .val (.int sl), .val (.int rr), .val (.ref b1), .val (.int (0 : Int32)), .unset, .unset, .unset, .unset, .unset] [(.int pb)]))
      refine own_fs (XS.iload X12.here hx rfl (hb hby at_109) rfl (Steps.refl _)) ?_
      show own_G p.tables e below _ (T12.setTop (mkF m 111 #[.val (.int x0), .val (.int y0), .val (.int s0), .val (.int pa), .val (.int pb), .val (.int sl), .val (.int rr), .val (.ref b1), .val (.int (0 : Int32)), .unset, .unset, .unset, .unset, .unset] [(.int rr), (.int pb)]))
      by_cases hc111 : pb = rr
      · refine own_fs (XS.icmpYes X12.here hx rfl (pc0 := 111) (pc' := 118) rfl (hb hby at_111) rfl (XT.ii_eq_t hc111) (by decide) (by decide) (Steps.refl _)) ?_
        show own_G p.tables e below _ (T12.setTop (mkF m 118 #[.val (.int x0), .val (.int y0), .val (.int s0), .val (.int pa), .val (.int pb), .val (.int sl), .val (.int rr), .val (.ref b1), .val (.int (0 : Int32)), .unset, .unset, .unset, .unset, .unset] []))
        refine own_fs (XS.iconst X12.here hx rfl (hb hby at_118) (Steps.refl _)) ?_
        show own_G p.tables e below _ (T12.setTop (mkF m 119 #[.val (.int x0), .val (.int y0), .val (.int s0), .val (.int pa), .val (.int pb), .val (.int sl), .val (.int rr), .val (.ref b1), .val (.int (0 : Int32)), .unset, .unset, .unset, .unset, .unset] [(.int (0 : Int32))]))
        refine own_fs (XS.istore X12.here hx rfl (hb hby at_119) rfl (l' := #[.val (.int x0), .val (.int y0), .val (.int s0), .val (.int pa), .val (.int pb), .val (.int sl), .val (.int rr), .val (.ref b1), .val (.int (0 : Int32)), .val (.int (0 : Int32)), .unset, .unset, .unset, .unset]) rfl (Steps.refl _)) ?_
        have ia : own_ne pa rr = (0 : Int32) := by simp only [own_ne, hc97, ↓reduceIte]
        have ib : own_ne pb rr = (0 : Int32) := by simp only [own_ne, hc111, ↓reduceIte]
        show own_G p.tables e below _ (T12.setTop (mkF m 121 #[.val (.int x0), .val (.int y0), .val (.int s0), .val (.int pa), .val (.int pb), .val (.int sl), .val (.int rr), .val (.ref b1), .val (.int (0 : Int32)), .val (.int (0 : Int32)), .unset, .unset, .unset, .unset] []))
        refine own_fs (XS.aload X12.here hx rfl (hb hby at_121) rfl rfl (Steps.refl _)) ?_
        show own_G p.tables e below _ (T12.setTop (mkF m 123 #[.val (.int x0), .val (.int y0), .val (.int s0), .val (.int pa), .val (.int pb), .val (.int sl), .val (.int rr), .val (.ref b1), .val (.int (0 : Int32)), .val (.int (0 : Int32)), .unset, .unset, .unset, .unset] [(.ref b1)]))
        refine own_fs (XS.iconst X12.here hx rfl (hb hby at_123) (Steps.refl _)) ?_
        show own_G p.tables e below _ (T12.setTop (mkF m 124 #[.val (.int x0), .val (.int y0), .val (.int s0), .val (.int pa), .val (.int pb), .val (.int sl), .val (.int rr), .val (.ref b1), .val (.int (0 : Int32)), .val (.int (0 : Int32)), .unset, .unset, .unset, .unset] [(.int (0 : Int32)), (.ref b1)]))
        have Zs17 : n0 ≤ h12.size := (Nat.le_trans (Nat.le_trans (Nat.le_trans (Nat.le_trans (Nat.le_trans Z0 E1.1) K3.1) K6.1) K9.1) K12.1)
        obtain ⟨cq16, kq16, q16a, q16b, q16c⟩ := isOf hZ e12 ((((A1.keep K3).keep K6).keep K9).keep K12)
        obtain ⟨_, _, ⟨T16, L16, k16, n16⟩, -, X16, ⟨Lc16, hQ16, l16, y16, z16⟩, st16⟩ := X12.virtualBack hx (y := (⟨"com/example/diligent_tableau/diligenttableau/tableau/Worklist", "next", "(I)I"⟩ : MethodName)) (z := (⟨"com/example/diligent_tableau/diligenttableau/tableau/Worklist", "next", "(I)I"⟩ : MethodName)) hown (mvT hZ (hw _ (List.mem_of_getElem? (i := 29) rfl))) (mvT hZ (hw _ (List.mem_of_getElem? (i := 30) rfl))) (notFace_of_selects (args := #[]) (mvT hZ (hw _ (List.mem_of_getElem? (i := 32) rfl)))) (mvT hZ (hw _ (List.mem_of_getElem? (i := 32) rfl))) (mvT hZ (hw _ (List.mem_of_getElem? (i := 31) rfl))) (by decide) (backOf (W := 0) (own_wnext l Z a0 hw [] b1 (0 : Int32) dd2 kk2 zz2 (own_rem (own_add (own_add own_z pa) pb) rr) h12 n0 Zs17 (P8_0.keep K12 (ninS P8_4 nin0)) P11_0 (own_remz zk2.1 hr) zk2.2.1 zk2.2.2.1 (by decide)) hZ (hw _ (List.mem_of_getElem? (i := 33) rfl)) (hw _ (List.mem_of_getElem? (i := 2) rfl)) (by decide) (by decide)) q16a q16c (g := (mkF m 124 #[.val (.int x0), .val (.int y0), .val (.int s0), .val (.int pa), .val (.int pb), .val (.int sl), .val (.int rr), .val (.ref b1), .val (.int (0 : Int32)), .val (.int (0 : Int32)), .unset, .unset, .unset, .unset] [(.int (0 : Int32)), (.ref b1)])) rfl (by rw [hml]; rfl) (Steps.refl _) (argsL := [(.int (0 : Int32))]) (rest := []) (lenOf own_pd0 rfl) rfl (by show 2 * 0 + _ ≤ _; exact Nat.le_of_eq rfl) (hb hby at_124) (fun _ _ => ⟨rfl, e12, (by decide : 4 + 0 ≤ _), (by decide : 35 + 0 ≤ _)⟩)
        dsimp only [Pt.U, Pt.locs, Pt.cells, Pt.slots] at X16 l16 y16 z16 st16 hQ16
        subst l16 y16 z16
        obtain ⟨vr14, rfl, Nq16, e16, P15_0⟩ := hQ16
        have N16 := Fr.app N12 Nq16
        refine own_fs st16 ?_
        show own_G p.tables e below _ (T16.setTop (mkF m 127 #[.val (.int x0), .val (.int y0), .val (.int s0), .val (.int pa), .val (.int pb), .val (.int sl), .val (.int rr), .val (.ref b1), .val (.int (0 : Int32)), .val (.int (0 : Int32)), .unset, .unset, .unset, .unset] [(.int vr14)]))
        refine own_fs (XS.istore X16.here hx rfl (hb hby at_127) rfl (l' := #[.val (.int x0), .val (.int y0), .val (.int s0), .val (.int pa), .val (.int pb), .val (.int sl), .val (.int rr), .val (.ref b1), .val (.int (0 : Int32)), .val (.int (0 : Int32)), .val (.int vr14), .unset, .unset, .unset]) rfl (Steps.refl _)) ?_
        show own_G p.tables e below _ (T16.setTop (mkF m 129 #[.val (.int x0), .val (.int y0), .val (.int s0), .val (.int pa), .val (.int pb), .val (.int sl), .val (.int rr), .val (.ref b1), .val (.int (0 : Int32)), .val (.int (0 : Int32)), .val (.int vr14), .unset, .unset, .unset] []))
        refine own_fs (XS.aload X16.here hx rfl (hb hby at_129) rfl rfl (Steps.refl _)) ?_
        show own_G p.tables e below _ (T16.setTop (mkF m 131 #[.val (.int x0), .val (.int y0), .val (.int s0), .val (.int pa), .val (.int pb), .val (.int sl), .val (.int rr), .val (.ref b1), .val (.int (0 : Int32)), .val (.int (0 : Int32)), .val (.int vr14), .unset, .unset, .unset] [(.ref b1)]))
        refine own_fs (XS.iload X16.here hx rfl (hb hby at_131) rfl (Steps.refl _)) ?_
        show own_G p.tables e below _ (T16.setTop (mkF m 133 #[.val (.int x0), .val (.int y0), .val (.int s0), .val (.int pa), .val (.int pb), .val (.int sl), .val (.int rr), .val (.ref b1), .val (.int (0 : Int32)), .val (.int (0 : Int32)), .val (.int vr14), .unset, .unset, .unset] [(.int rr), (.ref b1)]))
        have Zs21 : n0 ≤ h12.size := (Nat.le_trans (Nat.le_trans (Nat.le_trans (Nat.le_trans (Nat.le_trans Z0 E1.1) K3.1) K6.1) K9.1) K12.1)
        obtain ⟨cq20, kq20, q20a, q20b, q20c⟩ := isOf hZ e16 ((((A1.keep K3).keep K6).keep K9).keep K12)
        obtain ⟨_, _, ⟨T20, L20, k20, n20⟩, -, X20, ⟨Lc20, hQ20, l20, y20, z20⟩, st20⟩ := X16.virtualBack hx (y := (⟨"com/example/diligent_tableau/diligenttableau/tableau/Worklist", "next", "(I)I"⟩ : MethodName)) (z := (⟨"com/example/diligent_tableau/diligenttableau/tableau/Worklist", "next", "(I)I"⟩ : MethodName)) hown (mvT hZ (hw _ (List.mem_of_getElem? (i := 29) rfl))) (mvT hZ (hw _ (List.mem_of_getElem? (i := 30) rfl))) (notFace_of_selects (args := #[]) (mvT hZ (hw _ (List.mem_of_getElem? (i := 32) rfl)))) (mvT hZ (hw _ (List.mem_of_getElem? (i := 32) rfl))) (mvT hZ (hw _ (List.mem_of_getElem? (i := 31) rfl))) (by decide) (backOf (W := 0) (own_wnext l Z a0 hw [] b1 rr dd2 kk2 zz2 (own_rem (own_add (own_add own_z pa) pb) rr) h12 n0 Zs21 (P8_0.keep K12 (ninS P8_4 nin0)) P11_0 (own_remz zk2.1 hr) zk2.2.1 zk2.2.2.1 hr) hZ (hw _ (List.mem_of_getElem? (i := 33) rfl)) (hw _ (List.mem_of_getElem? (i := 2) rfl)) (by decide) (by decide)) q20a q20c (g := (mkF m 133 #[.val (.int x0), .val (.int y0), .val (.int s0), .val (.int pa), .val (.int pb), .val (.int sl), .val (.int rr), .val (.ref b1), .val (.int (0 : Int32)), .val (.int (0 : Int32)), .val (.int vr14), .unset, .unset, .unset] [(.int rr), (.ref b1)])) rfl (by rw [hml]; rfl) (Steps.refl _) (argsL := [(.int rr)]) (rest := []) (lenOf own_pd0 rfl) rfl (by show 2 * 0 + _ ≤ _; exact Nat.le_of_eq rfl) (hb hby at_133) (fun _ _ => ⟨rfl, e16, (by decide : 4 + 0 ≤ _), (by decide : 35 + 0 ≤ _)⟩)
        dsimp only [Pt.U, Pt.locs, Pt.cells, Pt.slots] at X20 l20 y20 z20 st20 hQ20
        subst l20 y20 z20
        obtain ⟨vr18, rfl, Nq20, e20, P19_0⟩ := hQ20
        have N20 := Fr.app N16 Nq20
        refine own_fs st20 ?_
        show own_G p.tables e below _ (T20.setTop (mkF m 136 #[.val (.int x0), .val (.int y0), .val (.int s0), .val (.int pa), .val (.int pb), .val (.int sl), .val (.int rr), .val (.ref b1), .val (.int (0 : Int32)), .val (.int (0 : Int32)), .val (.int vr14), .unset, .unset, .unset] [(.int vr18)]))
        refine own_fs (XS.istore X20.here hx rfl (hb hby at_136) rfl (l' := #[.val (.int x0), .val (.int y0), .val (.int s0), .val (.int pa), .val (.int pb), .val (.int sl), .val (.int rr), .val (.ref b1), .val (.int (0 : Int32)), .val (.int (0 : Int32)), .val (.int vr14), .val (.int vr18), .unset, .unset]) rfl (Steps.refl _)) ?_
        show own_G p.tables e below _ (T20.setTop (mkF m 138 #[.val (.int x0), .val (.int y0), .val (.int s0), .val (.int pa), .val (.int pb), .val (.int sl), .val (.int rr), .val (.ref b1), .val (.int (0 : Int32)), .val (.int (0 : Int32)), .val (.int vr14), .val (.int vr18), .unset, .unset] []))
        refine own_fs (XS.aload X20.here hx rfl (hb hby at_138) rfl rfl (Steps.refl _)) ?_
        show own_G p.tables e below _ (T20.setTop (mkF m 140 #[.val (.int x0), .val (.int y0), .val (.int s0), .val (.int pa), .val (.int pb), .val (.int sl), .val (.int rr), .val (.ref b1), .val (.int (0 : Int32)), .val (.int (0 : Int32)), .val (.int vr14), .val (.int vr18), .unset, .unset] [(.ref b1)]))
        refine own_fs (XS.iloadN X20.here hx rfl (hb hby at_140) rfl (Steps.refl _)) ?_
        show own_G p.tables e below _ (T20.setTop (mkF m 141 #[.val (.int x0), .val (.int y0), .val (.int s0), .val (.int pa), .val (.int pb), .val (.int sl), .val (.int rr), .val (.ref b1), .val (.int (0 : Int32)), .val (.int (0 : Int32)), .val (.int vr14), .val (.int vr18), .unset, .unset] [(.int pa), (.ref b1)]))
        have Zs25 : n0 ≤ h12.size := (Nat.le_trans (Nat.le_trans (Nat.le_trans (Nat.le_trans (Nat.le_trans Z0 E1.1) K3.1) K6.1) K9.1) K12.1)
        obtain ⟨cq24, kq24, q24a, q24b, q24c⟩ := isOf hZ e20 ((((A1.keep K3).keep K6).keep K9).keep K12)
        obtain ⟨_, _, ⟨T24, L24, k24, n24⟩, -, X24, ⟨Lc24, hQ24, l24, y24, z24⟩, st24⟩ := X20.virtualBack hx (y := (⟨"com/example/diligent_tableau/diligenttableau/tableau/Worklist", "next", "(I)I"⟩ : MethodName)) (z := (⟨"com/example/diligent_tableau/diligenttableau/tableau/Worklist", "next", "(I)I"⟩ : MethodName)) hown (mvT hZ (hw _ (List.mem_of_getElem? (i := 29) rfl))) (mvT hZ (hw _ (List.mem_of_getElem? (i := 30) rfl))) (notFace_of_selects (args := #[]) (mvT hZ (hw _ (List.mem_of_getElem? (i := 32) rfl)))) (mvT hZ (hw _ (List.mem_of_getElem? (i := 32) rfl))) (mvT hZ (hw _ (List.mem_of_getElem? (i := 31) rfl))) (by decide) (backOf (W := 0) (own_wnext l Z a0 hw [] b1 pa dd2 kk2 zz2 (own_rem (own_add (own_add own_z pa) pb) rr) h12 n0 Zs25 (P8_0.keep K12 (ninS P8_4 nin0)) P11_0 (own_remz zk2.1 hr) zk2.2.1 zk2.2.2.1 hA.1) hZ (hw _ (List.mem_of_getElem? (i := 33) rfl)) (hw _ (List.mem_of_getElem? (i := 2) rfl)) (by decide) (by decide)) q24a q24c (g := (mkF m 141 #[.val (.int x0), .val (.int y0), .val (.int s0), .val (.int pa), .val (.int pb), .val (.int sl), .val (.int rr), .val (.ref b1), .val (.int (0 : Int32)), .val (.int (0 : Int32)), .val (.int vr14), .val (.int vr18), .unset, .unset] [(.int pa), (.ref b1)])) rfl (by rw [hml]; rfl) (Steps.refl _) (argsL := [(.int pa)]) (rest := []) (lenOf own_pd0 rfl) rfl (by show 2 * 0 + _ ≤ _; exact Nat.le_of_eq rfl) (hb hby at_141) (fun _ _ => ⟨rfl, e20, (by decide : 4 + 0 ≤ _), (by decide : 35 + 0 ≤ _)⟩)
        dsimp only [Pt.U, Pt.locs, Pt.cells, Pt.slots] at X24 l24 y24 z24 st24 hQ24
        subst l24 y24 z24
        obtain ⟨vr22, rfl, Nq24, e24, P23_0⟩ := hQ24
        have N24 := Fr.app N20 Nq24
        refine own_fs st24 ?_
        show own_G p.tables e below _ (T24.setTop (mkF m 144 #[.val (.int x0), .val (.int y0), .val (.int s0), .val (.int pa), .val (.int pb), .val (.int sl), .val (.int rr), .val (.ref b1), .val (.int (0 : Int32)), .val (.int (0 : Int32)), .val (.int vr14), .val (.int vr18), .unset, .unset] [(.int vr22)]))
        refine own_fs (XS.istore X24.here hx rfl (hb hby at_144) rfl (l' := #[.val (.int x0), .val (.int y0), .val (.int s0), .val (.int pa), .val (.int pb), .val (.int sl), .val (.int rr), .val (.ref b1), .val (.int (0 : Int32)), .val (.int (0 : Int32)), .val (.int vr14), .val (.int vr18), .val (.int vr22), .unset]) rfl (Steps.refl _)) ?_
        show own_G p.tables e below _ (T24.setTop (mkF m 146 #[.val (.int x0), .val (.int y0), .val (.int s0), .val (.int pa), .val (.int pb), .val (.int sl), .val (.int rr), .val (.ref b1), .val (.int (0 : Int32)), .val (.int (0 : Int32)), .val (.int vr14), .val (.int vr18), .val (.int vr22), .unset] []))
        refine own_fs (XS.aload X24.here hx rfl (hb hby at_146) rfl rfl (Steps.refl _)) ?_
        show own_G p.tables e below _ (T24.setTop (mkF m 148 #[.val (.int x0), .val (.int y0), .val (.int s0), .val (.int pa), .val (.int pb), .val (.int sl), .val (.int rr), .val (.ref b1), .val (.int (0 : Int32)), .val (.int (0 : Int32)), .val (.int vr14), .val (.int vr18), .val (.int vr22), .unset] [(.ref b1)]))
        refine own_fs (XS.iload X24.here hx rfl (hb hby at_148) rfl (Steps.refl _)) ?_
        show own_G p.tables e below _ (T24.setTop (mkF m 150 #[.val (.int x0), .val (.int y0), .val (.int s0), .val (.int pa), .val (.int pb), .val (.int sl), .val (.int rr), .val (.ref b1), .val (.int (0 : Int32)), .val (.int (0 : Int32)), .val (.int vr14), .val (.int vr18), .val (.int vr22), .unset] [(.int pb), (.ref b1)]))
        have Zs29 : n0 ≤ h12.size := (Nat.le_trans (Nat.le_trans (Nat.le_trans (Nat.le_trans (Nat.le_trans Z0 E1.1) K3.1) K6.1) K9.1) K12.1)
        obtain ⟨cq28, kq28, q28a, q28b, q28c⟩ := isOf hZ e24 ((((A1.keep K3).keep K6).keep K9).keep K12)
        obtain ⟨_, _, ⟨T28, L28, k28, n28⟩, -, X28, ⟨Lc28, hQ28, l28, y28, z28⟩, st28⟩ := X24.virtualBack hx (y := (⟨"com/example/diligent_tableau/diligenttableau/tableau/Worklist", "next", "(I)I"⟩ : MethodName)) (z := (⟨"com/example/diligent_tableau/diligenttableau/tableau/Worklist", "next", "(I)I"⟩ : MethodName)) hown (mvT hZ (hw _ (List.mem_of_getElem? (i := 29) rfl))) (mvT hZ (hw _ (List.mem_of_getElem? (i := 30) rfl))) (notFace_of_selects (args := #[]) (mvT hZ (hw _ (List.mem_of_getElem? (i := 32) rfl)))) (mvT hZ (hw _ (List.mem_of_getElem? (i := 32) rfl))) (mvT hZ (hw _ (List.mem_of_getElem? (i := 31) rfl))) (by decide) (backOf (W := 0) (own_wnext l Z a0 hw [] b1 pb dd2 kk2 zz2 (own_rem (own_add (own_add own_z pa) pb) rr) h12 n0 Zs29 (P8_0.keep K12 (ninS P8_4 nin0)) P11_0 (own_remz zk2.1 hr) zk2.2.1 zk2.2.2.1 hB.1) hZ (hw _ (List.mem_of_getElem? (i := 33) rfl)) (hw _ (List.mem_of_getElem? (i := 2) rfl)) (by decide) (by decide)) q28a q28c (g := (mkF m 150 #[.val (.int x0), .val (.int y0), .val (.int s0), .val (.int pa), .val (.int pb), .val (.int sl), .val (.int rr), .val (.ref b1), .val (.int (0 : Int32)), .val (.int (0 : Int32)), .val (.int vr14), .val (.int vr18), .val (.int vr22), .unset] [(.int pb), (.ref b1)])) rfl (by rw [hml]; rfl) (Steps.refl _) (argsL := [(.int pb)]) (rest := []) (lenOf own_pd0 rfl) rfl (by show 2 * 0 + _ ≤ _; exact Nat.le_of_eq rfl) (hb hby at_150) (fun _ _ => ⟨rfl, e24, (by decide : 4 + 0 ≤ _), (by decide : 35 + 0 ≤ _)⟩)
        dsimp only [Pt.U, Pt.locs, Pt.cells, Pt.slots] at X28 l28 y28 z28 st28 hQ28
        subst l28 y28 z28
        obtain ⟨vr26, rfl, Nq28, e28, P27_0⟩ := hQ28
        have N28 := Fr.app N24 Nq28
        refine own_fs st28 ?_
        show own_G p.tables e below _ (T28.setTop (mkF m 153 #[.val (.int x0), .val (.int y0), .val (.int s0), .val (.int pa), .val (.int pb), .val (.int sl), .val (.int rr), .val (.ref b1), .val (.int (0 : Int32)), .val (.int (0 : Int32)), .val (.int vr14), .val (.int vr18), .val (.int vr22), .unset] [(.int vr26)]))
        refine own_fs (XS.istore X28.here hx rfl (hb hby at_153) rfl (l' := #[.val (.int x0), .val (.int y0), .val (.int s0), .val (.int pa), .val (.int pb), .val (.int sl), .val (.int rr), .val (.ref b1), .val (.int (0 : Int32)), .val (.int (0 : Int32)), .val (.int vr14), .val (.int vr18), .val (.int vr22), .val (.int vr26)]) rfl (Steps.refl _)) ?_
        show own_G p.tables e below _ (T28.setTop (mkF m 155 #[.val (.int x0), .val (.int y0), .val (.int s0), .val (.int pa), .val (.int pb), .val (.int sl), .val (.int rr), .val (.ref b1), .val (.int (0 : Int32)), .val (.int (0 : Int32)), .val (.int vr14), .val (.int vr18), .val (.int vr22), .val (.int vr26)] []))
        refine own_fs (XS.iload X28.here hx rfl (hb hby at_155) rfl (Steps.refl _)) ?_
        show own_G p.tables e below _ (T28.setTop (mkF m 157 #[.val (.int x0), .val (.int y0), .val (.int s0), .val (.int pa), .val (.int pb), .val (.int sl), .val (.int rr), .val (.ref b1), .val (.int (0 : Int32)), .val (.int (0 : Int32)), .val (.int vr14), .val (.int vr18), .val (.int vr22), .val (.int vr26)] [(.int vr14)]))
        refine own_fs (XS.iconst X28.here hx rfl (hb hby at_157) (Steps.refl _)) ?_
        show own_G p.tables e below _ (T28.setTop (mkF m 158 #[.val (.int x0), .val (.int y0), .val (.int s0), .val (.int pa), .val (.int pb), .val (.int sl), .val (.int rr), .val (.ref b1), .val (.int (0 : Int32)), .val (.int (0 : Int32)), .val (.int vr14), .val (.int vr18), .val (.int vr22), .val (.int vr26)] [(.int (0 : Int32)), (.int vr14)]))
        refine own_fs (XS.iloadN X28.here hx rfl (hb hby at_158) rfl (Steps.refl _)) ?_
        show own_G p.tables e below _ (T28.setTop (mkF m 159 #[.val (.int x0), .val (.int y0), .val (.int s0), .val (.int pa), .val (.int pb), .val (.int sl), .val (.int rr), .val (.ref b1), .val (.int (0 : Int32)), .val (.int (0 : Int32)), .val (.int vr14), .val (.int vr18), .val (.int vr22), .val (.int vr26)] [(.int pa), (.int (0 : Int32)), (.int vr14)]))
        refine own_fs (XS.iload X28.here hx rfl (hb hby at_159) rfl (Steps.refl _)) ?_
        show own_G p.tables e below _ (T28.setTop (mkF m 161 #[.val (.int x0), .val (.int y0), .val (.int s0), .val (.int pa), .val (.int pb), .val (.int sl), .val (.int rr), .val (.ref b1), .val (.int (0 : Int32)), .val (.int (0 : Int32)), .val (.int vr14), .val (.int vr18), .val (.int vr22), .val (.int vr26)] [(.int (0 : Int32)), (.int pa), (.int (0 : Int32)), (.int vr14)]))
        refine own_fs (XS.iload X28.here hx rfl (hb hby at_161) rfl (Steps.refl _)) ?_
        show own_G p.tables e below _ (T28.setTop (mkF m 163 #[.val (.int x0), .val (.int y0), .val (.int s0), .val (.int pa), .val (.int pb), .val (.int sl), .val (.int rr), .val (.ref b1), .val (.int (0 : Int32)), .val (.int (0 : Int32)), .val (.int vr14), .val (.int vr18), .val (.int vr22), .val (.int vr26)] [(.int pb), (.int (0 : Int32)), (.int pa), (.int (0 : Int32)), (.int vr14)]))
        refine own_fs (XS.iload X28.here hx rfl (hb hby at_163) rfl (Steps.refl _)) ?_
        show own_G p.tables e below _ (T28.setTop (mkF m 165 #[.val (.int x0), .val (.int y0), .val (.int s0), .val (.int pa), .val (.int pb), .val (.int sl), .val (.int rr), .val (.ref b1), .val (.int (0 : Int32)), .val (.int (0 : Int32)), .val (.int vr14), .val (.int vr18), .val (.int vr22), .val (.int vr26)] [(.int (0 : Int32)), (.int pb), (.int (0 : Int32)), (.int pa), (.int (0 : Int32)), (.int vr14)]))
        have Zs32 : n0 ≤ h12.size := (Nat.le_trans (Nat.le_trans (Nat.le_trans (Nat.le_trans (Nat.le_trans Z0 E1.1) K3.1) K6.1) K9.1) K12.1)
        obtain ⟨_, _, ⟨T31, L31, k31, n31⟩, -, X31, ⟨Lc31, hQ31, l31, y31, z31⟩, st31⟩ := Jvm.LawKit.callS X28 hx (y := (⟨"com/example/diligent_tableau/diligenttableau/tableau/WorklistRemovePinLaw", "least", "(IIZIZ)I"⟩ : MethodName)) hown (mvT hZ (hw _ (List.mem_of_getElem? (i := 43) rfl))) (mvT hZ (hw _ (List.mem_of_getElem? (i := 44) rfl))) (mvT hZ (hw _ (List.mem_of_getElem? (i := 45) rfl))) (mvT hZ (hw _ (List.mem_of_getElem? (i := 46) rfl))) (by decide) (backOf (W := 1) (own_rleast l Z a0 hw [] (0 : Int32) pa (0 : Int32) pb (0 : Int32) h12 n0 Zs32 hA.1) hZ (hw _ (List.mem_of_getElem? (i := 46) rfl)) (hw _ (List.mem_of_getElem? (i := 45) rfl)) (by decide) (by decide)) (g := (mkF m 165 #[.val (.int x0), .val (.int y0), .val (.int s0), .val (.int pa), .val (.int pb), .val (.int sl), .val (.int rr), .val (.ref b1), .val (.int (0 : Int32)), .val (.int (0 : Int32)), .val (.int vr14), .val (.int vr18), .val (.int vr22), .val (.int vr26)] [(.int (0 : Int32)), (.int pb), (.int (0 : Int32)), (.int pa), (.int (0 : Int32)), (.int vr14)])) rfl (by rw [hml]; rfl) (argsL := [(.int (0 : Int32)), (.int pa), (.int (0 : Int32)), (.int pb), (.int (0 : Int32))]) (rest := [(.int vr14)]) (lenOf own_pd6 rfl) rfl (by show 2 * 0 + _ ≤ _; exact Nat.le_of_eq rfl) (hb hby at_165) (fun _ _ => ⟨rfl, e28, (by decide : 4 + 0 ≤ _), (by decide : 35 + 0 ≤ _)⟩)
        dsimp only [Pt.U, Pt.locs, Pt.cells, Pt.slots] at X31 l31 y31 z31 st31 hQ31
        subst l31 y31 z31
        obtain ⟨rfl, Nq31, e31⟩ := hQ31
        have N31 := Fr.app N28 Nq31
        refine own_fs (st31 _ (Steps.refl _)) ?_
        show own_G p.tables e below _ (T31.setTop (mkF m 168 #[.val (.int x0), .val (.int y0), .val (.int s0), .val (.int pa), .val (.int pb), .val (.int sl), .val (.int rr), .val (.ref b1), .val (.int (0 : Int32)), .val (.int (0 : Int32)), .val (.int vr14), .val (.int vr18), .val (.int vr22), .val (.int vr26)] [(.int (own_least (0 : Int32) pa (0 : Int32) pb (0 : Int32))), (.int vr14)]))
        refine own_fs (XS.icmpNo X31.here hx rfl (hb hby at_168) rfl (XT.ii_ne_f (own_fin hA.1 hB.1 hr ia ib (by decide) P15_0)) (Steps.refl _)) ?_
        show own_G p.tables e below _ (T31.setTop (mkF m 171 #[.val (.int x0), .val (.int y0), .val (.int s0), .val (.int pa), .val (.int pb), .val (.int sl), .val (.int rr), .val (.ref b1), .val (.int (0 : Int32)), .val (.int (0 : Int32)), .val (.int vr14), .val (.int vr18), .val (.int vr22), .val (.int vr26)] []))
        refine own_fs (XS.iload X31.here hx rfl (hb hby at_171) rfl (Steps.refl _)) ?_
        show own_G p.tables e below _ (T31.setTop (mkF m 173 #[.val (.int x0), .val (.int y0), .val (.int s0), .val (.int pa), .val (.int pb), .val (.int sl), .val (.int rr), .val (.ref b1), .val (.int (0 : Int32)), .val (.int (0 : Int32)), .val (.int vr14), .val (.int vr18), .val (.int vr22), .val (.int vr26)] [(.int vr18)]))
        refine own_fs (XS.iload X31.here hx rfl (hb hby at_173) rfl (Steps.refl _)) ?_
        show own_G p.tables e below _ (T31.setTop (mkF m 175 #[.val (.int x0), .val (.int y0), .val (.int s0), .val (.int pa), .val (.int pb), .val (.int sl), .val (.int rr), .val (.ref b1), .val (.int (0 : Int32)), .val (.int (0 : Int32)), .val (.int vr14), .val (.int vr18), .val (.int vr22), .val (.int vr26)] [(.int rr), (.int vr18)]))
        refine own_fs (XS.iloadN X31.here hx rfl (hb hby at_175) rfl (Steps.refl _)) ?_
        show own_G p.tables e below _ (T31.setTop (mkF m 176 #[.val (.int x0), .val (.int y0), .val (.int s0), .val (.int pa), .val (.int pb), .val (.int sl), .val (.int rr), .val (.ref b1), .val (.int (0 : Int32)), .val (.int (0 : Int32)), .val (.int vr14), .val (.int vr18), .val (.int vr22), .val (.int vr26)] [(.int pa), (.int rr), (.int vr18)]))
        refine own_fs (XS.iload X31.here hx rfl (hb hby at_176) rfl (Steps.refl _)) ?_
        show own_G p.tables e below _ (T31.setTop (mkF m 178 #[.val (.int x0), .val (.int y0), .val (.int s0), .val (.int pa), .val (.int pb), .val (.int sl), .val (.int rr), .val (.ref b1), .val (.int (0 : Int32)), .val (.int (0 : Int32)), .val (.int vr14), .val (.int vr18), .val (.int vr22), .val (.int vr26)] [(.int (0 : Int32)), (.int pa), (.int rr), (.int vr18)]))
        refine own_fs (XS.iload X31.here hx rfl (hb hby at_178) rfl (Steps.refl _)) ?_
        show own_G p.tables e below _ (T31.setTop (mkF m 180 #[.val (.int x0), .val (.int y0), .val (.int s0), .val (.int pa), .val (.int pb), .val (.int sl), .val (.int rr), .val (.ref b1), .val (.int (0 : Int32)), .val (.int (0 : Int32)), .val (.int vr14), .val (.int vr18), .val (.int vr22), .val (.int vr26)] [(.int pb), (.int (0 : Int32)), (.int pa), (.int rr), (.int vr18)]))
        refine own_fs (XS.iload X31.here hx rfl (hb hby at_180) rfl (Steps.refl _)) ?_
        show own_G p.tables e below _ (T31.setTop (mkF m 182 #[.val (.int x0), .val (.int y0), .val (.int s0), .val (.int pa), .val (.int pb), .val (.int sl), .val (.int rr), .val (.ref b1), .val (.int (0 : Int32)), .val (.int (0 : Int32)), .val (.int vr14), .val (.int vr18), .val (.int vr22), .val (.int vr26)] [(.int (0 : Int32)), (.int pb), (.int (0 : Int32)), (.int pa), (.int rr), (.int vr18)]))
        have Zs35 : n0 ≤ h12.size := (Nat.le_trans (Nat.le_trans (Nat.le_trans (Nat.le_trans (Nat.le_trans Z0 E1.1) K3.1) K6.1) K9.1) K12.1)
        obtain ⟨_, _, ⟨T34, L34, k34, n34⟩, -, X34, ⟨Lc34, hQ34, l34, y34, z34⟩, st34⟩ := Jvm.LawKit.callS X31 hx (y := (⟨"com/example/diligent_tableau/diligenttableau/tableau/WorklistRemovePinLaw", "least", "(IIZIZ)I"⟩ : MethodName)) hown (mvT hZ (hw _ (List.mem_of_getElem? (i := 43) rfl))) (mvT hZ (hw _ (List.mem_of_getElem? (i := 44) rfl))) (mvT hZ (hw _ (List.mem_of_getElem? (i := 45) rfl))) (mvT hZ (hw _ (List.mem_of_getElem? (i := 46) rfl))) (by decide) (backOf (W := 1) (own_rleast l Z a0 hw [] rr pa (0 : Int32) pb (0 : Int32) h12 n0 Zs35 hA.1) hZ (hw _ (List.mem_of_getElem? (i := 46) rfl)) (hw _ (List.mem_of_getElem? (i := 45) rfl)) (by decide) (by decide)) (g := (mkF m 182 #[.val (.int x0), .val (.int y0), .val (.int s0), .val (.int pa), .val (.int pb), .val (.int sl), .val (.int rr), .val (.ref b1), .val (.int (0 : Int32)), .val (.int (0 : Int32)), .val (.int vr14), .val (.int vr18), .val (.int vr22), .val (.int vr26)] [(.int (0 : Int32)), (.int pb), (.int (0 : Int32)), (.int pa), (.int rr), (.int vr18)])) rfl (by rw [hml]; rfl) (argsL := [(.int rr), (.int pa), (.int (0 : Int32)), (.int pb), (.int (0 : Int32))]) (rest := [(.int vr18)]) (lenOf own_pd6 rfl) rfl (by show 2 * 0 + _ ≤ _; exact Nat.le_of_eq rfl) (hb hby at_182) (fun _ _ => ⟨rfl, e31, (by decide : 4 + 0 ≤ _), (by decide : 35 + 0 ≤ _)⟩)
        dsimp only [Pt.U, Pt.locs, Pt.cells, Pt.slots] at X34 l34 y34 z34 st34 hQ34
        subst l34 y34 z34
        obtain ⟨rfl, Nq34, e34⟩ := hQ34
        have N34 := Fr.app N31 Nq34
        refine own_fs (st34 _ (Steps.refl _)) ?_
        show own_G p.tables e below _ (T34.setTop (mkF m 185 #[.val (.int x0), .val (.int y0), .val (.int s0), .val (.int pa), .val (.int pb), .val (.int sl), .val (.int rr), .val (.ref b1), .val (.int (0 : Int32)), .val (.int (0 : Int32)), .val (.int vr14), .val (.int vr18), .val (.int vr22), .val (.int vr26)] [(.int (own_least rr pa (0 : Int32) pb (0 : Int32))), (.int vr18)]))
        refine own_fs (XS.icmpNo X34.here hx rfl (hb hby at_185) rfl (XT.ii_ne_f (own_fin hA.1 hB.1 hr ia ib hr P19_0)) (Steps.refl _)) ?_
        show own_G p.tables e below _ (T34.setTop (mkF m 188 #[.val (.int x0), .val (.int y0), .val (.int s0), .val (.int pa), .val (.int pb), .val (.int sl), .val (.int rr), .val (.ref b1), .val (.int (0 : Int32)), .val (.int (0 : Int32)), .val (.int vr14), .val (.int vr18), .val (.int vr22), .val (.int vr26)] []))
        refine own_fs (XS.iload X34.here hx rfl (hb hby at_188) rfl (Steps.refl _)) ?_
        show own_G p.tables e below _ (T34.setTop (mkF m 190 #[.val (.int x0), .val (.int y0), .val (.int s0), .val (.int pa), .val (.int pb), .val (.int sl), .val (.int rr), .val (.ref b1), .val (.int (0 : Int32)), .val (.int (0 : Int32)), .val (.int vr14), .val (.int vr18), .val (.int vr22), .val (.int vr26)] [(.int vr22)]))
        refine own_fs (XS.iloadN X34.here hx rfl (hb hby at_190) rfl (Steps.refl _)) ?_
        show own_G p.tables e below _ (T34.setTop (mkF m 191 #[.val (.int x0), .val (.int y0), .val (.int s0), .val (.int pa), .val (.int pb), .val (.int sl), .val (.int rr), .val (.ref b1), .val (.int (0 : Int32)), .val (.int (0 : Int32)), .val (.int vr14), .val (.int vr18), .val (.int vr22), .val (.int vr26)] [(.int pa), (.int vr22)]))
        refine own_fs (XS.iloadN X34.here hx rfl (hb hby at_191) rfl (Steps.refl _)) ?_
        show own_G p.tables e below _ (T34.setTop (mkF m 192 #[.val (.int x0), .val (.int y0), .val (.int s0), .val (.int pa), .val (.int pb), .val (.int sl), .val (.int rr), .val (.ref b1), .val (.int (0 : Int32)), .val (.int (0 : Int32)), .val (.int vr14), .val (.int vr18), .val (.int vr22), .val (.int vr26)] [(.int pa), (.int pa), (.int vr22)]))
        refine own_fs (XS.iload X34.here hx rfl (hb hby at_192) rfl (Steps.refl _)) ?_
        show own_G p.tables e below _ (T34.setTop (mkF m 194 #[.val (.int x0), .val (.int y0), .val (.int s0), .val (.int pa), .val (.int pb), .val (.int sl), .val (.int rr), .val (.ref b1), .val (.int (0 : Int32)), .val (.int (0 : Int32)), .val (.int vr14), .val (.int vr18), .val (.int vr22), .val (.int vr26)] [(.int (0 : Int32)), (.int pa), (.int pa), (.int vr22)]))
        refine own_fs (XS.iload X34.here hx rfl (hb hby at_194) rfl (Steps.refl _)) ?_
        show own_G p.tables e below _ (T34.setTop (mkF m 196 #[.val (.int x0), .val (.int y0), .val (.int s0), .val (.int pa), .val (.int pb), .val (.int sl), .val (.int rr), .val (.ref b1), .val (.int (0 : Int32)), .val (.int (0 : Int32)), .val (.int vr14), .val (.int vr18), .val (.int vr22), .val (.int vr26)] [(.int pb), (.int (0 : Int32)), (.int pa), (.int pa), (.int vr22)]))
        refine own_fs (XS.iload X34.here hx rfl (hb hby at_196) rfl (Steps.refl _)) ?_
        show own_G p.tables e below _ (T34.setTop (mkF m 198 #[.val (.int x0), .val (.int y0), .val (.int s0), .val (.int pa), .val (.int pb), .val (.int sl), .val (.int rr), .val (.ref b1), .val (.int (0 : Int32)), .val (.int (0 : Int32)), .val (.int vr14), .val (.int vr18), .val (.int vr22), .val (.int vr26)] [(.int (0 : Int32)), (.int pb), (.int (0 : Int32)), (.int pa), (.int pa), (.int vr22)]))
        have Zs38 : n0 ≤ h12.size := (Nat.le_trans (Nat.le_trans (Nat.le_trans (Nat.le_trans (Nat.le_trans Z0 E1.1) K3.1) K6.1) K9.1) K12.1)
        obtain ⟨_, _, ⟨T37, L37, k37, n37⟩, -, X37, ⟨Lc37, hQ37, l37, y37, z37⟩, st37⟩ := Jvm.LawKit.callS X34 hx (y := (⟨"com/example/diligent_tableau/diligenttableau/tableau/WorklistRemovePinLaw", "least", "(IIZIZ)I"⟩ : MethodName)) hown (mvT hZ (hw _ (List.mem_of_getElem? (i := 43) rfl))) (mvT hZ (hw _ (List.mem_of_getElem? (i := 44) rfl))) (mvT hZ (hw _ (List.mem_of_getElem? (i := 45) rfl))) (mvT hZ (hw _ (List.mem_of_getElem? (i := 46) rfl))) (by decide) (backOf (W := 1) (own_rleast l Z a0 hw [] pa pa (0 : Int32) pb (0 : Int32) h12 n0 Zs38 hA.1) hZ (hw _ (List.mem_of_getElem? (i := 46) rfl)) (hw _ (List.mem_of_getElem? (i := 45) rfl)) (by decide) (by decide)) (g := (mkF m 198 #[.val (.int x0), .val (.int y0), .val (.int s0), .val (.int pa), .val (.int pb), .val (.int sl), .val (.int rr), .val (.ref b1), .val (.int (0 : Int32)), .val (.int (0 : Int32)), .val (.int vr14), .val (.int vr18), .val (.int vr22), .val (.int vr26)] [(.int (0 : Int32)), (.int pb), (.int (0 : Int32)), (.int pa), (.int pa), (.int vr22)])) rfl (by rw [hml]; rfl) (argsL := [(.int pa), (.int pa), (.int (0 : Int32)), (.int pb), (.int (0 : Int32))]) (rest := [(.int vr22)]) (lenOf own_pd6 rfl) rfl (by show 2 * 0 + _ ≤ _; exact Nat.le_of_eq rfl) (hb hby at_198) (fun _ _ => ⟨rfl, e34, (by decide : 4 + 0 ≤ _), (by decide : 35 + 0 ≤ _)⟩)
        dsimp only [Pt.U, Pt.locs, Pt.cells, Pt.slots] at X37 l37 y37 z37 st37 hQ37
        subst l37 y37 z37
        obtain ⟨rfl, Nq37, e37⟩ := hQ37
        have N37 := Fr.app N34 Nq37
        refine own_fs (st37 _ (Steps.refl _)) ?_
        show own_G p.tables e below _ (T37.setTop (mkF m 201 #[.val (.int x0), .val (.int y0), .val (.int s0), .val (.int pa), .val (.int pb), .val (.int sl), .val (.int rr), .val (.ref b1), .val (.int (0 : Int32)), .val (.int (0 : Int32)), .val (.int vr14), .val (.int vr18), .val (.int vr22), .val (.int vr26)] [(.int (own_least pa pa (0 : Int32) pb (0 : Int32))), (.int vr22)]))
        refine own_fs (XS.icmpNo X37.here hx rfl (hb hby at_201) rfl (XT.ii_ne_f (own_fin hA.1 hB.1 hr ia ib hA.1 P23_0)) (Steps.refl _)) ?_
        show own_G p.tables e below _ (T37.setTop (mkF m 204 #[.val (.int x0), .val (.int y0), .val (.int s0), .val (.int pa), .val (.int pb), .val (.int sl), .val (.int rr), .val (.ref b1), .val (.int (0 : Int32)), .val (.int (0 : Int32)), .val (.int vr14), .val (.int vr18), .val (.int vr22), .val (.int vr26)] []))
        refine own_fs (XS.iload X37.here hx rfl (hb hby at_204) rfl (Steps.refl _)) ?_
        show own_G p.tables e below _ (T37.setTop (mkF m 206 #[.val (.int x0), .val (.int y0), .val (.int s0), .val (.int pa), .val (.int pb), .val (.int sl), .val (.int rr), .val (.ref b1), .val (.int (0 : Int32)), .val (.int (0 : Int32)), .val (.int vr14), .val (.int vr18), .val (.int vr22), .val (.int vr26)] [(.int vr26)]))
        refine own_fs (XS.iload X37.here hx rfl (hb hby at_206) rfl (Steps.refl _)) ?_
        show own_G p.tables e below _ (T37.setTop (mkF m 208 #[.val (.int x0), .val (.int y0), .val (.int s0), .val (.int pa), .val (.int pb), .val (.int sl), .val (.int rr), .val (.ref b1), .val (.int (0 : Int32)), .val (.int (0 : Int32)), .val (.int vr14), .val (.int vr18), .val (.int vr22), .val (.int vr26)] [(.int pb), (.int vr26)]))
        refine own_fs (XS.iloadN X37.here hx rfl (hb hby at_208) rfl (Steps.refl _)) ?_
        show own_G p.tables e below _ (T37.setTop (mkF m 209 #[.val (.int x0), .val (.int y0), .val (.int s0), .val (.int pa), .val (.int pb), .val (.int sl), .val (.int rr), .val (.ref b1), .val (.int (0 : Int32)), .val (.int (0 : Int32)), .val (.int vr14), .val (.int vr18), .val (.int vr22), .val (.int vr26)] [(.int pa), (.int pb), (.int vr26)]))
        refine own_fs (XS.iload X37.here hx rfl (hb hby at_209) rfl (Steps.refl _)) ?_
        show own_G p.tables e below _ (T37.setTop (mkF m 211 #[.val (.int x0), .val (.int y0), .val (.int s0), .val (.int pa), .val (.int pb), .val (.int sl), .val (.int rr), .val (.ref b1), .val (.int (0 : Int32)), .val (.int (0 : Int32)), .val (.int vr14), .val (.int vr18), .val (.int vr22), .val (.int vr26)] [(.int (0 : Int32)), (.int pa), (.int pb), (.int vr26)]))
        refine own_fs (XS.iload X37.here hx rfl (hb hby at_211) rfl (Steps.refl _)) ?_
        show own_G p.tables e below _ (T37.setTop (mkF m 213 #[.val (.int x0), .val (.int y0), .val (.int s0), .val (.int pa), .val (.int pb), .val (.int sl), .val (.int rr), .val (.ref b1), .val (.int (0 : Int32)), .val (.int (0 : Int32)), .val (.int vr14), .val (.int vr18), .val (.int vr22), .val (.int vr26)] [(.int pb), (.int (0 : Int32)), (.int pa), (.int pb), (.int vr26)]))
        refine own_fs (XS.iload X37.here hx rfl (hb hby at_213) rfl (Steps.refl _)) ?_
        show own_G p.tables e below _ (T37.setTop (mkF m 215 #[.val (.int x0), .val (.int y0), .val (.int s0), .val (.int pa), .val (.int pb), .val (.int sl), .val (.int rr), .val (.ref b1), .val (.int (0 : Int32)), .val (.int (0 : Int32)), .val (.int vr14), .val (.int vr18), .val (.int vr22), .val (.int vr26)] [(.int (0 : Int32)), (.int pb), (.int (0 : Int32)), (.int pa), (.int pb), (.int vr26)]))
        have Zs41 : n0 ≤ h12.size := (Nat.le_trans (Nat.le_trans (Nat.le_trans (Nat.le_trans (Nat.le_trans Z0 E1.1) K3.1) K6.1) K9.1) K12.1)
        obtain ⟨_, _, ⟨T40, L40, k40, n40⟩, -, X40, ⟨Lc40, hQ40, l40, y40, z40⟩, st40⟩ := Jvm.LawKit.callS X37 hx (y := (⟨"com/example/diligent_tableau/diligenttableau/tableau/WorklistRemovePinLaw", "least", "(IIZIZ)I"⟩ : MethodName)) hown (mvT hZ (hw _ (List.mem_of_getElem? (i := 43) rfl))) (mvT hZ (hw _ (List.mem_of_getElem? (i := 44) rfl))) (mvT hZ (hw _ (List.mem_of_getElem? (i := 45) rfl))) (mvT hZ (hw _ (List.mem_of_getElem? (i := 46) rfl))) (by decide) (backOf (W := 1) (own_rleast l Z a0 hw [] pb pa (0 : Int32) pb (0 : Int32) h12 n0 Zs41 hA.1) hZ (hw _ (List.mem_of_getElem? (i := 46) rfl)) (hw _ (List.mem_of_getElem? (i := 45) rfl)) (by decide) (by decide)) (g := (mkF m 215 #[.val (.int x0), .val (.int y0), .val (.int s0), .val (.int pa), .val (.int pb), .val (.int sl), .val (.int rr), .val (.ref b1), .val (.int (0 : Int32)), .val (.int (0 : Int32)), .val (.int vr14), .val (.int vr18), .val (.int vr22), .val (.int vr26)] [(.int (0 : Int32)), (.int pb), (.int (0 : Int32)), (.int pa), (.int pb), (.int vr26)])) rfl (by rw [hml]; rfl) (argsL := [(.int pb), (.int pa), (.int (0 : Int32)), (.int pb), (.int (0 : Int32))]) (rest := [(.int vr26)]) (lenOf own_pd6 rfl) rfl (by show 2 * 0 + _ ≤ _; exact Nat.le_of_eq rfl) (hb hby at_215) (fun _ _ => ⟨rfl, e37, (by decide : 4 + 0 ≤ _), (by decide : 35 + 0 ≤ _)⟩)
        dsimp only [Pt.U, Pt.locs, Pt.cells, Pt.slots] at X40 l40 y40 z40 st40 hQ40
        subst l40 y40 z40
        obtain ⟨rfl, Nq40, e40⟩ := hQ40
        have N40 := Fr.app N37 Nq40
        refine own_fs (st40 _ (Steps.refl _)) ?_
        show own_G p.tables e below _ (T40.setTop (mkF m 218 #[.val (.int x0), .val (.int y0), .val (.int s0), .val (.int pa), .val (.int pb), .val (.int sl), .val (.int rr), .val (.ref b1), .val (.int (0 : Int32)), .val (.int (0 : Int32)), .val (.int vr14), .val (.int vr18), .val (.int vr22), .val (.int vr26)] [(.int (own_least pb pa (0 : Int32) pb (0 : Int32))), (.int vr26)]))
        refine own_fs (XS.icmpNo X40.here hx rfl (hb hby at_218) rfl (XT.ii_ne_f (own_fin hA.1 hB.1 hr ia ib hB.1 P27_0)) (Steps.refl _)) ?_
        show own_G p.tables e below _ (T40.setTop (mkF m 221 #[.val (.int x0), .val (.int y0), .val (.int s0), .val (.int pa), .val (.int pb), .val (.int sl), .val (.int rr), .val (.ref b1), .val (.int (0 : Int32)), .val (.int (0 : Int32)), .val (.int vr14), .val (.int vr18), .val (.int vr22), .val (.int vr26)] []))
        refine own_fs (XS.iconst X40.here hx rfl (hb hby at_221) (Steps.refl _)) ?_
        show own_G p.tables e below _ (T40.setTop (mkF m 222 #[.val (.int x0), .val (.int y0), .val (.int s0), .val (.int pa), .val (.int pb), .val (.int sl), .val (.int rr), .val (.ref b1), .val (.int (0 : Int32)), .val (.int (0 : Int32)), .val (.int vr14), .val (.int vr18), .val (.int vr22), .val (.int vr26)] [(.int (1 : Int32))]))
        refine own_fs (XS.goto X40.here hx rfl (pc0 := 222) (pc' := 226) rfl (hb hby at_222) (by decide) (by decide) (Steps.refl _)) ?_
        show own_G p.tables e below _ (T40.setTop (mkF m 226 #[.val (.int x0), .val (.int y0), .val (.int s0), .val (.int pa), .val (.int pb), .val (.int sl), .val (.int rr), .val (.ref b1), .val (.int (0 : Int32)), .val (.int (0 : Int32)), .val (.int vr14), .val (.int vr18), .val (.int vr22), .val (.int vr26)] [(.int (1 : Int32))]))
        exact own_retN X40 hx (t := .boolean) Bd.returns hlk (by simp) (hb hby at_226) (by decide) (by decide) e40 ⟨rfl, N40⟩
      · refine own_fs (XS.icmpNo X12.here hx rfl (hb hby at_111) rfl (XT.ii_eq_f hc111) (Steps.refl _)) ?_
        show own_G p.tables e below _ (T12.setTop (mkF m 114 #[.val (.int x0), .val (.int y0), .val (.int s0), .val (.int pa), .val (.int pb), .val (.int sl), .val (.int rr), .val (.ref b1), .val (.int (0 : Int32)), .unset, .unset, .unset, .unset, .unset] []))
        refine own_fs (XS.iconst X12.here hx rfl (hb hby at_114) (Steps.refl _)) ?_
        show own_G p.tables e below _ (T12.setTop (mkF m 115 #[.val (.int x0), .val (.int y0), .val (.int s0), .val (.int pa), .val (.int pb), .val (.int sl), .val (.int rr), .val (.ref b1), .val (.int (0 : Int32)), .unset, .unset, .unset, .unset, .unset] [(.int (1 : Int32))]))
        refine own_fs (XS.goto X12.here hx rfl (pc0 := 115) (pc' := 119) rfl (hb hby at_115) (by decide) (by decide) (Steps.refl _)) ?_
        show own_G p.tables e below _ (T12.setTop (mkF m 119 #[.val (.int x0), .val (.int y0), .val (.int s0), .val (.int pa), .val (.int pb), .val (.int sl), .val (.int rr), .val (.ref b1), .val (.int (0 : Int32)), .unset, .unset, .unset, .unset, .unset] [(.int (1 : Int32))]))
        refine own_fs (XS.istore X12.here hx rfl (hb hby at_119) rfl (l' := #[.val (.int x0), .val (.int y0), .val (.int s0), .val (.int pa), .val (.int pb), .val (.int sl), .val (.int rr), .val (.ref b1), .val (.int (0 : Int32)), .val (.int (1 : Int32)), .unset, .unset, .unset, .unset]) rfl (Steps.refl _)) ?_
        have ia : own_ne pa rr = (0 : Int32) := by simp only [own_ne, hc97, ↓reduceIte]
        have ib : own_ne pb rr = (1 : Int32) := by simp only [own_ne, hc111, ↓reduceIte]
        show own_G p.tables e below _ (T12.setTop (mkF m 121 #[.val (.int x0), .val (.int y0), .val (.int s0), .val (.int pa), .val (.int pb), .val (.int sl), .val (.int rr), .val (.ref b1), .val (.int (0 : Int32)), .val (.int (1 : Int32)), .unset, .unset, .unset, .unset] []))
        refine own_fs (XS.aload X12.here hx rfl (hb hby at_121) rfl rfl (Steps.refl _)) ?_
        show own_G p.tables e below _ (T12.setTop (mkF m 123 #[.val (.int x0), .val (.int y0), .val (.int s0), .val (.int pa), .val (.int pb), .val (.int sl), .val (.int rr), .val (.ref b1), .val (.int (0 : Int32)), .val (.int (1 : Int32)), .unset, .unset, .unset, .unset] [(.ref b1)]))
        refine own_fs (XS.iconst X12.here hx rfl (hb hby at_123) (Steps.refl _)) ?_
        show own_G p.tables e below _ (T12.setTop (mkF m 124 #[.val (.int x0), .val (.int y0), .val (.int s0), .val (.int pa), .val (.int pb), .val (.int sl), .val (.int rr), .val (.ref b1), .val (.int (0 : Int32)), .val (.int (1 : Int32)), .unset, .unset, .unset, .unset] [(.int (0 : Int32)), (.ref b1)]))
        have Zs45 : n0 ≤ h12.size := (Nat.le_trans (Nat.le_trans (Nat.le_trans (Nat.le_trans (Nat.le_trans Z0 E1.1) K3.1) K6.1) K9.1) K12.1)
        obtain ⟨cq44, kq44, q44a, q44b, q44c⟩ := isOf hZ e12 ((((A1.keep K3).keep K6).keep K9).keep K12)
        obtain ⟨_, _, ⟨T44, L44, k44, n44⟩, -, X44, ⟨Lc44, hQ44, l44, y44, z44⟩, st44⟩ := X12.virtualBack hx (y := (⟨"com/example/diligent_tableau/diligenttableau/tableau/Worklist", "next", "(I)I"⟩ : MethodName)) (z := (⟨"com/example/diligent_tableau/diligenttableau/tableau/Worklist", "next", "(I)I"⟩ : MethodName)) hown (mvT hZ (hw _ (List.mem_of_getElem? (i := 29) rfl))) (mvT hZ (hw _ (List.mem_of_getElem? (i := 30) rfl))) (notFace_of_selects (args := #[]) (mvT hZ (hw _ (List.mem_of_getElem? (i := 32) rfl)))) (mvT hZ (hw _ (List.mem_of_getElem? (i := 32) rfl))) (mvT hZ (hw _ (List.mem_of_getElem? (i := 31) rfl))) (by decide) (backOf (W := 0) (own_wnext l Z a0 hw [] b1 (0 : Int32) dd2 kk2 zz2 (own_rem (own_add (own_add own_z pa) pb) rr) h12 n0 Zs45 (P8_0.keep K12 (ninS P8_4 nin0)) P11_0 (own_remz zk2.1 hr) zk2.2.1 zk2.2.2.1 (by decide)) hZ (hw _ (List.mem_of_getElem? (i := 33) rfl)) (hw _ (List.mem_of_getElem? (i := 2) rfl)) (by decide) (by decide)) q44a q44c (g := (mkF m 124 #[.val (.int x0), .val (.int y0), .val (.int s0), .val (.int pa), .val (.int pb), .val (.int sl), .val (.int rr), .val (.ref b1), .val (.int (0 : Int32)), .val (.int (1 : Int32)), .unset, .unset, .unset, .unset] [(.int (0 : Int32)), (.ref b1)])) rfl (by rw [hml]; rfl) (Steps.refl _) (argsL := [(.int (0 : Int32))]) (rest := []) (lenOf own_pd0 rfl) rfl (by show 2 * 0 + _ ≤ _; exact Nat.le_of_eq rfl) (hb hby at_124) (fun _ _ => ⟨rfl, e12, (by decide : 4 + 0 ≤ _), (by decide : 35 + 0 ≤ _)⟩)
        dsimp only [Pt.U, Pt.locs, Pt.cells, Pt.slots] at X44 l44 y44 z44 st44 hQ44
        subst l44 y44 z44
        obtain ⟨vr42, rfl, Nq44, e44, P43_0⟩ := hQ44
        have N44 := Fr.app N12 Nq44
        refine own_fs st44 ?_
        show own_G p.tables e below _ (T44.setTop (mkF m 127 #[.val (.int x0), .val (.int y0), .val (.int s0), .val (.int pa), .val (.int pb), .val (.int sl), .val (.int rr), .val (.ref b1), .val (.int (0 : Int32)), .val (.int (1 : Int32)), .unset, .unset, .unset, .unset] [(.int vr42)]))
        refine own_fs (XS.istore X44.here hx rfl (hb hby at_127) rfl (l' := #[.val (.int x0), .val (.int y0), .val (.int s0), .val (.int pa), .val (.int pb), .val (.int sl), .val (.int rr), .val (.ref b1), .val (.int (0 : Int32)), .val (.int (1 : Int32)), .val (.int vr42), .unset, .unset, .unset]) rfl (Steps.refl _)) ?_
        show own_G p.tables e below _ (T44.setTop (mkF m 129 #[.val (.int x0), .val (.int y0), .val (.int s0), .val (.int pa), .val (.int pb), .val (.int sl), .val (.int rr), .val (.ref b1), .val (.int (0 : Int32)), .val (.int (1 : Int32)), .val (.int vr42), .unset, .unset, .unset] []))
        refine own_fs (XS.aload X44.here hx rfl (hb hby at_129) rfl rfl (Steps.refl _)) ?_
        show own_G p.tables e below _ (T44.setTop (mkF m 131 #[.val (.int x0), .val (.int y0), .val (.int s0), .val (.int pa), .val (.int pb), .val (.int sl), .val (.int rr), .val (.ref b1), .val (.int (0 : Int32)), .val (.int (1 : Int32)), .val (.int vr42), .unset, .unset, .unset] [(.ref b1)]))
        refine own_fs (XS.iload X44.here hx rfl (hb hby at_131) rfl (Steps.refl _)) ?_
        show own_G p.tables e below _ (T44.setTop (mkF m 133 #[.val (.int x0), .val (.int y0), .val (.int s0), .val (.int pa), .val (.int pb), .val (.int sl), .val (.int rr), .val (.ref b1), .val (.int (0 : Int32)), .val (.int (1 : Int32)), .val (.int vr42), .unset, .unset, .unset] [(.int rr), (.ref b1)]))
        have Zs49 : n0 ≤ h12.size := (Nat.le_trans (Nat.le_trans (Nat.le_trans (Nat.le_trans (Nat.le_trans Z0 E1.1) K3.1) K6.1) K9.1) K12.1)
        obtain ⟨cq48, kq48, q48a, q48b, q48c⟩ := isOf hZ e44 ((((A1.keep K3).keep K6).keep K9).keep K12)
        obtain ⟨_, _, ⟨T48, L48, k48, n48⟩, -, X48, ⟨Lc48, hQ48, l48, y48, z48⟩, st48⟩ := X44.virtualBack hx (y := (⟨"com/example/diligent_tableau/diligenttableau/tableau/Worklist", "next", "(I)I"⟩ : MethodName)) (z := (⟨"com/example/diligent_tableau/diligenttableau/tableau/Worklist", "next", "(I)I"⟩ : MethodName)) hown (mvT hZ (hw _ (List.mem_of_getElem? (i := 29) rfl))) (mvT hZ (hw _ (List.mem_of_getElem? (i := 30) rfl))) (notFace_of_selects (args := #[]) (mvT hZ (hw _ (List.mem_of_getElem? (i := 32) rfl)))) (mvT hZ (hw _ (List.mem_of_getElem? (i := 32) rfl))) (mvT hZ (hw _ (List.mem_of_getElem? (i := 31) rfl))) (by decide) (backOf (W := 0) (own_wnext l Z a0 hw [] b1 rr dd2 kk2 zz2 (own_rem (own_add (own_add own_z pa) pb) rr) h12 n0 Zs49 (P8_0.keep K12 (ninS P8_4 nin0)) P11_0 (own_remz zk2.1 hr) zk2.2.1 zk2.2.2.1 hr) hZ (hw _ (List.mem_of_getElem? (i := 33) rfl)) (hw _ (List.mem_of_getElem? (i := 2) rfl)) (by decide) (by decide)) q48a q48c (g := (mkF m 133 #[.val (.int x0), .val (.int y0), .val (.int s0), .val (.int pa), .val (.int pb), .val (.int sl), .val (.int rr), .val (.ref b1), .val (.int (0 : Int32)), .val (.int (1 : Int32)), .val (.int vr42), .unset, .unset, .unset] [(.int rr), (.ref b1)])) rfl (by rw [hml]; rfl) (Steps.refl _) (argsL := [(.int rr)]) (rest := []) (lenOf own_pd0 rfl) rfl (by show 2 * 0 + _ ≤ _; exact Nat.le_of_eq rfl) (hb hby at_133) (fun _ _ => ⟨rfl, e44, (by decide : 4 + 0 ≤ _), (by decide : 35 + 0 ≤ _)⟩)
        dsimp only [Pt.U, Pt.locs, Pt.cells, Pt.slots] at X48 l48 y48 z48 st48 hQ48
        subst l48 y48 z48
        obtain ⟨vr46, rfl, Nq48, e48, P47_0⟩ := hQ48
        have N48 := Fr.app N44 Nq48
        refine own_fs st48 ?_
        show own_G p.tables e below _ (T48.setTop (mkF m 136 #[.val (.int x0), .val (.int y0), .val (.int s0), .val (.int pa), .val (.int pb), .val (.int sl), .val (.int rr), .val (.ref b1), .val (.int (0 : Int32)), .val (.int (1 : Int32)), .val (.int vr42), .unset, .unset, .unset] [(.int vr46)]))
        refine own_fs (XS.istore X48.here hx rfl (hb hby at_136) rfl (l' := #[.val (.int x0), .val (.int y0), .val (.int s0), .val (.int pa), .val (.int pb), .val (.int sl), .val (.int rr), .val (.ref b1), .val (.int (0 : Int32)), .val (.int (1 : Int32)), .val (.int vr42), .val (.int vr46), .unset, .unset]) rfl (Steps.refl _)) ?_
        show own_G p.tables e below _ (T48.setTop (mkF m 138 #[.val (.int x0), .val (.int y0), .val (.int s0), .val (.int pa), .val (.int pb), .val (.int sl), .val (.int rr), .val (.ref b1), .val (.int (0 : Int32)), .val (.int (1 : Int32)), .val (.int vr42), .val (.int vr46), .unset, .unset] []))
        refine own_fs (XS.aload X48.here hx rfl (hb hby at_138) rfl rfl (Steps.refl _)) ?_
        show own_G p.tables e below _ (T48.setTop (mkF m 140 #[.val (.int x0), .val (.int y0), .val (.int s0), .val (.int pa), .val (.int pb), .val (.int sl), .val (.int rr), .val (.ref b1), .val (.int (0 : Int32)), .val (.int (1 : Int32)), .val (.int vr42), .val (.int vr46), .unset, .unset] [(.ref b1)]))
        refine own_fs (XS.iloadN X48.here hx rfl (hb hby at_140) rfl (Steps.refl _)) ?_
        show own_G p.tables e below _ (T48.setTop (mkF m 141 #[.val (.int x0), .val (.int y0), .val (.int s0), .val (.int pa), .val (.int pb), .val (.int sl), .val (.int rr), .val (.ref b1), .val (.int (0 : Int32)), .val (.int (1 : Int32)), .val (.int vr42), .val (.int vr46), .unset, .unset] [(.int pa), (.ref b1)]))
        have Zs53 : n0 ≤ h12.size := (Nat.le_trans (Nat.le_trans (Nat.le_trans (Nat.le_trans (Nat.le_trans Z0 E1.1) K3.1) K6.1) K9.1) K12.1)
        obtain ⟨cq52, kq52, q52a, q52b, q52c⟩ := isOf hZ e48 ((((A1.keep K3).keep K6).keep K9).keep K12)
        obtain ⟨_, _, ⟨T52, L52, k52, n52⟩, -, X52, ⟨Lc52, hQ52, l52, y52, z52⟩, st52⟩ := X48.virtualBack hx (y := (⟨"com/example/diligent_tableau/diligenttableau/tableau/Worklist", "next", "(I)I"⟩ : MethodName)) (z := (⟨"com/example/diligent_tableau/diligenttableau/tableau/Worklist", "next", "(I)I"⟩ : MethodName)) hown (mvT hZ (hw _ (List.mem_of_getElem? (i := 29) rfl))) (mvT hZ (hw _ (List.mem_of_getElem? (i := 30) rfl))) (notFace_of_selects (args := #[]) (mvT hZ (hw _ (List.mem_of_getElem? (i := 32) rfl)))) (mvT hZ (hw _ (List.mem_of_getElem? (i := 32) rfl))) (mvT hZ (hw _ (List.mem_of_getElem? (i := 31) rfl))) (by decide) (backOf (W := 0) (own_wnext l Z a0 hw [] b1 pa dd2 kk2 zz2 (own_rem (own_add (own_add own_z pa) pb) rr) h12 n0 Zs53 (P8_0.keep K12 (ninS P8_4 nin0)) P11_0 (own_remz zk2.1 hr) zk2.2.1 zk2.2.2.1 hA.1) hZ (hw _ (List.mem_of_getElem? (i := 33) rfl)) (hw _ (List.mem_of_getElem? (i := 2) rfl)) (by decide) (by decide)) q52a q52c (g := (mkF m 141 #[.val (.int x0), .val (.int y0), .val (.int s0), .val (.int pa), .val (.int pb), .val (.int sl), .val (.int rr), .val (.ref b1), .val (.int (0 : Int32)), .val (.int (1 : Int32)), .val (.int vr42), .val (.int vr46), .unset, .unset] [(.int pa), (.ref b1)])) rfl (by rw [hml]; rfl) (Steps.refl _) (argsL := [(.int pa)]) (rest := []) (lenOf own_pd0 rfl) rfl (by show 2 * 0 + _ ≤ _; exact Nat.le_of_eq rfl) (hb hby at_141) (fun _ _ => ⟨rfl, e48, (by decide : 4 + 0 ≤ _), (by decide : 35 + 0 ≤ _)⟩)
        dsimp only [Pt.U, Pt.locs, Pt.cells, Pt.slots] at X52 l52 y52 z52 st52 hQ52
        subst l52 y52 z52
        obtain ⟨vr50, rfl, Nq52, e52, P51_0⟩ := hQ52
        have N52 := Fr.app N48 Nq52
        refine own_fs st52 ?_
        show own_G p.tables e below _ (T52.setTop (mkF m 144 #[.val (.int x0), .val (.int y0), .val (.int s0), .val (.int pa), .val (.int pb), .val (.int sl), .val (.int rr), .val (.ref b1), .val (.int (0 : Int32)), .val (.int (1 : Int32)), .val (.int vr42), .val (.int vr46), .unset, .unset] [(.int vr50)]))
        refine own_fs (XS.istore X52.here hx rfl (hb hby at_144) rfl (l' := #[.val (.int x0), .val (.int y0), .val (.int s0), .val (.int pa), .val (.int pb), .val (.int sl), .val (.int rr), .val (.ref b1), .val (.int (0 : Int32)), .val (.int (1 : Int32)), .val (.int vr42), .val (.int vr46), .val (.int vr50), .unset]) rfl (Steps.refl _)) ?_
        show own_G p.tables e below _ (T52.setTop (mkF m 146 #[.val (.int x0), .val (.int y0), .val (.int s0), .val (.int pa), .val (.int pb), .val (.int sl), .val (.int rr), .val (.ref b1), .val (.int (0 : Int32)), .val (.int (1 : Int32)), .val (.int vr42), .val (.int vr46), .val (.int vr50), .unset] []))
        refine own_fs (XS.aload X52.here hx rfl (hb hby at_146) rfl rfl (Steps.refl _)) ?_
        show own_G p.tables e below _ (T52.setTop (mkF m 148 #[.val (.int x0), .val (.int y0), .val (.int s0), .val (.int pa), .val (.int pb), .val (.int sl), .val (.int rr), .val (.ref b1), .val (.int (0 : Int32)), .val (.int (1 : Int32)), .val (.int vr42), .val (.int vr46), .val (.int vr50), .unset] [(.ref b1)]))
        refine own_fs (XS.iload X52.here hx rfl (hb hby at_148) rfl (Steps.refl _)) ?_
        show own_G p.tables e below _ (T52.setTop (mkF m 150 #[.val (.int x0), .val (.int y0), .val (.int s0), .val (.int pa), .val (.int pb), .val (.int sl), .val (.int rr), .val (.ref b1), .val (.int (0 : Int32)), .val (.int (1 : Int32)), .val (.int vr42), .val (.int vr46), .val (.int vr50), .unset] [(.int pb), (.ref b1)]))
        have Zs57 : n0 ≤ h12.size := (Nat.le_trans (Nat.le_trans (Nat.le_trans (Nat.le_trans (Nat.le_trans Z0 E1.1) K3.1) K6.1) K9.1) K12.1)
        obtain ⟨cq56, kq56, q56a, q56b, q56c⟩ := isOf hZ e52 ((((A1.keep K3).keep K6).keep K9).keep K12)
        obtain ⟨_, _, ⟨T56, L56, k56, n56⟩, -, X56, ⟨Lc56, hQ56, l56, y56, z56⟩, st56⟩ := X52.virtualBack hx (y := (⟨"com/example/diligent_tableau/diligenttableau/tableau/Worklist", "next", "(I)I"⟩ : MethodName)) (z := (⟨"com/example/diligent_tableau/diligenttableau/tableau/Worklist", "next", "(I)I"⟩ : MethodName)) hown (mvT hZ (hw _ (List.mem_of_getElem? (i := 29) rfl))) (mvT hZ (hw _ (List.mem_of_getElem? (i := 30) rfl))) (notFace_of_selects (args := #[]) (mvT hZ (hw _ (List.mem_of_getElem? (i := 32) rfl)))) (mvT hZ (hw _ (List.mem_of_getElem? (i := 32) rfl))) (mvT hZ (hw _ (List.mem_of_getElem? (i := 31) rfl))) (by decide) (backOf (W := 0) (own_wnext l Z a0 hw [] b1 pb dd2 kk2 zz2 (own_rem (own_add (own_add own_z pa) pb) rr) h12 n0 Zs57 (P8_0.keep K12 (ninS P8_4 nin0)) P11_0 (own_remz zk2.1 hr) zk2.2.1 zk2.2.2.1 hB.1) hZ (hw _ (List.mem_of_getElem? (i := 33) rfl)) (hw _ (List.mem_of_getElem? (i := 2) rfl)) (by decide) (by decide)) q56a q56c (g := (mkF m 150 #[.val (.int x0), .val (.int y0), .val (.int s0), .val (.int pa), .val (.int pb), .val (.int sl), .val (.int rr), .val (.ref b1), .val (.int (0 : Int32)), .val (.int (1 : Int32)), .val (.int vr42), .val (.int vr46), .val (.int vr50), .unset] [(.int pb), (.ref b1)])) rfl (by rw [hml]; rfl) (Steps.refl _) (argsL := [(.int pb)]) (rest := []) (lenOf own_pd0 rfl) rfl (by show 2 * 0 + _ ≤ _; exact Nat.le_of_eq rfl) (hb hby at_150) (fun _ _ => ⟨rfl, e52, (by decide : 4 + 0 ≤ _), (by decide : 35 + 0 ≤ _)⟩)
        dsimp only [Pt.U, Pt.locs, Pt.cells, Pt.slots] at X56 l56 y56 z56 st56 hQ56
        subst l56 y56 z56
        obtain ⟨vr54, rfl, Nq56, e56, P55_0⟩ := hQ56
        have N56 := Fr.app N52 Nq56
        refine own_fs st56 ?_
        show own_G p.tables e below _ (T56.setTop (mkF m 153 #[.val (.int x0), .val (.int y0), .val (.int s0), .val (.int pa), .val (.int pb), .val (.int sl), .val (.int rr), .val (.ref b1), .val (.int (0 : Int32)), .val (.int (1 : Int32)), .val (.int vr42), .val (.int vr46), .val (.int vr50), .unset] [(.int vr54)]))
        refine own_fs (XS.istore X56.here hx rfl (hb hby at_153) rfl (l' := #[.val (.int x0), .val (.int y0), .val (.int s0), .val (.int pa), .val (.int pb), .val (.int sl), .val (.int rr), .val (.ref b1), .val (.int (0 : Int32)), .val (.int (1 : Int32)), .val (.int vr42), .val (.int vr46), .val (.int vr50), .val (.int vr54)]) rfl (Steps.refl _)) ?_
        show own_G p.tables e below _ (T56.setTop (mkF m 155 #[.val (.int x0), .val (.int y0), .val (.int s0), .val (.int pa), .val (.int pb), .val (.int sl), .val (.int rr), .val (.ref b1), .val (.int (0 : Int32)), .val (.int (1 : Int32)), .val (.int vr42), .val (.int vr46), .val (.int vr50), .val (.int vr54)] []))
        refine own_fs (XS.iload X56.here hx rfl (hb hby at_155) rfl (Steps.refl _)) ?_
        show own_G p.tables e below _ (T56.setTop (mkF m 157 #[.val (.int x0), .val (.int y0), .val (.int s0), .val (.int pa), .val (.int pb), .val (.int sl), .val (.int rr), .val (.ref b1), .val (.int (0 : Int32)), .val (.int (1 : Int32)), .val (.int vr42), .val (.int vr46), .val (.int vr50), .val (.int vr54)] [(.int vr42)]))
        refine own_fs (XS.iconst X56.here hx rfl (hb hby at_157) (Steps.refl _)) ?_
        show own_G p.tables e below _ (T56.setTop (mkF m 158 #[.val (.int x0), .val (.int y0), .val (.int s0), .val (.int pa), .val (.int pb), .val (.int sl), .val (.int rr), .val (.ref b1), .val (.int (0 : Int32)), .val (.int (1 : Int32)), .val (.int vr42), .val (.int vr46), .val (.int vr50), .val (.int vr54)] [(.int (0 : Int32)), (.int vr42)]))
        refine own_fs (XS.iloadN X56.here hx rfl (hb hby at_158) rfl (Steps.refl _)) ?_
        show own_G p.tables e below _ (T56.setTop (mkF m 159 #[.val (.int x0), .val (.int y0), .val (.int s0), .val (.int pa), .val (.int pb), .val (.int sl), .val (.int rr), .val (.ref b1), .val (.int (0 : Int32)), .val (.int (1 : Int32)), .val (.int vr42), .val (.int vr46), .val (.int vr50), .val (.int vr54)] [(.int pa), (.int (0 : Int32)), (.int vr42)]))
        refine own_fs (XS.iload X56.here hx rfl (hb hby at_159) rfl (Steps.refl _)) ?_
        show own_G p.tables e below _ (T56.setTop (mkF m 161 #[.val (.int x0), .val (.int y0), .val (.int s0), .val (.int pa), .val (.int pb), .val (.int sl), .val (.int rr), .val (.ref b1), .val (.int (0 : Int32)), .val (.int (1 : Int32)), .val (.int vr42), .val (.int vr46), .val (.int vr50), .val (.int vr54)] [(.int (0 : Int32)), (.int pa), (.int (0 : Int32)), (.int vr42)]))
        refine own_fs (XS.iload X56.here hx rfl (hb hby at_161) rfl (Steps.refl _)) ?_
        show own_G p.tables e below _ (T56.setTop (mkF m 163 #[.val (.int x0), .val (.int y0), .val (.int s0), .val (.int pa), .val (.int pb), .val (.int sl), .val (.int rr), .val (.ref b1), .val (.int (0 : Int32)), .val (.int (1 : Int32)), .val (.int vr42), .val (.int vr46), .val (.int vr50), .val (.int vr54)] [(.int pb), (.int (0 : Int32)), (.int pa), (.int (0 : Int32)), (.int vr42)]))
        refine own_fs (XS.iload X56.here hx rfl (hb hby at_163) rfl (Steps.refl _)) ?_
        show own_G p.tables e below _ (T56.setTop (mkF m 165 #[.val (.int x0), .val (.int y0), .val (.int s0), .val (.int pa), .val (.int pb), .val (.int sl), .val (.int rr), .val (.ref b1), .val (.int (0 : Int32)), .val (.int (1 : Int32)), .val (.int vr42), .val (.int vr46), .val (.int vr50), .val (.int vr54)] [(.int (1 : Int32)), (.int pb), (.int (0 : Int32)), (.int pa), (.int (0 : Int32)), (.int vr42)]))
        have Zs60 : n0 ≤ h12.size := (Nat.le_trans (Nat.le_trans (Nat.le_trans (Nat.le_trans (Nat.le_trans Z0 E1.1) K3.1) K6.1) K9.1) K12.1)
        obtain ⟨_, _, ⟨T59, L59, k59, n59⟩, -, X59, ⟨Lc59, hQ59, l59, y59, z59⟩, st59⟩ := Jvm.LawKit.callS X56 hx (y := (⟨"com/example/diligent_tableau/diligenttableau/tableau/WorklistRemovePinLaw", "least", "(IIZIZ)I"⟩ : MethodName)) hown (mvT hZ (hw _ (List.mem_of_getElem? (i := 43) rfl))) (mvT hZ (hw _ (List.mem_of_getElem? (i := 44) rfl))) (mvT hZ (hw _ (List.mem_of_getElem? (i := 45) rfl))) (mvT hZ (hw _ (List.mem_of_getElem? (i := 46) rfl))) (by decide) (backOf (W := 1) (own_rleast l Z a0 hw [] (0 : Int32) pa (0 : Int32) pb (1 : Int32) h12 n0 Zs60 hA.1) hZ (hw _ (List.mem_of_getElem? (i := 46) rfl)) (hw _ (List.mem_of_getElem? (i := 45) rfl)) (by decide) (by decide)) (g := (mkF m 165 #[.val (.int x0), .val (.int y0), .val (.int s0), .val (.int pa), .val (.int pb), .val (.int sl), .val (.int rr), .val (.ref b1), .val (.int (0 : Int32)), .val (.int (1 : Int32)), .val (.int vr42), .val (.int vr46), .val (.int vr50), .val (.int vr54)] [(.int (1 : Int32)), (.int pb), (.int (0 : Int32)), (.int pa), (.int (0 : Int32)), (.int vr42)])) rfl (by rw [hml]; rfl) (argsL := [(.int (0 : Int32)), (.int pa), (.int (0 : Int32)), (.int pb), (.int (1 : Int32))]) (rest := [(.int vr42)]) (lenOf own_pd6 rfl) rfl (by show 2 * 0 + _ ≤ _; exact Nat.le_of_eq rfl) (hb hby at_165) (fun _ _ => ⟨rfl, e56, (by decide : 4 + 0 ≤ _), (by decide : 35 + 0 ≤ _)⟩)
        dsimp only [Pt.U, Pt.locs, Pt.cells, Pt.slots] at X59 l59 y59 z59 st59 hQ59
        subst l59 y59 z59
        obtain ⟨rfl, Nq59, e59⟩ := hQ59
        have N59 := Fr.app N56 Nq59
        refine own_fs (st59 _ (Steps.refl _)) ?_
        show own_G p.tables e below _ (T59.setTop (mkF m 168 #[.val (.int x0), .val (.int y0), .val (.int s0), .val (.int pa), .val (.int pb), .val (.int sl), .val (.int rr), .val (.ref b1), .val (.int (0 : Int32)), .val (.int (1 : Int32)), .val (.int vr42), .val (.int vr46), .val (.int vr50), .val (.int vr54)] [(.int (own_least (0 : Int32) pa (0 : Int32) pb (1 : Int32))), (.int vr42)]))
        refine own_fs (XS.icmpNo X59.here hx rfl (hb hby at_168) rfl (XT.ii_ne_f (own_fin hA.1 hB.1 hr ia ib (by decide) P43_0)) (Steps.refl _)) ?_
        show own_G p.tables e below _ (T59.setTop (mkF m 171 #[.val (.int x0), .val (.int y0), .val (.int s0), .val (.int pa), .val (.int pb), .val (.int sl), .val (.int rr), .val (.ref b1), .val (.int (0 : Int32)), .val (.int (1 : Int32)), .val (.int vr42), .val (.int vr46), .val (.int vr50), .val (.int vr54)] []))
        refine own_fs (XS.iload X59.here hx rfl (hb hby at_171) rfl (Steps.refl _)) ?_
        show own_G p.tables e below _ (T59.setTop (mkF m 173 #[.val (.int x0), .val (.int y0), .val (.int s0), .val (.int pa), .val (.int pb), .val (.int sl), .val (.int rr), .val (.ref b1), .val (.int (0 : Int32)), .val (.int (1 : Int32)), .val (.int vr42), .val (.int vr46), .val (.int vr50), .val (.int vr54)] [(.int vr46)]))
        refine own_fs (XS.iload X59.here hx rfl (hb hby at_173) rfl (Steps.refl _)) ?_
        show own_G p.tables e below _ (T59.setTop (mkF m 175 #[.val (.int x0), .val (.int y0), .val (.int s0), .val (.int pa), .val (.int pb), .val (.int sl), .val (.int rr), .val (.ref b1), .val (.int (0 : Int32)), .val (.int (1 : Int32)), .val (.int vr42), .val (.int vr46), .val (.int vr50), .val (.int vr54)] [(.int rr), (.int vr46)]))
        refine own_fs (XS.iloadN X59.here hx rfl (hb hby at_175) rfl (Steps.refl _)) ?_
        show own_G p.tables e below _ (T59.setTop (mkF m 176 #[.val (.int x0), .val (.int y0), .val (.int s0), .val (.int pa), .val (.int pb), .val (.int sl), .val (.int rr), .val (.ref b1), .val (.int (0 : Int32)), .val (.int (1 : Int32)), .val (.int vr42), .val (.int vr46), .val (.int vr50), .val (.int vr54)] [(.int pa), (.int rr), (.int vr46)]))
        refine own_fs (XS.iload X59.here hx rfl (hb hby at_176) rfl (Steps.refl _)) ?_
        show own_G p.tables e below _ (T59.setTop (mkF m 178 #[.val (.int x0), .val (.int y0), .val (.int s0), .val (.int pa), .val (.int pb), .val (.int sl), .val (.int rr), .val (.ref b1), .val (.int (0 : Int32)), .val (.int (1 : Int32)), .val (.int vr42), .val (.int vr46), .val (.int vr50), .val (.int vr54)] [(.int (0 : Int32)), (.int pa), (.int rr), (.int vr46)]))
        refine own_fs (XS.iload X59.here hx rfl (hb hby at_178) rfl (Steps.refl _)) ?_
        show own_G p.tables e below _ (T59.setTop (mkF m 180 #[.val (.int x0), .val (.int y0), .val (.int s0), .val (.int pa), .val (.int pb), .val (.int sl), .val (.int rr), .val (.ref b1), .val (.int (0 : Int32)), .val (.int (1 : Int32)), .val (.int vr42), .val (.int vr46), .val (.int vr50), .val (.int vr54)] [(.int pb), (.int (0 : Int32)), (.int pa), (.int rr), (.int vr46)]))
        refine own_fs (XS.iload X59.here hx rfl (hb hby at_180) rfl (Steps.refl _)) ?_
        show own_G p.tables e below _ (T59.setTop (mkF m 182 #[.val (.int x0), .val (.int y0), .val (.int s0), .val (.int pa), .val (.int pb), .val (.int sl), .val (.int rr), .val (.ref b1), .val (.int (0 : Int32)), .val (.int (1 : Int32)), .val (.int vr42), .val (.int vr46), .val (.int vr50), .val (.int vr54)] [(.int (1 : Int32)), (.int pb), (.int (0 : Int32)), (.int pa), (.int rr), (.int vr46)]))
        have Zs63 : n0 ≤ h12.size := (Nat.le_trans (Nat.le_trans (Nat.le_trans (Nat.le_trans (Nat.le_trans Z0 E1.1) K3.1) K6.1) K9.1) K12.1)
        obtain ⟨_, _, ⟨T62, L62, k62, n62⟩, -, X62, ⟨Lc62, hQ62, l62, y62, z62⟩, st62⟩ := Jvm.LawKit.callS X59 hx (y := (⟨"com/example/diligent_tableau/diligenttableau/tableau/WorklistRemovePinLaw", "least", "(IIZIZ)I"⟩ : MethodName)) hown (mvT hZ (hw _ (List.mem_of_getElem? (i := 43) rfl))) (mvT hZ (hw _ (List.mem_of_getElem? (i := 44) rfl))) (mvT hZ (hw _ (List.mem_of_getElem? (i := 45) rfl))) (mvT hZ (hw _ (List.mem_of_getElem? (i := 46) rfl))) (by decide) (backOf (W := 1) (own_rleast l Z a0 hw [] rr pa (0 : Int32) pb (1 : Int32) h12 n0 Zs63 hA.1) hZ (hw _ (List.mem_of_getElem? (i := 46) rfl)) (hw _ (List.mem_of_getElem? (i := 45) rfl)) (by decide) (by decide)) (g := (mkF m 182 #[.val (.int x0), .val (.int y0), .val (.int s0), .val (.int pa), .val (.int pb), .val (.int sl), .val (.int rr), .val (.ref b1), .val (.int (0 : Int32)), .val (.int (1 : Int32)), .val (.int vr42), .val (.int vr46), .val (.int vr50), .val (.int vr54)] [(.int (1 : Int32)), (.int pb), (.int (0 : Int32)), (.int pa), (.int rr), (.int vr46)])) rfl (by rw [hml]; rfl) (argsL := [(.int rr), (.int pa), (.int (0 : Int32)), (.int pb), (.int (1 : Int32))]) (rest := [(.int vr46)]) (lenOf own_pd6 rfl) rfl (by show 2 * 0 + _ ≤ _; exact Nat.le_of_eq rfl) (hb hby at_182) (fun _ _ => ⟨rfl, e59, (by decide : 4 + 0 ≤ _), (by decide : 35 + 0 ≤ _)⟩)
        dsimp only [Pt.U, Pt.locs, Pt.cells, Pt.slots] at X62 l62 y62 z62 st62 hQ62
        subst l62 y62 z62
        obtain ⟨rfl, Nq62, e62⟩ := hQ62
        have N62 := Fr.app N59 Nq62
        refine own_fs (st62 _ (Steps.refl _)) ?_
        show own_G p.tables e below _ (T62.setTop (mkF m 185 #[.val (.int x0), .val (.int y0), .val (.int s0), .val (.int pa), .val (.int pb), .val (.int sl), .val (.int rr), .val (.ref b1), .val (.int (0 : Int32)), .val (.int (1 : Int32)), .val (.int vr42), .val (.int vr46), .val (.int vr50), .val (.int vr54)] [(.int (own_least rr pa (0 : Int32) pb (1 : Int32))), (.int vr46)]))
        refine own_fs (XS.icmpNo X62.here hx rfl (hb hby at_185) rfl (XT.ii_ne_f (own_fin hA.1 hB.1 hr ia ib hr P47_0)) (Steps.refl _)) ?_
        show own_G p.tables e below _ (T62.setTop (mkF m 188 #[.val (.int x0), .val (.int y0), .val (.int s0), .val (.int pa), .val (.int pb), .val (.int sl), .val (.int rr), .val (.ref b1), .val (.int (0 : Int32)), .val (.int (1 : Int32)), .val (.int vr42), .val (.int vr46), .val (.int vr50), .val (.int vr54)] []))
        refine own_fs (XS.iload X62.here hx rfl (hb hby at_188) rfl (Steps.refl _)) ?_
        show own_G p.tables e below _ (T62.setTop (mkF m 190 #[.val (.int x0), .val (.int y0), .val (.int s0), .val (.int pa), .val (.int pb), .val (.int sl), .val (.int rr), .val (.ref b1), .val (.int (0 : Int32)), .val (.int (1 : Int32)), .val (.int vr42), .val (.int vr46), .val (.int vr50), .val (.int vr54)] [(.int vr50)]))
        refine own_fs (XS.iloadN X62.here hx rfl (hb hby at_190) rfl (Steps.refl _)) ?_
        show own_G p.tables e below _ (T62.setTop (mkF m 191 #[.val (.int x0), .val (.int y0), .val (.int s0), .val (.int pa), .val (.int pb), .val (.int sl), .val (.int rr), .val (.ref b1), .val (.int (0 : Int32)), .val (.int (1 : Int32)), .val (.int vr42), .val (.int vr46), .val (.int vr50), .val (.int vr54)] [(.int pa), (.int vr50)]))
        refine own_fs (XS.iloadN X62.here hx rfl (hb hby at_191) rfl (Steps.refl _)) ?_
        show own_G p.tables e below _ (T62.setTop (mkF m 192 #[.val (.int x0), .val (.int y0), .val (.int s0), .val (.int pa), .val (.int pb), .val (.int sl), .val (.int rr), .val (.ref b1), .val (.int (0 : Int32)), .val (.int (1 : Int32)), .val (.int vr42), .val (.int vr46), .val (.int vr50), .val (.int vr54)] [(.int pa), (.int pa), (.int vr50)]))
        refine own_fs (XS.iload X62.here hx rfl (hb hby at_192) rfl (Steps.refl _)) ?_
        show own_G p.tables e below _ (T62.setTop (mkF m 194 #[.val (.int x0), .val (.int y0), .val (.int s0), .val (.int pa), .val (.int pb), .val (.int sl), .val (.int rr), .val (.ref b1), .val (.int (0 : Int32)), .val (.int (1 : Int32)), .val (.int vr42), .val (.int vr46), .val (.int vr50), .val (.int vr54)] [(.int (0 : Int32)), (.int pa), (.int pa), (.int vr50)]))
        refine own_fs (XS.iload X62.here hx rfl (hb hby at_194) rfl (Steps.refl _)) ?_
        show own_G p.tables e below _ (T62.setTop (mkF m 196 #[.val (.int x0), .val (.int y0), .val (.int s0), .val (.int pa), .val (.int pb), .val (.int sl), .val (.int rr), .val (.ref b1), .val (.int (0 : Int32)), .val (.int (1 : Int32)), .val (.int vr42), .val (.int vr46), .val (.int vr50), .val (.int vr54)] [(.int pb), (.int (0 : Int32)), (.int pa), (.int pa), (.int vr50)]))
        refine own_fs (XS.iload X62.here hx rfl (hb hby at_196) rfl (Steps.refl _)) ?_
        show own_G p.tables e below _ (T62.setTop (mkF m 198 #[.val (.int x0), .val (.int y0), .val (.int s0), .val (.int pa), .val (.int pb), .val (.int sl), .val (.int rr), .val (.ref b1), .val (.int (0 : Int32)), .val (.int (1 : Int32)), .val (.int vr42), .val (.int vr46), .val (.int vr50), .val (.int vr54)] [(.int (1 : Int32)), (.int pb), (.int (0 : Int32)), (.int pa), (.int pa), (.int vr50)]))
        have Zs66 : n0 ≤ h12.size := (Nat.le_trans (Nat.le_trans (Nat.le_trans (Nat.le_trans (Nat.le_trans Z0 E1.1) K3.1) K6.1) K9.1) K12.1)
        obtain ⟨_, _, ⟨T65, L65, k65, n65⟩, -, X65, ⟨Lc65, hQ65, l65, y65, z65⟩, st65⟩ := Jvm.LawKit.callS X62 hx (y := (⟨"com/example/diligent_tableau/diligenttableau/tableau/WorklistRemovePinLaw", "least", "(IIZIZ)I"⟩ : MethodName)) hown (mvT hZ (hw _ (List.mem_of_getElem? (i := 43) rfl))) (mvT hZ (hw _ (List.mem_of_getElem? (i := 44) rfl))) (mvT hZ (hw _ (List.mem_of_getElem? (i := 45) rfl))) (mvT hZ (hw _ (List.mem_of_getElem? (i := 46) rfl))) (by decide) (backOf (W := 1) (own_rleast l Z a0 hw [] pa pa (0 : Int32) pb (1 : Int32) h12 n0 Zs66 hA.1) hZ (hw _ (List.mem_of_getElem? (i := 46) rfl)) (hw _ (List.mem_of_getElem? (i := 45) rfl)) (by decide) (by decide)) (g := (mkF m 198 #[.val (.int x0), .val (.int y0), .val (.int s0), .val (.int pa), .val (.int pb), .val (.int sl), .val (.int rr), .val (.ref b1), .val (.int (0 : Int32)), .val (.int (1 : Int32)), .val (.int vr42), .val (.int vr46), .val (.int vr50), .val (.int vr54)] [(.int (1 : Int32)), (.int pb), (.int (0 : Int32)), (.int pa), (.int pa), (.int vr50)])) rfl (by rw [hml]; rfl) (argsL := [(.int pa), (.int pa), (.int (0 : Int32)), (.int pb), (.int (1 : Int32))]) (rest := [(.int vr50)]) (lenOf own_pd6 rfl) rfl (by show 2 * 0 + _ ≤ _; exact Nat.le_of_eq rfl) (hb hby at_198) (fun _ _ => ⟨rfl, e62, (by decide : 4 + 0 ≤ _), (by decide : 35 + 0 ≤ _)⟩)
        dsimp only [Pt.U, Pt.locs, Pt.cells, Pt.slots] at X65 l65 y65 z65 st65 hQ65
        subst l65 y65 z65
        obtain ⟨rfl, Nq65, e65⟩ := hQ65
        have N65 := Fr.app N62 Nq65
        refine own_fs (st65 _ (Steps.refl _)) ?_
        show own_G p.tables e below _ (T65.setTop (mkF m 201 #[.val (.int x0), .val (.int y0), .val (.int s0), .val (.int pa), .val (.int pb), .val (.int sl), .val (.int rr), .val (.ref b1), .val (.int (0 : Int32)), .val (.int (1 : Int32)), .val (.int vr42), .val (.int vr46), .val (.int vr50), .val (.int vr54)] [(.int (own_least pa pa (0 : Int32) pb (1 : Int32))), (.int vr50)]))
        refine own_fs (XS.icmpNo X65.here hx rfl (hb hby at_201) rfl (XT.ii_ne_f (own_fin hA.1 hB.1 hr ia ib hA.1 P51_0)) (Steps.refl _)) ?_
        show own_G p.tables e below _ (T65.setTop (mkF m 204 #[.val (.int x0), .val (.int y0), .val (.int s0), .val (.int pa), .val (.int pb), .val (.int sl), .val (.int rr), .val (.ref b1), .val (.int (0 : Int32)), .val (.int (1 : Int32)), .val (.int vr42), .val (.int vr46), .val (.int vr50), .val (.int vr54)] []))
        refine own_fs (XS.iload X65.here hx rfl (hb hby at_204) rfl (Steps.refl _)) ?_
        show own_G p.tables e below _ (T65.setTop (mkF m 206 #[.val (.int x0), .val (.int y0), .val (.int s0), .val (.int pa), .val (.int pb), .val (.int sl), .val (.int rr), .val (.ref b1), .val (.int (0 : Int32)), .val (.int (1 : Int32)), .val (.int vr42), .val (.int vr46), .val (.int vr50), .val (.int vr54)] [(.int vr54)]))
        refine own_fs (XS.iload X65.here hx rfl (hb hby at_206) rfl (Steps.refl _)) ?_
        show own_G p.tables e below _ (T65.setTop (mkF m 208 #[.val (.int x0), .val (.int y0), .val (.int s0), .val (.int pa), .val (.int pb), .val (.int sl), .val (.int rr), .val (.ref b1), .val (.int (0 : Int32)), .val (.int (1 : Int32)), .val (.int vr42), .val (.int vr46), .val (.int vr50), .val (.int vr54)] [(.int pb), (.int vr54)]))
        refine own_fs (XS.iloadN X65.here hx rfl (hb hby at_208) rfl (Steps.refl _)) ?_
        show own_G p.tables e below _ (T65.setTop (mkF m 209 #[.val (.int x0), .val (.int y0), .val (.int s0), .val (.int pa), .val (.int pb), .val (.int sl), .val (.int rr), .val (.ref b1), .val (.int (0 : Int32)), .val (.int (1 : Int32)), .val (.int vr42), .val (.int vr46), .val (.int vr50), .val (.int vr54)] [(.int pa), (.int pb), (.int vr54)]))
        refine own_fs (XS.iload X65.here hx rfl (hb hby at_209) rfl (Steps.refl _)) ?_
        show own_G p.tables e below _ (T65.setTop (mkF m 211 #[.val (.int x0), .val (.int y0), .val (.int s0), .val (.int pa), .val (.int pb), .val (.int sl), .val (.int rr), .val (.ref b1), .val (.int (0 : Int32)), .val (.int (1 : Int32)), .val (.int vr42), .val (.int vr46), .val (.int vr50), .val (.int vr54)] [(.int (0 : Int32)), (.int pa), (.int pb), (.int vr54)]))
        refine own_fs (XS.iload X65.here hx rfl (hb hby at_211) rfl (Steps.refl _)) ?_
        show own_G p.tables e below _ (T65.setTop (mkF m 213 #[.val (.int x0), .val (.int y0), .val (.int s0), .val (.int pa), .val (.int pb), .val (.int sl), .val (.int rr), .val (.ref b1), .val (.int (0 : Int32)), .val (.int (1 : Int32)), .val (.int vr42), .val (.int vr46), .val (.int vr50), .val (.int vr54)] [(.int pb), (.int (0 : Int32)), (.int pa), (.int pb), (.int vr54)]))
        refine own_fs (XS.iload X65.here hx rfl (hb hby at_213) rfl (Steps.refl _)) ?_
        show own_G p.tables e below _ (T65.setTop (mkF m 215 #[.val (.int x0), .val (.int y0), .val (.int s0), .val (.int pa), .val (.int pb), .val (.int sl), .val (.int rr), .val (.ref b1), .val (.int (0 : Int32)), .val (.int (1 : Int32)), .val (.int vr42), .val (.int vr46), .val (.int vr50), .val (.int vr54)] [(.int (1 : Int32)), (.int pb), (.int (0 : Int32)), (.int pa), (.int pb), (.int vr54)]))
        have Zs69 : n0 ≤ h12.size := (Nat.le_trans (Nat.le_trans (Nat.le_trans (Nat.le_trans (Nat.le_trans Z0 E1.1) K3.1) K6.1) K9.1) K12.1)
        obtain ⟨_, _, ⟨T68, L68, k68, n68⟩, -, X68, ⟨Lc68, hQ68, l68, y68, z68⟩, st68⟩ := Jvm.LawKit.callS X65 hx (y := (⟨"com/example/diligent_tableau/diligenttableau/tableau/WorklistRemovePinLaw", "least", "(IIZIZ)I"⟩ : MethodName)) hown (mvT hZ (hw _ (List.mem_of_getElem? (i := 43) rfl))) (mvT hZ (hw _ (List.mem_of_getElem? (i := 44) rfl))) (mvT hZ (hw _ (List.mem_of_getElem? (i := 45) rfl))) (mvT hZ (hw _ (List.mem_of_getElem? (i := 46) rfl))) (by decide) (backOf (W := 1) (own_rleast l Z a0 hw [] pb pa (0 : Int32) pb (1 : Int32) h12 n0 Zs69 hA.1) hZ (hw _ (List.mem_of_getElem? (i := 46) rfl)) (hw _ (List.mem_of_getElem? (i := 45) rfl)) (by decide) (by decide)) (g := (mkF m 215 #[.val (.int x0), .val (.int y0), .val (.int s0), .val (.int pa), .val (.int pb), .val (.int sl), .val (.int rr), .val (.ref b1), .val (.int (0 : Int32)), .val (.int (1 : Int32)), .val (.int vr42), .val (.int vr46), .val (.int vr50), .val (.int vr54)] [(.int (1 : Int32)), (.int pb), (.int (0 : Int32)), (.int pa), (.int pb), (.int vr54)])) rfl (by rw [hml]; rfl) (argsL := [(.int pb), (.int pa), (.int (0 : Int32)), (.int pb), (.int (1 : Int32))]) (rest := [(.int vr54)]) (lenOf own_pd6 rfl) rfl (by show 2 * 0 + _ ≤ _; exact Nat.le_of_eq rfl) (hb hby at_215) (fun _ _ => ⟨rfl, e65, (by decide : 4 + 0 ≤ _), (by decide : 35 + 0 ≤ _)⟩)
        dsimp only [Pt.U, Pt.locs, Pt.cells, Pt.slots] at X68 l68 y68 z68 st68 hQ68
        subst l68 y68 z68
        obtain ⟨rfl, Nq68, e68⟩ := hQ68
        have N68 := Fr.app N65 Nq68
        refine own_fs (st68 _ (Steps.refl _)) ?_
        show own_G p.tables e below _ (T68.setTop (mkF m 218 #[.val (.int x0), .val (.int y0), .val (.int s0), .val (.int pa), .val (.int pb), .val (.int sl), .val (.int rr), .val (.ref b1), .val (.int (0 : Int32)), .val (.int (1 : Int32)), .val (.int vr42), .val (.int vr46), .val (.int vr50), .val (.int vr54)] [(.int (own_least pb pa (0 : Int32) pb (1 : Int32))), (.int vr54)]))
        refine own_fs (XS.icmpNo X68.here hx rfl (hb hby at_218) rfl (XT.ii_ne_f (own_fin hA.1 hB.1 hr ia ib hB.1 P55_0)) (Steps.refl _)) ?_
        show own_G p.tables e below _ (T68.setTop (mkF m 221 #[.val (.int x0), .val (.int y0), .val (.int s0), .val (.int pa), .val (.int pb), .val (.int sl), .val (.int rr), .val (.ref b1), .val (.int (0 : Int32)), .val (.int (1 : Int32)), .val (.int vr42), .val (.int vr46), .val (.int vr50), .val (.int vr54)] []))
        refine own_fs (XS.iconst X68.here hx rfl (hb hby at_221) (Steps.refl _)) ?_
        show own_G p.tables e below _ (T68.setTop (mkF m 222 #[.val (.int x0), .val (.int y0), .val (.int s0), .val (.int pa), .val (.int pb), .val (.int sl), .val (.int rr), .val (.ref b1), .val (.int (0 : Int32)), .val (.int (1 : Int32)), .val (.int vr42), .val (.int vr46), .val (.int vr50), .val (.int vr54)] [(.int (1 : Int32))]))
        refine own_fs (XS.goto X68.here hx rfl (pc0 := 222) (pc' := 226) rfl (hb hby at_222) (by decide) (by decide) (Steps.refl _)) ?_
        show own_G p.tables e below _ (T68.setTop (mkF m 226 #[.val (.int x0), .val (.int y0), .val (.int s0), .val (.int pa), .val (.int pb), .val (.int sl), .val (.int rr), .val (.ref b1), .val (.int (0 : Int32)), .val (.int (1 : Int32)), .val (.int vr42), .val (.int vr46), .val (.int vr50), .val (.int vr54)] [(.int (1 : Int32))]))
        exact own_retN X68 hx (t := .boolean) Bd.returns hlk (by simp) (hb hby at_226) (by decide) (by decide) e68 ⟨rfl, N68⟩
    · refine own_fs (XS.icmpNo X12.here hx rfl (hb hby at_97) rfl (XT.ii_eq_f hc97) (Steps.refl _)) ?_
      show own_G p.tables e below _ (T12.setTop (mkF m 100 #[.val (.int x0), .val (.int y0), .val (.int s0), .val (.int pa), .val (.int pb), .val (.int sl), .val (.int rr), .val (.ref b1), .unset, .unset, .unset, .unset, .unset, .unset] []))
      refine own_fs (XS.iconst X12.here hx rfl (hb hby at_100) (Steps.refl _)) ?_
      show own_G p.tables e below _ (T12.setTop (mkF m 101 #[.val (.int x0), .val (.int y0), .val (.int s0), .val (.int pa), .val (.int pb), .val (.int sl), .val (.int rr), .val (.ref b1), .unset, .unset, .unset, .unset, .unset, .unset] [(.int (1 : Int32))]))
      refine own_fs (XS.goto X12.here hx rfl (pc0 := 101) (pc' := 105) rfl (hb hby at_101) (by decide) (by decide) (Steps.refl _)) ?_
      show own_G p.tables e below _ (T12.setTop (mkF m 105 #[.val (.int x0), .val (.int y0), .val (.int s0), .val (.int pa), .val (.int pb), .val (.int sl), .val (.int rr), .val (.ref b1), .unset, .unset, .unset, .unset, .unset, .unset] [(.int (1 : Int32))]))
      refine own_fs (XS.istore X12.here hx rfl (hb hby at_105) rfl (l' := #[.val (.int x0), .val (.int y0), .val (.int s0), .val (.int pa), .val (.int pb), .val (.int sl), .val (.int rr), .val (.ref b1), .val (.int (1 : Int32)), .unset, .unset, .unset, .unset, .unset]) rfl (Steps.refl _)) ?_
      show own_G p.tables e below _ (T12.setTop (mkF m 107 #[.val (.int x0), .val (.int y0), .val (.int s0), .val (.int pa), .val (.int pb), .val (.int sl), .val (.int rr), .val (.ref b1), .val (.int (1 : Int32)), .unset, .unset, .unset, .unset, .unset] []))
      refine own_fs (XS.iload X12.here hx rfl (hb hby at_107) rfl (Steps.refl _)) ?_
      show own_G p.tables e below _ (T12.setTop (mkF m 109 #[.val (.int x0), .val (.int y0), .val (.int s0), .val (.int pa), .val (.int pb), .val (.int sl), .val (.int rr), .val (.ref b1), .val (.int (1 : Int32)), .unset, .unset, .unset, .unset, .unset] [(.int pb)]))
      refine own_fs (XS.iload X12.here hx rfl (hb hby at_109) rfl (Steps.refl _)) ?_
      show own_G p.tables e below _ (T12.setTop (mkF m 111 #[.val (.int x0), .val (.int y0), .val (.int s0), .val (.int pa), .val (.int pb), .val (.int sl), .val (.int rr), .val (.ref b1), .val (.int (1 : Int32)), .unset, .unset, .unset, .unset, .unset] [(.int rr), (.int pb)]))
      by_cases hc111 : pb = rr
      · refine own_fs (XS.icmpYes X12.here hx rfl (pc0 := 111) (pc' := 118) rfl (hb hby at_111) rfl (XT.ii_eq_t hc111) (by decide) (by decide) (Steps.refl _)) ?_
        show own_G p.tables e below _ (T12.setTop (mkF m 118 #[.val (.int x0), .val (.int y0), .val (.int s0), .val (.int pa), .val (.int pb), .val (.int sl), .val (.int rr), .val (.ref b1), .val (.int (1 : Int32)), .unset, .unset, .unset, .unset, .unset] []))
        refine own_fs (XS.iconst X12.here hx rfl (hb hby at_118) (Steps.refl _)) ?_
        show own_G p.tables e below _ (T12.setTop (mkF m 119 #[.val (.int x0), .val (.int y0), .val (.int s0), .val (.int pa), .val (.int pb), .val (.int sl), .val (.int rr), .val (.ref b1), .val (.int (1 : Int32)), .unset, .unset, .unset, .unset, .unset] [(.int (0 : Int32))]))
        refine own_fs (XS.istore X12.here hx rfl (hb hby at_119) rfl (l' := #[.val (.int x0), .val (.int y0), .val (.int s0), .val (.int pa), .val (.int pb), .val (.int sl), .val (.int rr), .val (.ref b1), .val (.int (1 : Int32)), .val (.int (0 : Int32)), .unset, .unset, .unset, .unset]) rfl (Steps.refl _)) ?_
        have ia : own_ne pa rr = (1 : Int32) := by simp only [own_ne, hc97, ↓reduceIte]
        have ib : own_ne pb rr = (0 : Int32) := by simp only [own_ne, hc111, ↓reduceIte]
        show own_G p.tables e below _ (T12.setTop (mkF m 121 #[.val (.int x0), .val (.int y0), .val (.int s0), .val (.int pa), .val (.int pb), .val (.int sl), .val (.int rr), .val (.ref b1), .val (.int (1 : Int32)), .val (.int (0 : Int32)), .unset, .unset, .unset, .unset] []))
        refine own_fs (XS.aload X12.here hx rfl (hb hby at_121) rfl rfl (Steps.refl _)) ?_
        show own_G p.tables e below _ (T12.setTop (mkF m 123 #[.val (.int x0), .val (.int y0), .val (.int s0), .val (.int pa), .val (.int pb), .val (.int sl), .val (.int rr), .val (.ref b1), .val (.int (1 : Int32)), .val (.int (0 : Int32)), .unset, .unset, .unset, .unset] [(.ref b1)]))
        refine own_fs (XS.iconst X12.here hx rfl (hb hby at_123) (Steps.refl _)) ?_
        show own_G p.tables e below _ (T12.setTop (mkF m 124 #[.val (.int x0), .val (.int y0), .val (.int s0), .val (.int pa), .val (.int pb), .val (.int sl), .val (.int rr), .val (.ref b1), .val (.int (1 : Int32)), .val (.int (0 : Int32)), .unset, .unset, .unset, .unset] [(.int (0 : Int32)), (.ref b1)]))
        have Zs73 : n0 ≤ h12.size := (Nat.le_trans (Nat.le_trans (Nat.le_trans (Nat.le_trans (Nat.le_trans Z0 E1.1) K3.1) K6.1) K9.1) K12.1)
        obtain ⟨cq72, kq72, q72a, q72b, q72c⟩ := isOf hZ e12 ((((A1.keep K3).keep K6).keep K9).keep K12)
        obtain ⟨_, _, ⟨T72, L72, k72, n72⟩, -, X72, ⟨Lc72, hQ72, l72, y72, z72⟩, st72⟩ := X12.virtualBack hx (y := (⟨"com/example/diligent_tableau/diligenttableau/tableau/Worklist", "next", "(I)I"⟩ : MethodName)) (z := (⟨"com/example/diligent_tableau/diligenttableau/tableau/Worklist", "next", "(I)I"⟩ : MethodName)) hown (mvT hZ (hw _ (List.mem_of_getElem? (i := 29) rfl))) (mvT hZ (hw _ (List.mem_of_getElem? (i := 30) rfl))) (notFace_of_selects (args := #[]) (mvT hZ (hw _ (List.mem_of_getElem? (i := 32) rfl)))) (mvT hZ (hw _ (List.mem_of_getElem? (i := 32) rfl))) (mvT hZ (hw _ (List.mem_of_getElem? (i := 31) rfl))) (by decide) (backOf (W := 0) (own_wnext l Z a0 hw [] b1 (0 : Int32) dd2 kk2 zz2 (own_rem (own_add (own_add own_z pa) pb) rr) h12 n0 Zs73 (P8_0.keep K12 (ninS P8_4 nin0)) P11_0 (own_remz zk2.1 hr) zk2.2.1 zk2.2.2.1 (by decide)) hZ (hw _ (List.mem_of_getElem? (i := 33) rfl)) (hw _ (List.mem_of_getElem? (i := 2) rfl)) (by decide) (by decide)) q72a q72c (g := (mkF m 124 #[.val (.int x0), .val (.int y0), .val (.int s0), .val (.int pa), .val (.int pb), .val (.int sl), .val (.int rr), .val (.ref b1), .val (.int (1 : Int32)), .val (.int (0 : Int32)), .unset, .unset, .unset, .unset] [(.int (0 : Int32)), (.ref b1)])) rfl (by rw [hml]; rfl) (Steps.refl _) (argsL := [(.int (0 : Int32))]) (rest := []) (lenOf own_pd0 rfl) rfl (by show 2 * 0 + _ ≤ _; exact Nat.le_of_eq rfl) (hb hby at_124) (fun _ _ => ⟨rfl, e12, (by decide : 4 + 0 ≤ _), (by decide : 35 + 0 ≤ _)⟩)
        dsimp only [Pt.U, Pt.locs, Pt.cells, Pt.slots] at X72 l72 y72 z72 st72 hQ72
        subst l72 y72 z72
        obtain ⟨vr70, rfl, Nq72, e72, P71_0⟩ := hQ72
        have N72 := Fr.app N12 Nq72
        refine own_fs st72 ?_
        show own_G p.tables e below _ (T72.setTop (mkF m 127 #[.val (.int x0), .val (.int y0), .val (.int s0), .val (.int pa), .val (.int pb), .val (.int sl), .val (.int rr), .val (.ref b1), .val (.int (1 : Int32)), .val (.int (0 : Int32)), .unset, .unset, .unset, .unset] [(.int vr70)]))
        refine own_fs (XS.istore X72.here hx rfl (hb hby at_127) rfl (l' := #[.val (.int x0), .val (.int y0), .val (.int s0), .val (.int pa), .val (.int pb), .val (.int sl), .val (.int rr), .val (.ref b1), .val (.int (1 : Int32)), .val (.int (0 : Int32)), .val (.int vr70), .unset, .unset, .unset]) rfl (Steps.refl _)) ?_
        show own_G p.tables e below _ (T72.setTop (mkF m 129 #[.val (.int x0), .val (.int y0), .val (.int s0), .val (.int pa), .val (.int pb), .val (.int sl), .val (.int rr), .val (.ref b1), .val (.int (1 : Int32)), .val (.int (0 : Int32)), .val (.int vr70), .unset, .unset, .unset] []))
        refine own_fs (XS.aload X72.here hx rfl (hb hby at_129) rfl rfl (Steps.refl _)) ?_
        show own_G p.tables e below _ (T72.setTop (mkF m 131 #[.val (.int x0), .val (.int y0), .val (.int s0), .val (.int pa), .val (.int pb), .val (.int sl), .val (.int rr), .val (.ref b1), .val (.int (1 : Int32)), .val (.int (0 : Int32)), .val (.int vr70), .unset, .unset, .unset] [(.ref b1)]))
        refine own_fs (XS.iload X72.here hx rfl (hb hby at_131) rfl (Steps.refl _)) ?_
        show own_G p.tables e below _ (T72.setTop (mkF m 133 #[.val (.int x0), .val (.int y0), .val (.int s0), .val (.int pa), .val (.int pb), .val (.int sl), .val (.int rr), .val (.ref b1), .val (.int (1 : Int32)), .val (.int (0 : Int32)), .val (.int vr70), .unset, .unset, .unset] [(.int rr), (.ref b1)]))
        have Zs77 : n0 ≤ h12.size := (Nat.le_trans (Nat.le_trans (Nat.le_trans (Nat.le_trans (Nat.le_trans Z0 E1.1) K3.1) K6.1) K9.1) K12.1)
        obtain ⟨cq76, kq76, q76a, q76b, q76c⟩ := isOf hZ e72 ((((A1.keep K3).keep K6).keep K9).keep K12)
        obtain ⟨_, _, ⟨T76, L76, k76, n76⟩, -, X76, ⟨Lc76, hQ76, l76, y76, z76⟩, st76⟩ := X72.virtualBack hx (y := (⟨"com/example/diligent_tableau/diligenttableau/tableau/Worklist", "next", "(I)I"⟩ : MethodName)) (z := (⟨"com/example/diligent_tableau/diligenttableau/tableau/Worklist", "next", "(I)I"⟩ : MethodName)) hown (mvT hZ (hw _ (List.mem_of_getElem? (i := 29) rfl))) (mvT hZ (hw _ (List.mem_of_getElem? (i := 30) rfl))) (notFace_of_selects (args := #[]) (mvT hZ (hw _ (List.mem_of_getElem? (i := 32) rfl)))) (mvT hZ (hw _ (List.mem_of_getElem? (i := 32) rfl))) (mvT hZ (hw _ (List.mem_of_getElem? (i := 31) rfl))) (by decide) (backOf (W := 0) (own_wnext l Z a0 hw [] b1 rr dd2 kk2 zz2 (own_rem (own_add (own_add own_z pa) pb) rr) h12 n0 Zs77 (P8_0.keep K12 (ninS P8_4 nin0)) P11_0 (own_remz zk2.1 hr) zk2.2.1 zk2.2.2.1 hr) hZ (hw _ (List.mem_of_getElem? (i := 33) rfl)) (hw _ (List.mem_of_getElem? (i := 2) rfl)) (by decide) (by decide)) q76a q76c (g := (mkF m 133 #[.val (.int x0), .val (.int y0), .val (.int s0), .val (.int pa), .val (.int pb), .val (.int sl), .val (.int rr), .val (.ref b1), .val (.int (1 : Int32)), .val (.int (0 : Int32)), .val (.int vr70), .unset, .unset, .unset] [(.int rr), (.ref b1)])) rfl (by rw [hml]; rfl) (Steps.refl _) (argsL := [(.int rr)]) (rest := []) (lenOf own_pd0 rfl) rfl (by show 2 * 0 + _ ≤ _; exact Nat.le_of_eq rfl) (hb hby at_133) (fun _ _ => ⟨rfl, e72, (by decide : 4 + 0 ≤ _), (by decide : 35 + 0 ≤ _)⟩)
        dsimp only [Pt.U, Pt.locs, Pt.cells, Pt.slots] at X76 l76 y76 z76 st76 hQ76
        subst l76 y76 z76
        obtain ⟨vr74, rfl, Nq76, e76, P75_0⟩ := hQ76
        have N76 := Fr.app N72 Nq76
        refine own_fs st76 ?_
        show own_G p.tables e below _ (T76.setTop (mkF m 136 #[.val (.int x0), .val (.int y0), .val (.int s0), .val (.int pa), .val (.int pb), .val (.int sl), .val (.int rr), .val (.ref b1), .val (.int (1 : Int32)), .val (.int (0 : Int32)), .val (.int vr70), .unset, .unset, .unset] [(.int vr74)]))
        refine own_fs (XS.istore X76.here hx rfl (hb hby at_136) rfl (l' := #[.val (.int x0), .val (.int y0), .val (.int s0), .val (.int pa), .val (.int pb), .val (.int sl), .val (.int rr), .val (.ref b1), .val (.int (1 : Int32)), .val (.int (0 : Int32)), .val (.int vr70), .val (.int vr74), .unset, .unset]) rfl (Steps.refl _)) ?_
        show own_G p.tables e below _ (T76.setTop (mkF m 138 #[.val (.int x0), .val (.int y0), .val (.int s0), .val (.int pa), .val (.int pb), .val (.int sl), .val (.int rr), .val (.ref b1), .val (.int (1 : Int32)), .val (.int (0 : Int32)), .val (.int vr70), .val (.int vr74), .unset, .unset] []))
        refine own_fs (XS.aload X76.here hx rfl (hb hby at_138) rfl rfl (Steps.refl _)) ?_
        show own_G p.tables e below _ (T76.setTop (mkF m 140 #[.val (.int x0), .val (.int y0), .val (.int s0), .val (.int pa), .val (.int pb), .val (.int sl), .val (.int rr), .val (.ref b1), .val (.int (1 : Int32)), .val (.int (0 : Int32)), .val (.int vr70), .val (.int vr74), .unset, .unset] [(.ref b1)]))
        refine own_fs (XS.iloadN X76.here hx rfl (hb hby at_140) rfl (Steps.refl _)) ?_
        show own_G p.tables e below _ (T76.setTop (mkF m 141 #[.val (.int x0), .val (.int y0), .val (.int s0), .val (.int pa), .val (.int pb), .val (.int sl), .val (.int rr), .val (.ref b1), .val (.int (1 : Int32)), .val (.int (0 : Int32)), .val (.int vr70), .val (.int vr74), .unset, .unset] [(.int pa), (.ref b1)]))
        have Zs81 : n0 ≤ h12.size := (Nat.le_trans (Nat.le_trans (Nat.le_trans (Nat.le_trans (Nat.le_trans Z0 E1.1) K3.1) K6.1) K9.1) K12.1)
        obtain ⟨cq80, kq80, q80a, q80b, q80c⟩ := isOf hZ e76 ((((A1.keep K3).keep K6).keep K9).keep K12)
        obtain ⟨_, _, ⟨T80, L80, k80, n80⟩, -, X80, ⟨Lc80, hQ80, l80, y80, z80⟩, st80⟩ := X76.virtualBack hx (y := (⟨"com/example/diligent_tableau/diligenttableau/tableau/Worklist", "next", "(I)I"⟩ : MethodName)) (z := (⟨"com/example/diligent_tableau/diligenttableau/tableau/Worklist", "next", "(I)I"⟩ : MethodName)) hown (mvT hZ (hw _ (List.mem_of_getElem? (i := 29) rfl))) (mvT hZ (hw _ (List.mem_of_getElem? (i := 30) rfl))) (notFace_of_selects (args := #[]) (mvT hZ (hw _ (List.mem_of_getElem? (i := 32) rfl)))) (mvT hZ (hw _ (List.mem_of_getElem? (i := 32) rfl))) (mvT hZ (hw _ (List.mem_of_getElem? (i := 31) rfl))) (by decide) (backOf (W := 0) (own_wnext l Z a0 hw [] b1 pa dd2 kk2 zz2 (own_rem (own_add (own_add own_z pa) pb) rr) h12 n0 Zs81 (P8_0.keep K12 (ninS P8_4 nin0)) P11_0 (own_remz zk2.1 hr) zk2.2.1 zk2.2.2.1 hA.1) hZ (hw _ (List.mem_of_getElem? (i := 33) rfl)) (hw _ (List.mem_of_getElem? (i := 2) rfl)) (by decide) (by decide)) q80a q80c (g := (mkF m 141 #[.val (.int x0), .val (.int y0), .val (.int s0), .val (.int pa), .val (.int pb), .val (.int sl), .val (.int rr), .val (.ref b1), .val (.int (1 : Int32)), .val (.int (0 : Int32)), .val (.int vr70), .val (.int vr74), .unset, .unset] [(.int pa), (.ref b1)])) rfl (by rw [hml]; rfl) (Steps.refl _) (argsL := [(.int pa)]) (rest := []) (lenOf own_pd0 rfl) rfl (by show 2 * 0 + _ ≤ _; exact Nat.le_of_eq rfl) (hb hby at_141) (fun _ _ => ⟨rfl, e76, (by decide : 4 + 0 ≤ _), (by decide : 35 + 0 ≤ _)⟩)
        dsimp only [Pt.U, Pt.locs, Pt.cells, Pt.slots] at X80 l80 y80 z80 st80 hQ80
        subst l80 y80 z80
        obtain ⟨vr78, rfl, Nq80, e80, P79_0⟩ := hQ80
        have N80 := Fr.app N76 Nq80
        refine own_fs st80 ?_
        show own_G p.tables e below _ (T80.setTop (mkF m 144 #[.val (.int x0), .val (.int y0), .val (.int s0), .val (.int pa), .val (.int pb), .val (.int sl), .val (.int rr), .val (.ref b1), .val (.int (1 : Int32)), .val (.int (0 : Int32)), .val (.int vr70), .val (.int vr74), .unset, .unset] [(.int vr78)]))
        refine own_fs (XS.istore X80.here hx rfl (hb hby at_144) rfl (l' := #[.val (.int x0), .val (.int y0), .val (.int s0), .val (.int pa), .val (.int pb), .val (.int sl), .val (.int rr), .val (.ref b1), .val (.int (1 : Int32)), .val (.int (0 : Int32)), .val (.int vr70), .val (.int vr74), .val (.int vr78), .unset]) rfl (Steps.refl _)) ?_
        show own_G p.tables e below _ (T80.setTop (mkF m 146 #[.val (.int x0), .val (.int y0), .val (.int s0), .val (.int pa), .val (.int pb), .val (.int sl), .val (.int rr), .val (.ref b1), .val (.int (1 : Int32)), .val (.int (0 : Int32)), .val (.int vr70), .val (.int vr74), .val (.int vr78), .unset] []))
        refine own_fs (XS.aload X80.here hx rfl (hb hby at_146) rfl rfl (Steps.refl _)) ?_
        show own_G p.tables e below _ (T80.setTop (mkF m 148 #[.val (.int x0), .val (.int y0), .val (.int s0), .val (.int pa), .val (.int pb), .val (.int sl), .val (.int rr), .val (.ref b1), .val (.int (1 : Int32)), .val (.int (0 : Int32)), .val (.int vr70), .val (.int vr74), .val (.int vr78), .unset] [(.ref b1)]))
        refine own_fs (XS.iload X80.here hx rfl (hb hby at_148) rfl (Steps.refl _)) ?_
        show own_G p.tables e below _ (T80.setTop (mkF m 150 #[.val (.int x0), .val (.int y0), .val (.int s0), .val (.int pa), .val (.int pb), .val (.int sl), .val (.int rr), .val (.ref b1), .val (.int (1 : Int32)), .val (.int (0 : Int32)), .val (.int vr70), .val (.int vr74), .val (.int vr78), .unset] [(.int pb), (.ref b1)]))
        have Zs85 : n0 ≤ h12.size := (Nat.le_trans (Nat.le_trans (Nat.le_trans (Nat.le_trans (Nat.le_trans Z0 E1.1) K3.1) K6.1) K9.1) K12.1)
        obtain ⟨cq84, kq84, q84a, q84b, q84c⟩ := isOf hZ e80 ((((A1.keep K3).keep K6).keep K9).keep K12)
        obtain ⟨_, _, ⟨T84, L84, k84, n84⟩, -, X84, ⟨Lc84, hQ84, l84, y84, z84⟩, st84⟩ := X80.virtualBack hx (y := (⟨"com/example/diligent_tableau/diligenttableau/tableau/Worklist", "next", "(I)I"⟩ : MethodName)) (z := (⟨"com/example/diligent_tableau/diligenttableau/tableau/Worklist", "next", "(I)I"⟩ : MethodName)) hown (mvT hZ (hw _ (List.mem_of_getElem? (i := 29) rfl))) (mvT hZ (hw _ (List.mem_of_getElem? (i := 30) rfl))) (notFace_of_selects (args := #[]) (mvT hZ (hw _ (List.mem_of_getElem? (i := 32) rfl)))) (mvT hZ (hw _ (List.mem_of_getElem? (i := 32) rfl))) (mvT hZ (hw _ (List.mem_of_getElem? (i := 31) rfl))) (by decide) (backOf (W := 0) (own_wnext l Z a0 hw [] b1 pb dd2 kk2 zz2 (own_rem (own_add (own_add own_z pa) pb) rr) h12 n0 Zs85 (P8_0.keep K12 (ninS P8_4 nin0)) P11_0 (own_remz zk2.1 hr) zk2.2.1 zk2.2.2.1 hB.1) hZ (hw _ (List.mem_of_getElem? (i := 33) rfl)) (hw _ (List.mem_of_getElem? (i := 2) rfl)) (by decide) (by decide)) q84a q84c (g := (mkF m 150 #[.val (.int x0), .val (.int y0), .val (.int s0), .val (.int pa), .val (.int pb), .val (.int sl), .val (.int rr), .val (.ref b1), .val (.int (1 : Int32)), .val (.int (0 : Int32)), .val (.int vr70), .val (.int vr74), .val (.int vr78), .unset] [(.int pb), (.ref b1)])) rfl (by rw [hml]; rfl) (Steps.refl _) (argsL := [(.int pb)]) (rest := []) (lenOf own_pd0 rfl) rfl (by show 2 * 0 + _ ≤ _; exact Nat.le_of_eq rfl) (hb hby at_150) (fun _ _ => ⟨rfl, e80, (by decide : 4 + 0 ≤ _), (by decide : 35 + 0 ≤ _)⟩)
        dsimp only [Pt.U, Pt.locs, Pt.cells, Pt.slots] at X84 l84 y84 z84 st84 hQ84
        subst l84 y84 z84
        obtain ⟨vr82, rfl, Nq84, e84, P83_0⟩ := hQ84
        have N84 := Fr.app N80 Nq84
        refine own_fs st84 ?_
        show own_G p.tables e below _ (T84.setTop (mkF m 153 #[.val (.int x0), .val (.int y0), .val (.int s0), .val (.int pa), .val (.int pb), .val (.int sl), .val (.int rr), .val (.ref b1), .val (.int (1 : Int32)), .val (.int (0 : Int32)), .val (.int vr70), .val (.int vr74), .val (.int vr78), .unset] [(.int vr82)]))
        refine own_fs (XS.istore X84.here hx rfl (hb hby at_153) rfl (l' := #[.val (.int x0), .val (.int y0), .val (.int s0), .val (.int pa), .val (.int pb), .val (.int sl), .val (.int rr), .val (.ref b1), .val (.int (1 : Int32)), .val (.int (0 : Int32)), .val (.int vr70), .val (.int vr74), .val (.int vr78), .val (.int vr82)]) rfl (Steps.refl _)) ?_
        show own_G p.tables e below _ (T84.setTop (mkF m 155 #[.val (.int x0), .val (.int y0), .val (.int s0), .val (.int pa), .val (.int pb), .val (.int sl), .val (.int rr), .val (.ref b1), .val (.int (1 : Int32)), .val (.int (0 : Int32)), .val (.int vr70), .val (.int vr74), .val (.int vr78), .val (.int vr82)] []))
        refine own_fs (XS.iload X84.here hx rfl (hb hby at_155) rfl (Steps.refl _)) ?_
        show own_G p.tables e below _ (T84.setTop (mkF m 157 #[.val (.int x0), .val (.int y0), .val (.int s0), .val (.int pa), .val (.int pb), .val (.int sl), .val (.int rr), .val (.ref b1), .val (.int (1 : Int32)), .val (.int (0 : Int32)), .val (.int vr70), .val (.int vr74), .val (.int vr78), .val (.int vr82)] [(.int vr70)]))
        refine own_fs (XS.iconst X84.here hx rfl (hb hby at_157) (Steps.refl _)) ?_
        show own_G p.tables e below _ (T84.setTop (mkF m 158 #[.val (.int x0), .val (.int y0), .val (.int s0), .val (.int pa), .val (.int pb), .val (.int sl), .val (.int rr), .val (.ref b1), .val (.int (1 : Int32)), .val (.int (0 : Int32)), .val (.int vr70), .val (.int vr74), .val (.int vr78), .val (.int vr82)] [(.int (0 : Int32)), (.int vr70)]))
        refine own_fs (XS.iloadN X84.here hx rfl (hb hby at_158) rfl (Steps.refl _)) ?_
        show own_G p.tables e below _ (T84.setTop (mkF m 159 #[.val (.int x0), .val (.int y0), .val (.int s0), .val (.int pa), .val (.int pb), .val (.int sl), .val (.int rr), .val (.ref b1), .val (.int (1 : Int32)), .val (.int (0 : Int32)), .val (.int vr70), .val (.int vr74), .val (.int vr78), .val (.int vr82)] [(.int pa), (.int (0 : Int32)), (.int vr70)]))
        refine own_fs (XS.iload X84.here hx rfl (hb hby at_159) rfl (Steps.refl _)) ?_
        show own_G p.tables e below _ (T84.setTop (mkF m 161 #[.val (.int x0), .val (.int y0), .val (.int s0), .val (.int pa), .val (.int pb), .val (.int sl), .val (.int rr), .val (.ref b1), .val (.int (1 : Int32)), .val (.int (0 : Int32)), .val (.int vr70), .val (.int vr74), .val (.int vr78), .val (.int vr82)] [(.int (1 : Int32)), (.int pa), (.int (0 : Int32)), (.int vr70)]))
        refine own_fs (XS.iload X84.here hx rfl (hb hby at_161) rfl (Steps.refl _)) ?_
        show own_G p.tables e below _ (T84.setTop (mkF m 163 #[.val (.int x0), .val (.int y0), .val (.int s0), .val (.int pa), .val (.int pb), .val (.int sl), .val (.int rr), .val (.ref b1), .val (.int (1 : Int32)), .val (.int (0 : Int32)), .val (.int vr70), .val (.int vr74), .val (.int vr78), .val (.int vr82)] [(.int pb), (.int (1 : Int32)), (.int pa), (.int (0 : Int32)), (.int vr70)]))
        refine own_fs (XS.iload X84.here hx rfl (hb hby at_163) rfl (Steps.refl _)) ?_
        show own_G p.tables e below _ (T84.setTop (mkF m 165 #[.val (.int x0), .val (.int y0), .val (.int s0), .val (.int pa), .val (.int pb), .val (.int sl), .val (.int rr), .val (.ref b1), .val (.int (1 : Int32)), .val (.int (0 : Int32)), .val (.int vr70), .val (.int vr74), .val (.int vr78), .val (.int vr82)] [(.int (0 : Int32)), (.int pb), (.int (1 : Int32)), (.int pa), (.int (0 : Int32)), (.int vr70)]))
        have Zs88 : n0 ≤ h12.size := (Nat.le_trans (Nat.le_trans (Nat.le_trans (Nat.le_trans (Nat.le_trans Z0 E1.1) K3.1) K6.1) K9.1) K12.1)
        obtain ⟨_, _, ⟨T87, L87, k87, n87⟩, -, X87, ⟨Lc87, hQ87, l87, y87, z87⟩, st87⟩ := Jvm.LawKit.callS X84 hx (y := (⟨"com/example/diligent_tableau/diligenttableau/tableau/WorklistRemovePinLaw", "least", "(IIZIZ)I"⟩ : MethodName)) hown (mvT hZ (hw _ (List.mem_of_getElem? (i := 43) rfl))) (mvT hZ (hw _ (List.mem_of_getElem? (i := 44) rfl))) (mvT hZ (hw _ (List.mem_of_getElem? (i := 45) rfl))) (mvT hZ (hw _ (List.mem_of_getElem? (i := 46) rfl))) (by decide) (backOf (W := 1) (own_rleast l Z a0 hw [] (0 : Int32) pa (1 : Int32) pb (0 : Int32) h12 n0 Zs88 hA.1) hZ (hw _ (List.mem_of_getElem? (i := 46) rfl)) (hw _ (List.mem_of_getElem? (i := 45) rfl)) (by decide) (by decide)) (g := (mkF m 165 #[.val (.int x0), .val (.int y0), .val (.int s0), .val (.int pa), .val (.int pb), .val (.int sl), .val (.int rr), .val (.ref b1), .val (.int (1 : Int32)), .val (.int (0 : Int32)), .val (.int vr70), .val (.int vr74), .val (.int vr78), .val (.int vr82)] [(.int (0 : Int32)), (.int pb), (.int (1 : Int32)), (.int pa), (.int (0 : Int32)), (.int vr70)])) rfl (by rw [hml]; rfl) (argsL := [(.int (0 : Int32)), (.int pa), (.int (1 : Int32)), (.int pb), (.int (0 : Int32))]) (rest := [(.int vr70)]) (lenOf own_pd6 rfl) rfl (by show 2 * 0 + _ ≤ _; exact Nat.le_of_eq rfl) (hb hby at_165) (fun _ _ => ⟨rfl, e84, (by decide : 4 + 0 ≤ _), (by decide : 35 + 0 ≤ _)⟩)
        dsimp only [Pt.U, Pt.locs, Pt.cells, Pt.slots] at X87 l87 y87 z87 st87 hQ87
        subst l87 y87 z87
        obtain ⟨rfl, Nq87, e87⟩ := hQ87
        have N87 := Fr.app N84 Nq87
        refine own_fs (st87 _ (Steps.refl _)) ?_
        show own_G p.tables e below _ (T87.setTop (mkF m 168 #[.val (.int x0), .val (.int y0), .val (.int s0), .val (.int pa), .val (.int pb), .val (.int sl), .val (.int rr), .val (.ref b1), .val (.int (1 : Int32)), .val (.int (0 : Int32)), .val (.int vr70), .val (.int vr74), .val (.int vr78), .val (.int vr82)] [(.int (own_least (0 : Int32) pa (1 : Int32) pb (0 : Int32))), (.int vr70)]))
        refine own_fs (XS.icmpNo X87.here hx rfl (hb hby at_168) rfl (XT.ii_ne_f (own_fin hA.1 hB.1 hr ia ib (by decide) P71_0)) (Steps.refl _)) ?_
        show own_G p.tables e below _ (T87.setTop (mkF m 171 #[.val (.int x0), .val (.int y0), .val (.int s0), .val (.int pa), .val (.int pb), .val (.int sl), .val (.int rr), .val (.ref b1), .val (.int (1 : Int32)), .val (.int (0 : Int32)), .val (.int vr70), .val (.int vr74), .val (.int vr78), .val (.int vr82)] []))
        refine own_fs (XS.iload X87.here hx rfl (hb hby at_171) rfl (Steps.refl _)) ?_
        show own_G p.tables e below _ (T87.setTop (mkF m 173 #[.val (.int x0), .val (.int y0), .val (.int s0), .val (.int pa), .val (.int pb), .val (.int sl), .val (.int rr), .val (.ref b1), .val (.int (1 : Int32)), .val (.int (0 : Int32)), .val (.int vr70), .val (.int vr74), .val (.int vr78), .val (.int vr82)] [(.int vr74)]))
        refine own_fs (XS.iload X87.here hx rfl (hb hby at_173) rfl (Steps.refl _)) ?_
        show own_G p.tables e below _ (T87.setTop (mkF m 175 #[.val (.int x0), .val (.int y0), .val (.int s0), .val (.int pa), .val (.int pb), .val (.int sl), .val (.int rr), .val (.ref b1), .val (.int (1 : Int32)), .val (.int (0 : Int32)), .val (.int vr70), .val (.int vr74), .val (.int vr78), .val (.int vr82)] [(.int rr), (.int vr74)]))
        refine own_fs (XS.iloadN X87.here hx rfl (hb hby at_175) rfl (Steps.refl _)) ?_
        show own_G p.tables e below _ (T87.setTop (mkF m 176 #[.val (.int x0), .val (.int y0), .val (.int s0), .val (.int pa), .val (.int pb), .val (.int sl), .val (.int rr), .val (.ref b1), .val (.int (1 : Int32)), .val (.int (0 : Int32)), .val (.int vr70), .val (.int vr74), .val (.int vr78), .val (.int vr82)] [(.int pa), (.int rr), (.int vr74)]))
        refine own_fs (XS.iload X87.here hx rfl (hb hby at_176) rfl (Steps.refl _)) ?_
        show own_G p.tables e below _ (T87.setTop (mkF m 178 #[.val (.int x0), .val (.int y0), .val (.int s0), .val (.int pa), .val (.int pb), .val (.int sl), .val (.int rr), .val (.ref b1), .val (.int (1 : Int32)), .val (.int (0 : Int32)), .val (.int vr70), .val (.int vr74), .val (.int vr78), .val (.int vr82)] [(.int (1 : Int32)), (.int pa), (.int rr), (.int vr74)]))
        refine own_fs (XS.iload X87.here hx rfl (hb hby at_178) rfl (Steps.refl _)) ?_
        show own_G p.tables e below _ (T87.setTop (mkF m 180 #[.val (.int x0), .val (.int y0), .val (.int s0), .val (.int pa), .val (.int pb), .val (.int sl), .val (.int rr), .val (.ref b1), .val (.int (1 : Int32)), .val (.int (0 : Int32)), .val (.int vr70), .val (.int vr74), .val (.int vr78), .val (.int vr82)] [(.int pb), (.int (1 : Int32)), (.int pa), (.int rr), (.int vr74)]))
        refine own_fs (XS.iload X87.here hx rfl (hb hby at_180) rfl (Steps.refl _)) ?_
        show own_G p.tables e below _ (T87.setTop (mkF m 182 #[.val (.int x0), .val (.int y0), .val (.int s0), .val (.int pa), .val (.int pb), .val (.int sl), .val (.int rr), .val (.ref b1), .val (.int (1 : Int32)), .val (.int (0 : Int32)), .val (.int vr70), .val (.int vr74), .val (.int vr78), .val (.int vr82)] [(.int (0 : Int32)), (.int pb), (.int (1 : Int32)), (.int pa), (.int rr), (.int vr74)]))
        have Zs91 : n0 ≤ h12.size := (Nat.le_trans (Nat.le_trans (Nat.le_trans (Nat.le_trans (Nat.le_trans Z0 E1.1) K3.1) K6.1) K9.1) K12.1)
        obtain ⟨_, _, ⟨T90, L90, k90, n90⟩, -, X90, ⟨Lc90, hQ90, l90, y90, z90⟩, st90⟩ := Jvm.LawKit.callS X87 hx (y := (⟨"com/example/diligent_tableau/diligenttableau/tableau/WorklistRemovePinLaw", "least", "(IIZIZ)I"⟩ : MethodName)) hown (mvT hZ (hw _ (List.mem_of_getElem? (i := 43) rfl))) (mvT hZ (hw _ (List.mem_of_getElem? (i := 44) rfl))) (mvT hZ (hw _ (List.mem_of_getElem? (i := 45) rfl))) (mvT hZ (hw _ (List.mem_of_getElem? (i := 46) rfl))) (by decide) (backOf (W := 1) (own_rleast l Z a0 hw [] rr pa (1 : Int32) pb (0 : Int32) h12 n0 Zs91 hA.1) hZ (hw _ (List.mem_of_getElem? (i := 46) rfl)) (hw _ (List.mem_of_getElem? (i := 45) rfl)) (by decide) (by decide)) (g := (mkF m 182 #[.val (.int x0), .val (.int y0), .val (.int s0), .val (.int pa), .val (.int pb), .val (.int sl), .val (.int rr), .val (.ref b1), .val (.int (1 : Int32)), .val (.int (0 : Int32)), .val (.int vr70), .val (.int vr74), .val (.int vr78), .val (.int vr82)] [(.int (0 : Int32)), (.int pb), (.int (1 : Int32)), (.int pa), (.int rr), (.int vr74)])) rfl (by rw [hml]; rfl) (argsL := [(.int rr), (.int pa), (.int (1 : Int32)), (.int pb), (.int (0 : Int32))]) (rest := [(.int vr74)]) (lenOf own_pd6 rfl) rfl (by show 2 * 0 + _ ≤ _; exact Nat.le_of_eq rfl) (hb hby at_182) (fun _ _ => ⟨rfl, e87, (by decide : 4 + 0 ≤ _), (by decide : 35 + 0 ≤ _)⟩)
        dsimp only [Pt.U, Pt.locs, Pt.cells, Pt.slots] at X90 l90 y90 z90 st90 hQ90
        subst l90 y90 z90
        obtain ⟨rfl, Nq90, e90⟩ := hQ90
        have N90 := Fr.app N87 Nq90
        refine own_fs (st90 _ (Steps.refl _)) ?_
        show own_G p.tables e below _ (T90.setTop (mkF m 185 #[.val (.int x0), .val (.int y0), .val (.int s0), .val (.int pa), .val (.int pb), .val (.int sl), .val (.int rr), .val (.ref b1), .val (.int (1 : Int32)), .val (.int (0 : Int32)), .val (.int vr70), .val (.int vr74), .val (.int vr78), .val (.int vr82)] [(.int (own_least rr pa (1 : Int32) pb (0 : Int32))), (.int vr74)]))
        refine own_fs (XS.icmpNo X90.here hx rfl (hb hby at_185) rfl (XT.ii_ne_f (own_fin hA.1 hB.1 hr ia ib hr P75_0)) (Steps.refl _)) ?_
        show own_G p.tables e below _ (T90.setTop (mkF m 188 #[.val (.int x0), .val (.int y0), .val (.int s0), .val (.int pa), .val (.int pb), .val (.int sl), .val (.int rr), .val (.ref b1), .val (.int (1 : Int32)), .val (.int (0 : Int32)), .val (.int vr70), .val (.int vr74), .val (.int vr78), .val (.int vr82)] []))
        refine own_fs (XS.iload X90.here hx rfl (hb hby at_188) rfl (Steps.refl _)) ?_
        show own_G p.tables e below _ (T90.setTop (mkF m 190 #[.val (.int x0), .val (.int y0), .val (.int s0), .val (.int pa), .val (.int pb), .val (.int sl), .val (.int rr), .val (.ref b1), .val (.int (1 : Int32)), .val (.int (0 : Int32)), .val (.int vr70), .val (.int vr74), .val (.int vr78), .val (.int vr82)] [(.int vr78)]))
        refine own_fs (XS.iloadN X90.here hx rfl (hb hby at_190) rfl (Steps.refl _)) ?_
        show own_G p.tables e below _ (T90.setTop (mkF m 191 #[.val (.int x0), .val (.int y0), .val (.int s0), .val (.int pa), .val (.int pb), .val (.int sl), .val (.int rr), .val (.ref b1), .val (.int (1 : Int32)), .val (.int (0 : Int32)), .val (.int vr70), .val (.int vr74), .val (.int vr78), .val (.int vr82)] [(.int pa), (.int vr78)]))
        refine own_fs (XS.iloadN X90.here hx rfl (hb hby at_191) rfl (Steps.refl _)) ?_
        show own_G p.tables e below _ (T90.setTop (mkF m 192 #[.val (.int x0), .val (.int y0), .val (.int s0), .val (.int pa), .val (.int pb), .val (.int sl), .val (.int rr), .val (.ref b1), .val (.int (1 : Int32)), .val (.int (0 : Int32)), .val (.int vr70), .val (.int vr74), .val (.int vr78), .val (.int vr82)] [(.int pa), (.int pa), (.int vr78)]))
        refine own_fs (XS.iload X90.here hx rfl (hb hby at_192) rfl (Steps.refl _)) ?_
        show own_G p.tables e below _ (T90.setTop (mkF m 194 #[.val (.int x0), .val (.int y0), .val (.int s0), .val (.int pa), .val (.int pb), .val (.int sl), .val (.int rr), .val (.ref b1), .val (.int (1 : Int32)), .val (.int (0 : Int32)), .val (.int vr70), .val (.int vr74), .val (.int vr78), .val (.int vr82)] [(.int (1 : Int32)), (.int pa), (.int pa), (.int vr78)]))
        refine own_fs (XS.iload X90.here hx rfl (hb hby at_194) rfl (Steps.refl _)) ?_
        show own_G p.tables e below _ (T90.setTop (mkF m 196 #[.val (.int x0), .val (.int y0), .val (.int s0), .val (.int pa), .val (.int pb), .val (.int sl), .val (.int rr), .val (.ref b1), .val (.int (1 : Int32)), .val (.int (0 : Int32)), .val (.int vr70), .val (.int vr74), .val (.int vr78), .val (.int vr82)] [(.int pb), (.int (1 : Int32)), (.int pa), (.int pa), (.int vr78)]))
        refine own_fs (XS.iload X90.here hx rfl (hb hby at_196) rfl (Steps.refl _)) ?_
        show own_G p.tables e below _ (T90.setTop (mkF m 198 #[.val (.int x0), .val (.int y0), .val (.int s0), .val (.int pa), .val (.int pb), .val (.int sl), .val (.int rr), .val (.ref b1), .val (.int (1 : Int32)), .val (.int (0 : Int32)), .val (.int vr70), .val (.int vr74), .val (.int vr78), .val (.int vr82)] [(.int (0 : Int32)), (.int pb), (.int (1 : Int32)), (.int pa), (.int pa), (.int vr78)]))
        have Zs94 : n0 ≤ h12.size := (Nat.le_trans (Nat.le_trans (Nat.le_trans (Nat.le_trans (Nat.le_trans Z0 E1.1) K3.1) K6.1) K9.1) K12.1)
        obtain ⟨_, _, ⟨T93, L93, k93, n93⟩, -, X93, ⟨Lc93, hQ93, l93, y93, z93⟩, st93⟩ := Jvm.LawKit.callS X90 hx (y := (⟨"com/example/diligent_tableau/diligenttableau/tableau/WorklistRemovePinLaw", "least", "(IIZIZ)I"⟩ : MethodName)) hown (mvT hZ (hw _ (List.mem_of_getElem? (i := 43) rfl))) (mvT hZ (hw _ (List.mem_of_getElem? (i := 44) rfl))) (mvT hZ (hw _ (List.mem_of_getElem? (i := 45) rfl))) (mvT hZ (hw _ (List.mem_of_getElem? (i := 46) rfl))) (by decide) (backOf (W := 1) (own_rleast l Z a0 hw [] pa pa (1 : Int32) pb (0 : Int32) h12 n0 Zs94 hA.1) hZ (hw _ (List.mem_of_getElem? (i := 46) rfl)) (hw _ (List.mem_of_getElem? (i := 45) rfl)) (by decide) (by decide)) (g := (mkF m 198 #[.val (.int x0), .val (.int y0), .val (.int s0), .val (.int pa), .val (.int pb), .val (.int sl), .val (.int rr), .val (.ref b1), .val (.int (1 : Int32)), .val (.int (0 : Int32)), .val (.int vr70), .val (.int vr74), .val (.int vr78), .val (.int vr82)] [(.int (0 : Int32)), (.int pb), (.int (1 : Int32)), (.int pa), (.int pa), (.int vr78)])) rfl (by rw [hml]; rfl) (argsL := [(.int pa), (.int pa), (.int (1 : Int32)), (.int pb), (.int (0 : Int32))]) (rest := [(.int vr78)]) (lenOf own_pd6 rfl) rfl (by show 2 * 0 + _ ≤ _; exact Nat.le_of_eq rfl) (hb hby at_198) (fun _ _ => ⟨rfl, e90, (by decide : 4 + 0 ≤ _), (by decide : 35 + 0 ≤ _)⟩)
        dsimp only [Pt.U, Pt.locs, Pt.cells, Pt.slots] at X93 l93 y93 z93 st93 hQ93
        subst l93 y93 z93
        obtain ⟨rfl, Nq93, e93⟩ := hQ93
        have N93 := Fr.app N90 Nq93
        refine own_fs (st93 _ (Steps.refl _)) ?_
        show own_G p.tables e below _ (T93.setTop (mkF m 201 #[.val (.int x0), .val (.int y0), .val (.int s0), .val (.int pa), .val (.int pb), .val (.int sl), .val (.int rr), .val (.ref b1), .val (.int (1 : Int32)), .val (.int (0 : Int32)), .val (.int vr70), .val (.int vr74), .val (.int vr78), .val (.int vr82)] [(.int (own_least pa pa (1 : Int32) pb (0 : Int32))), (.int vr78)]))
        refine own_fs (XS.icmpNo X93.here hx rfl (hb hby at_201) rfl (XT.ii_ne_f (own_fin hA.1 hB.1 hr ia ib hA.1 P79_0)) (Steps.refl _)) ?_
        show own_G p.tables e below _ (T93.setTop (mkF m 204 #[.val (.int x0), .val (.int y0), .val (.int s0), .val (.int pa), .val (.int pb), .val (.int sl), .val (.int rr), .val (.ref b1), .val (.int (1 : Int32)), .val (.int (0 : Int32)), .val (.int vr70), .val (.int vr74), .val (.int vr78), .val (.int vr82)] []))
        refine own_fs (XS.iload X93.here hx rfl (hb hby at_204) rfl (Steps.refl _)) ?_
        show own_G p.tables e below _ (T93.setTop (mkF m 206 #[.val (.int x0), .val (.int y0), .val (.int s0), .val (.int pa), .val (.int pb), .val (.int sl), .val (.int rr), .val (.ref b1), .val (.int (1 : Int32)), .val (.int (0 : Int32)), .val (.int vr70), .val (.int vr74), .val (.int vr78), .val (.int vr82)] [(.int vr82)]))
        refine own_fs (XS.iload X93.here hx rfl (hb hby at_206) rfl (Steps.refl _)) ?_
        show own_G p.tables e below _ (T93.setTop (mkF m 208 #[.val (.int x0), .val (.int y0), .val (.int s0), .val (.int pa), .val (.int pb), .val (.int sl), .val (.int rr), .val (.ref b1), .val (.int (1 : Int32)), .val (.int (0 : Int32)), .val (.int vr70), .val (.int vr74), .val (.int vr78), .val (.int vr82)] [(.int pb), (.int vr82)]))
        refine own_fs (XS.iloadN X93.here hx rfl (hb hby at_208) rfl (Steps.refl _)) ?_
        show own_G p.tables e below _ (T93.setTop (mkF m 209 #[.val (.int x0), .val (.int y0), .val (.int s0), .val (.int pa), .val (.int pb), .val (.int sl), .val (.int rr), .val (.ref b1), .val (.int (1 : Int32)), .val (.int (0 : Int32)), .val (.int vr70), .val (.int vr74), .val (.int vr78), .val (.int vr82)] [(.int pa), (.int pb), (.int vr82)]))
        refine own_fs (XS.iload X93.here hx rfl (hb hby at_209) rfl (Steps.refl _)) ?_
        show own_G p.tables e below _ (T93.setTop (mkF m 211 #[.val (.int x0), .val (.int y0), .val (.int s0), .val (.int pa), .val (.int pb), .val (.int sl), .val (.int rr), .val (.ref b1), .val (.int (1 : Int32)), .val (.int (0 : Int32)), .val (.int vr70), .val (.int vr74), .val (.int vr78), .val (.int vr82)] [(.int (1 : Int32)), (.int pa), (.int pb), (.int vr82)]))
        refine own_fs (XS.iload X93.here hx rfl (hb hby at_211) rfl (Steps.refl _)) ?_
        show own_G p.tables e below _ (T93.setTop (mkF m 213 #[.val (.int x0), .val (.int y0), .val (.int s0), .val (.int pa), .val (.int pb), .val (.int sl), .val (.int rr), .val (.ref b1), .val (.int (1 : Int32)), .val (.int (0 : Int32)), .val (.int vr70), .val (.int vr74), .val (.int vr78), .val (.int vr82)] [(.int pb), (.int (1 : Int32)), (.int pa), (.int pb), (.int vr82)]))
        refine own_fs (XS.iload X93.here hx rfl (hb hby at_213) rfl (Steps.refl _)) ?_
        show own_G p.tables e below _ (T93.setTop (mkF m 215 #[.val (.int x0), .val (.int y0), .val (.int s0), .val (.int pa), .val (.int pb), .val (.int sl), .val (.int rr), .val (.ref b1), .val (.int (1 : Int32)), .val (.int (0 : Int32)), .val (.int vr70), .val (.int vr74), .val (.int vr78), .val (.int vr82)] [(.int (0 : Int32)), (.int pb), (.int (1 : Int32)), (.int pa), (.int pb), (.int vr82)]))
        have Zs97 : n0 ≤ h12.size := (Nat.le_trans (Nat.le_trans (Nat.le_trans (Nat.le_trans (Nat.le_trans Z0 E1.1) K3.1) K6.1) K9.1) K12.1)
        obtain ⟨_, _, ⟨T96, L96, k96, n96⟩, -, X96, ⟨Lc96, hQ96, l96, y96, z96⟩, st96⟩ := Jvm.LawKit.callS X93 hx (y := (⟨"com/example/diligent_tableau/diligenttableau/tableau/WorklistRemovePinLaw", "least", "(IIZIZ)I"⟩ : MethodName)) hown (mvT hZ (hw _ (List.mem_of_getElem? (i := 43) rfl))) (mvT hZ (hw _ (List.mem_of_getElem? (i := 44) rfl))) (mvT hZ (hw _ (List.mem_of_getElem? (i := 45) rfl))) (mvT hZ (hw _ (List.mem_of_getElem? (i := 46) rfl))) (by decide) (backOf (W := 1) (own_rleast l Z a0 hw [] pb pa (1 : Int32) pb (0 : Int32) h12 n0 Zs97 hA.1) hZ (hw _ (List.mem_of_getElem? (i := 46) rfl)) (hw _ (List.mem_of_getElem? (i := 45) rfl)) (by decide) (by decide)) (g := (mkF m 215 #[.val (.int x0), .val (.int y0), .val (.int s0), .val (.int pa), .val (.int pb), .val (.int sl), .val (.int rr), .val (.ref b1), .val (.int (1 : Int32)), .val (.int (0 : Int32)), .val (.int vr70), .val (.int vr74), .val (.int vr78), .val (.int vr82)] [(.int (0 : Int32)), (.int pb), (.int (1 : Int32)), (.int pa), (.int pb), (.int vr82)])) rfl (by rw [hml]; rfl) (argsL := [(.int pb), (.int pa), (.int (1 : Int32)), (.int pb), (.int (0 : Int32))]) (rest := [(.int vr82)]) (lenOf own_pd6 rfl) rfl (by show 2 * 0 + _ ≤ _; exact Nat.le_of_eq rfl) (hb hby at_215) (fun _ _ => ⟨rfl, e93, (by decide : 4 + 0 ≤ _), (by decide : 35 + 0 ≤ _)⟩)
        dsimp only [Pt.U, Pt.locs, Pt.cells, Pt.slots] at X96 l96 y96 z96 st96 hQ96
        subst l96 y96 z96
        obtain ⟨rfl, Nq96, e96⟩ := hQ96
        have N96 := Fr.app N93 Nq96
        refine own_fs (st96 _ (Steps.refl _)) ?_
        show own_G p.tables e below _ (T96.setTop (mkF m 218 #[.val (.int x0), .val (.int y0), .val (.int s0), .val (.int pa), .val (.int pb), .val (.int sl), .val (.int rr), .val (.ref b1), .val (.int (1 : Int32)), .val (.int (0 : Int32)), .val (.int vr70), .val (.int vr74), .val (.int vr78), .val (.int vr82)] [(.int (own_least pb pa (1 : Int32) pb (0 : Int32))), (.int vr82)]))
        refine own_fs (XS.icmpNo X96.here hx rfl (hb hby at_218) rfl (XT.ii_ne_f (own_fin hA.1 hB.1 hr ia ib hB.1 P83_0)) (Steps.refl _)) ?_
        show own_G p.tables e below _ (T96.setTop (mkF m 221 #[.val (.int x0), .val (.int y0), .val (.int s0), .val (.int pa), .val (.int pb), .val (.int sl), .val (.int rr), .val (.ref b1), .val (.int (1 : Int32)), .val (.int (0 : Int32)), .val (.int vr70), .val (.int vr74), .val (.int vr78), .val (.int vr82)] []))
        refine own_fs (XS.iconst X96.here hx rfl (hb hby at_221) (Steps.refl _)) ?_
        show own_G p.tables e below _ (T96.setTop (mkF m 222 #[.val (.int x0), .val (.int y0), .val (.int s0), .val (.int pa), .val (.int pb), .val (.int sl), .val (.int rr), .val (.ref b1), .val (.int (1 : Int32)), .val (.int (0 : Int32)), .val (.int vr70), .val (.int vr74), .val (.int vr78), .val (.int vr82)] [(.int (1 : Int32))]))
        refine own_fs (XS.goto X96.here hx rfl (pc0 := 222) (pc' := 226) rfl (hb hby at_222) (by decide) (by decide) (Steps.refl _)) ?_
        show own_G p.tables e below _ (T96.setTop (mkF m 226 #[.val (.int x0), .val (.int y0), .val (.int s0), .val (.int pa), .val (.int pb), .val (.int sl), .val (.int rr), .val (.ref b1), .val (.int (1 : Int32)), .val (.int (0 : Int32)), .val (.int vr70), .val (.int vr74), .val (.int vr78), .val (.int vr82)] [(.int (1 : Int32))]))
        exact own_retN X96 hx (t := .boolean) Bd.returns hlk (by simp) (hb hby at_226) (by decide) (by decide) e96 ⟨rfl, N96⟩
      · refine own_fs (XS.icmpNo X12.here hx rfl (hb hby at_111) rfl (XT.ii_eq_f hc111) (Steps.refl _)) ?_
        show own_G p.tables e below _ (T12.setTop (mkF m 114 #[.val (.int x0), .val (.int y0), .val (.int s0), .val (.int pa), .val (.int pb), .val (.int sl), .val (.int rr), .val (.ref b1), .val (.int (1 : Int32)), .unset, .unset, .unset, .unset, .unset] []))
        refine own_fs (XS.iconst X12.here hx rfl (hb hby at_114) (Steps.refl _)) ?_
        show own_G p.tables e below _ (T12.setTop (mkF m 115 #[.val (.int x0), .val (.int y0), .val (.int s0), .val (.int pa), .val (.int pb), .val (.int sl), .val (.int rr), .val (.ref b1), .val (.int (1 : Int32)), .unset, .unset, .unset, .unset, .unset] [(.int (1 : Int32))]))
        refine own_fs (XS.goto X12.here hx rfl (pc0 := 115) (pc' := 119) rfl (hb hby at_115) (by decide) (by decide) (Steps.refl _)) ?_
        show own_G p.tables e below _ (T12.setTop (mkF m 119 #[.val (.int x0), .val (.int y0), .val (.int s0), .val (.int pa), .val (.int pb), .val (.int sl), .val (.int rr), .val (.ref b1), .val (.int (1 : Int32)), .unset, .unset, .unset, .unset, .unset] [(.int (1 : Int32))]))
        refine own_fs (XS.istore X12.here hx rfl (hb hby at_119) rfl (l' := #[.val (.int x0), .val (.int y0), .val (.int s0), .val (.int pa), .val (.int pb), .val (.int sl), .val (.int rr), .val (.ref b1), .val (.int (1 : Int32)), .val (.int (1 : Int32)), .unset, .unset, .unset, .unset]) rfl (Steps.refl _)) ?_
        have ia : own_ne pa rr = (1 : Int32) := by simp only [own_ne, hc97, ↓reduceIte]
        have ib : own_ne pb rr = (1 : Int32) := by simp only [own_ne, hc111, ↓reduceIte]
        show own_G p.tables e below _ (T12.setTop (mkF m 121 #[.val (.int x0), .val (.int y0), .val (.int s0), .val (.int pa), .val (.int pb), .val (.int sl), .val (.int rr), .val (.ref b1), .val (.int (1 : Int32)), .val (.int (1 : Int32)), .unset, .unset, .unset, .unset] []))
        refine own_fs (XS.aload X12.here hx rfl (hb hby at_121) rfl rfl (Steps.refl _)) ?_
        show own_G p.tables e below _ (T12.setTop (mkF m 123 #[.val (.int x0), .val (.int y0), .val (.int s0), .val (.int pa), .val (.int pb), .val (.int sl), .val (.int rr), .val (.ref b1), .val (.int (1 : Int32)), .val (.int (1 : Int32)), .unset, .unset, .unset, .unset] [(.ref b1)]))
        refine own_fs (XS.iconst X12.here hx rfl (hb hby at_123) (Steps.refl _)) ?_
        show own_G p.tables e below _ (T12.setTop (mkF m 124 #[.val (.int x0), .val (.int y0), .val (.int s0), .val (.int pa), .val (.int pb), .val (.int sl), .val (.int rr), .val (.ref b1), .val (.int (1 : Int32)), .val (.int (1 : Int32)), .unset, .unset, .unset, .unset] [(.int (0 : Int32)), (.ref b1)]))
        have Zs101 : n0 ≤ h12.size := (Nat.le_trans (Nat.le_trans (Nat.le_trans (Nat.le_trans (Nat.le_trans Z0 E1.1) K3.1) K6.1) K9.1) K12.1)
        obtain ⟨cq100, kq100, q100a, q100b, q100c⟩ := isOf hZ e12 ((((A1.keep K3).keep K6).keep K9).keep K12)
        obtain ⟨_, _, ⟨T100, L100, k100, n100⟩, -, X100, ⟨Lc100, hQ100, l100, y100, z100⟩, st100⟩ := X12.virtualBack hx (y := (⟨"com/example/diligent_tableau/diligenttableau/tableau/Worklist", "next", "(I)I"⟩ : MethodName)) (z := (⟨"com/example/diligent_tableau/diligenttableau/tableau/Worklist", "next", "(I)I"⟩ : MethodName)) hown (mvT hZ (hw _ (List.mem_of_getElem? (i := 29) rfl))) (mvT hZ (hw _ (List.mem_of_getElem? (i := 30) rfl))) (notFace_of_selects (args := #[]) (mvT hZ (hw _ (List.mem_of_getElem? (i := 32) rfl)))) (mvT hZ (hw _ (List.mem_of_getElem? (i := 32) rfl))) (mvT hZ (hw _ (List.mem_of_getElem? (i := 31) rfl))) (by decide) (backOf (W := 0) (own_wnext l Z a0 hw [] b1 (0 : Int32) dd2 kk2 zz2 (own_rem (own_add (own_add own_z pa) pb) rr) h12 n0 Zs101 (P8_0.keep K12 (ninS P8_4 nin0)) P11_0 (own_remz zk2.1 hr) zk2.2.1 zk2.2.2.1 (by decide)) hZ (hw _ (List.mem_of_getElem? (i := 33) rfl)) (hw _ (List.mem_of_getElem? (i := 2) rfl)) (by decide) (by decide)) q100a q100c (g := (mkF m 124 #[.val (.int x0), .val (.int y0), .val (.int s0), .val (.int pa), .val (.int pb), .val (.int sl), .val (.int rr), .val (.ref b1), .val (.int (1 : Int32)), .val (.int (1 : Int32)), .unset, .unset, .unset, .unset] [(.int (0 : Int32)), (.ref b1)])) rfl (by rw [hml]; rfl) (Steps.refl _) (argsL := [(.int (0 : Int32))]) (rest := []) (lenOf own_pd0 rfl) rfl (by show 2 * 0 + _ ≤ _; exact Nat.le_of_eq rfl) (hb hby at_124) (fun _ _ => ⟨rfl, e12, (by decide : 4 + 0 ≤ _), (by decide : 35 + 0 ≤ _)⟩)
        dsimp only [Pt.U, Pt.locs, Pt.cells, Pt.slots] at X100 l100 y100 z100 st100 hQ100
        subst l100 y100 z100
        obtain ⟨vr98, rfl, Nq100, e100, P99_0⟩ := hQ100
        have N100 := Fr.app N12 Nq100
        refine own_fs st100 ?_
        show own_G p.tables e below _ (T100.setTop (mkF m 127 #[.val (.int x0), .val (.int y0), .val (.int s0), .val (.int pa), .val (.int pb), .val (.int sl), .val (.int rr), .val (.ref b1), .val (.int (1 : Int32)), .val (.int (1 : Int32)), .unset, .unset, .unset, .unset] [(.int vr98)]))
        refine own_fs (XS.istore X100.here hx rfl (hb hby at_127) rfl (l' := #[.val (.int x0), .val (.int y0), .val (.int s0), .val (.int pa), .val (.int pb), .val (.int sl), .val (.int rr), .val (.ref b1), .val (.int (1 : Int32)), .val (.int (1 : Int32)), .val (.int vr98), .unset, .unset, .unset]) rfl (Steps.refl _)) ?_
        show own_G p.tables e below _ (T100.setTop (mkF m 129 #[.val (.int x0), .val (.int y0), .val (.int s0), .val (.int pa), .val (.int pb), .val (.int sl), .val (.int rr), .val (.ref b1), .val (.int (1 : Int32)), .val (.int (1 : Int32)), .val (.int vr98), .unset, .unset, .unset] []))
        refine own_fs (XS.aload X100.here hx rfl (hb hby at_129) rfl rfl (Steps.refl _)) ?_
        show own_G p.tables e below _ (T100.setTop (mkF m 131 #[.val (.int x0), .val (.int y0), .val (.int s0), .val (.int pa), .val (.int pb), .val (.int sl), .val (.int rr), .val (.ref b1), .val (.int (1 : Int32)), .val (.int (1 : Int32)), .val (.int vr98), .unset, .unset, .unset] [(.ref b1)]))
        refine own_fs (XS.iload X100.here hx rfl (hb hby at_131) rfl (Steps.refl _)) ?_
        show own_G p.tables e below _ (T100.setTop (mkF m 133 #[.val (.int x0), .val (.int y0), .val (.int s0), .val (.int pa), .val (.int pb), .val (.int sl), .val (.int rr), .val (.ref b1), .val (.int (1 : Int32)), .val (.int (1 : Int32)), .val (.int vr98), .unset, .unset, .unset] [(.int rr), (.ref b1)]))
        have Zs105 : n0 ≤ h12.size := (Nat.le_trans (Nat.le_trans (Nat.le_trans (Nat.le_trans (Nat.le_trans Z0 E1.1) K3.1) K6.1) K9.1) K12.1)
        obtain ⟨cq104, kq104, q104a, q104b, q104c⟩ := isOf hZ e100 ((((A1.keep K3).keep K6).keep K9).keep K12)
        obtain ⟨_, _, ⟨T104, L104, k104, n104⟩, -, X104, ⟨Lc104, hQ104, l104, y104, z104⟩, st104⟩ := X100.virtualBack hx (y := (⟨"com/example/diligent_tableau/diligenttableau/tableau/Worklist", "next", "(I)I"⟩ : MethodName)) (z := (⟨"com/example/diligent_tableau/diligenttableau/tableau/Worklist", "next", "(I)I"⟩ : MethodName)) hown (mvT hZ (hw _ (List.mem_of_getElem? (i := 29) rfl))) (mvT hZ (hw _ (List.mem_of_getElem? (i := 30) rfl))) (notFace_of_selects (args := #[]) (mvT hZ (hw _ (List.mem_of_getElem? (i := 32) rfl)))) (mvT hZ (hw _ (List.mem_of_getElem? (i := 32) rfl))) (mvT hZ (hw _ (List.mem_of_getElem? (i := 31) rfl))) (by decide) (backOf (W := 0) (own_wnext l Z a0 hw [] b1 rr dd2 kk2 zz2 (own_rem (own_add (own_add own_z pa) pb) rr) h12 n0 Zs105 (P8_0.keep K12 (ninS P8_4 nin0)) P11_0 (own_remz zk2.1 hr) zk2.2.1 zk2.2.2.1 hr) hZ (hw _ (List.mem_of_getElem? (i := 33) rfl)) (hw _ (List.mem_of_getElem? (i := 2) rfl)) (by decide) (by decide)) q104a q104c (g := (mkF m 133 #[.val (.int x0), .val (.int y0), .val (.int s0), .val (.int pa), .val (.int pb), .val (.int sl), .val (.int rr), .val (.ref b1), .val (.int (1 : Int32)), .val (.int (1 : Int32)), .val (.int vr98), .unset, .unset, .unset] [(.int rr), (.ref b1)])) rfl (by rw [hml]; rfl) (Steps.refl _) (argsL := [(.int rr)]) (rest := []) (lenOf own_pd0 rfl) rfl (by show 2 * 0 + _ ≤ _; exact Nat.le_of_eq rfl) (hb hby at_133) (fun _ _ => ⟨rfl, e100, (by decide : 4 + 0 ≤ _), (by decide : 35 + 0 ≤ _)⟩)
        dsimp only [Pt.U, Pt.locs, Pt.cells, Pt.slots] at X104 l104 y104 z104 st104 hQ104
        subst l104 y104 z104
        obtain ⟨vr102, rfl, Nq104, e104, P103_0⟩ := hQ104
        have N104 := Fr.app N100 Nq104
        refine own_fs st104 ?_
        show own_G p.tables e below _ (T104.setTop (mkF m 136 #[.val (.int x0), .val (.int y0), .val (.int s0), .val (.int pa), .val (.int pb), .val (.int sl), .val (.int rr), .val (.ref b1), .val (.int (1 : Int32)), .val (.int (1 : Int32)), .val (.int vr98), .unset, .unset, .unset] [(.int vr102)]))
        refine own_fs (XS.istore X104.here hx rfl (hb hby at_136) rfl (l' := #[.val (.int x0), .val (.int y0), .val (.int s0), .val (.int pa), .val (.int pb), .val (.int sl), .val (.int rr), .val (.ref b1), .val (.int (1 : Int32)), .val (.int (1 : Int32)), .val (.int vr98), .val (.int vr102), .unset, .unset]) rfl (Steps.refl _)) ?_
        show own_G p.tables e below _ (T104.setTop (mkF m 138 #[.val (.int x0), .val (.int y0), .val (.int s0), .val (.int pa), .val (.int pb), .val (.int sl), .val (.int rr), .val (.ref b1), .val (.int (1 : Int32)), .val (.int (1 : Int32)), .val (.int vr98), .val (.int vr102), .unset, .unset] []))
        refine own_fs (XS.aload X104.here hx rfl (hb hby at_138) rfl rfl (Steps.refl _)) ?_
        show own_G p.tables e below _ (T104.setTop (mkF m 140 #[.val (.int x0), .val (.int y0), .val (.int s0), .val (.int pa), .val (.int pb), .val (.int sl), .val (.int rr), .val (.ref b1), .val (.int (1 : Int32)), .val (.int (1 : Int32)), .val (.int vr98), .val (.int vr102), .unset, .unset] [(.ref b1)]))
        refine own_fs (XS.iloadN X104.here hx rfl (hb hby at_140) rfl (Steps.refl _)) ?_
        show own_G p.tables e below _ (T104.setTop (mkF m 141 #[.val (.int x0), .val (.int y0), .val (.int s0), .val (.int pa), .val (.int pb), .val (.int sl), .val (.int rr), .val (.ref b1), .val (.int (1 : Int32)), .val (.int (1 : Int32)), .val (.int vr98), .val (.int vr102), .unset, .unset] [(.int pa), (.ref b1)]))
        have Zs109 : n0 ≤ h12.size := (Nat.le_trans (Nat.le_trans (Nat.le_trans (Nat.le_trans (Nat.le_trans Z0 E1.1) K3.1) K6.1) K9.1) K12.1)
        obtain ⟨cq108, kq108, q108a, q108b, q108c⟩ := isOf hZ e104 ((((A1.keep K3).keep K6).keep K9).keep K12)
        obtain ⟨_, _, ⟨T108, L108, k108, n108⟩, -, X108, ⟨Lc108, hQ108, l108, y108, z108⟩, st108⟩ := X104.virtualBack hx (y := (⟨"com/example/diligent_tableau/diligenttableau/tableau/Worklist", "next", "(I)I"⟩ : MethodName)) (z := (⟨"com/example/diligent_tableau/diligenttableau/tableau/Worklist", "next", "(I)I"⟩ : MethodName)) hown (mvT hZ (hw _ (List.mem_of_getElem? (i := 29) rfl))) (mvT hZ (hw _ (List.mem_of_getElem? (i := 30) rfl))) (notFace_of_selects (args := #[]) (mvT hZ (hw _ (List.mem_of_getElem? (i := 32) rfl)))) (mvT hZ (hw _ (List.mem_of_getElem? (i := 32) rfl))) (mvT hZ (hw _ (List.mem_of_getElem? (i := 31) rfl))) (by decide) (backOf (W := 0) (own_wnext l Z a0 hw [] b1 pa dd2 kk2 zz2 (own_rem (own_add (own_add own_z pa) pb) rr) h12 n0 Zs109 (P8_0.keep K12 (ninS P8_4 nin0)) P11_0 (own_remz zk2.1 hr) zk2.2.1 zk2.2.2.1 hA.1) hZ (hw _ (List.mem_of_getElem? (i := 33) rfl)) (hw _ (List.mem_of_getElem? (i := 2) rfl)) (by decide) (by decide)) q108a q108c (g := (mkF m 141 #[.val (.int x0), .val (.int y0), .val (.int s0), .val (.int pa), .val (.int pb), .val (.int sl), .val (.int rr), .val (.ref b1), .val (.int (1 : Int32)), .val (.int (1 : Int32)), .val (.int vr98), .val (.int vr102), .unset, .unset] [(.int pa), (.ref b1)])) rfl (by rw [hml]; rfl) (Steps.refl _) (argsL := [(.int pa)]) (rest := []) (lenOf own_pd0 rfl) rfl (by show 2 * 0 + _ ≤ _; exact Nat.le_of_eq rfl) (hb hby at_141) (fun _ _ => ⟨rfl, e104, (by decide : 4 + 0 ≤ _), (by decide : 35 + 0 ≤ _)⟩)
        dsimp only [Pt.U, Pt.locs, Pt.cells, Pt.slots] at X108 l108 y108 z108 st108 hQ108
        subst l108 y108 z108
        obtain ⟨vr106, rfl, Nq108, e108, P107_0⟩ := hQ108
        have N108 := Fr.app N104 Nq108
        refine own_fs st108 ?_
        show own_G p.tables e below _ (T108.setTop (mkF m 144 #[.val (.int x0), .val (.int y0), .val (.int s0), .val (.int pa), .val (.int pb), .val (.int sl), .val (.int rr), .val (.ref b1), .val (.int (1 : Int32)), .val (.int (1 : Int32)), .val (.int vr98), .val (.int vr102), .unset, .unset] [(.int vr106)]))
        refine own_fs (XS.istore X108.here hx rfl (hb hby at_144) rfl (l' := #[.val (.int x0), .val (.int y0), .val (.int s0), .val (.int pa), .val (.int pb), .val (.int sl), .val (.int rr), .val (.ref b1), .val (.int (1 : Int32)), .val (.int (1 : Int32)), .val (.int vr98), .val (.int vr102), .val (.int vr106), .unset]) rfl (Steps.refl _)) ?_
        show own_G p.tables e below _ (T108.setTop (mkF m 146 #[.val (.int x0), .val (.int y0), .val (.int s0), .val (.int pa), .val (.int pb), .val (.int sl), .val (.int rr), .val (.ref b1), .val (.int (1 : Int32)), .val (.int (1 : Int32)), .val (.int vr98), .val (.int vr102), .val (.int vr106), .unset] []))
        refine own_fs (XS.aload X108.here hx rfl (hb hby at_146) rfl rfl (Steps.refl _)) ?_
        show own_G p.tables e below _ (T108.setTop (mkF m 148 #[.val (.int x0), .val (.int y0), .val (.int s0), .val (.int pa), .val (.int pb), .val (.int sl), .val (.int rr), .val (.ref b1), .val (.int (1 : Int32)), .val (.int (1 : Int32)), .val (.int vr98), .val (.int vr102), .val (.int vr106), .unset] [(.ref b1)]))
        refine own_fs (XS.iload X108.here hx rfl (hb hby at_148) rfl (Steps.refl _)) ?_
        show own_G p.tables e below _ (T108.setTop (mkF m 150 #[.val (.int x0), .val (.int y0), .val (.int s0), .val (.int pa), .val (.int pb), .val (.int sl), .val (.int rr), .val (.ref b1), .val (.int (1 : Int32)), .val (.int (1 : Int32)), .val (.int vr98), .val (.int vr102), .val (.int vr106), .unset] [(.int pb), (.ref b1)]))
        have Zs113 : n0 ≤ h12.size := (Nat.le_trans (Nat.le_trans (Nat.le_trans (Nat.le_trans (Nat.le_trans Z0 E1.1) K3.1) K6.1) K9.1) K12.1)
        obtain ⟨cq112, kq112, q112a, q112b, q112c⟩ := isOf hZ e108 ((((A1.keep K3).keep K6).keep K9).keep K12)
        obtain ⟨_, _, ⟨T112, L112, k112, n112⟩, -, X112, ⟨Lc112, hQ112, l112, y112, z112⟩, st112⟩ := X108.virtualBack hx (y := (⟨"com/example/diligent_tableau/diligenttableau/tableau/Worklist", "next", "(I)I"⟩ : MethodName)) (z := (⟨"com/example/diligent_tableau/diligenttableau/tableau/Worklist", "next", "(I)I"⟩ : MethodName)) hown (mvT hZ (hw _ (List.mem_of_getElem? (i := 29) rfl))) (mvT hZ (hw _ (List.mem_of_getElem? (i := 30) rfl))) (notFace_of_selects (args := #[]) (mvT hZ (hw _ (List.mem_of_getElem? (i := 32) rfl)))) (mvT hZ (hw _ (List.mem_of_getElem? (i := 32) rfl))) (mvT hZ (hw _ (List.mem_of_getElem? (i := 31) rfl))) (by decide) (backOf (W := 0) (own_wnext l Z a0 hw [] b1 pb dd2 kk2 zz2 (own_rem (own_add (own_add own_z pa) pb) rr) h12 n0 Zs113 (P8_0.keep K12 (ninS P8_4 nin0)) P11_0 (own_remz zk2.1 hr) zk2.2.1 zk2.2.2.1 hB.1) hZ (hw _ (List.mem_of_getElem? (i := 33) rfl)) (hw _ (List.mem_of_getElem? (i := 2) rfl)) (by decide) (by decide)) q112a q112c (g := (mkF m 150 #[.val (.int x0), .val (.int y0), .val (.int s0), .val (.int pa), .val (.int pb), .val (.int sl), .val (.int rr), .val (.ref b1), .val (.int (1 : Int32)), .val (.int (1 : Int32)), .val (.int vr98), .val (.int vr102), .val (.int vr106), .unset] [(.int pb), (.ref b1)])) rfl (by rw [hml]; rfl) (Steps.refl _) (argsL := [(.int pb)]) (rest := []) (lenOf own_pd0 rfl) rfl (by show 2 * 0 + _ ≤ _; exact Nat.le_of_eq rfl) (hb hby at_150) (fun _ _ => ⟨rfl, e108, (by decide : 4 + 0 ≤ _), (by decide : 35 + 0 ≤ _)⟩)
        dsimp only [Pt.U, Pt.locs, Pt.cells, Pt.slots] at X112 l112 y112 z112 st112 hQ112
        subst l112 y112 z112
        obtain ⟨vr110, rfl, Nq112, e112, P111_0⟩ := hQ112
        have N112 := Fr.app N108 Nq112
        refine own_fs st112 ?_
        show own_G p.tables e below _ (T112.setTop (mkF m 153 #[.val (.int x0), .val (.int y0), .val (.int s0), .val (.int pa), .val (.int pb), .val (.int sl), .val (.int rr), .val (.ref b1), .val (.int (1 : Int32)), .val (.int (1 : Int32)), .val (.int vr98), .val (.int vr102), .val (.int vr106), .unset] [(.int vr110)]))
        refine own_fs (XS.istore X112.here hx rfl (hb hby at_153) rfl (l' := #[.val (.int x0), .val (.int y0), .val (.int s0), .val (.int pa), .val (.int pb), .val (.int sl), .val (.int rr), .val (.ref b1), .val (.int (1 : Int32)), .val (.int (1 : Int32)), .val (.int vr98), .val (.int vr102), .val (.int vr106), .val (.int vr110)]) rfl (Steps.refl _)) ?_
        show own_G p.tables e below _ (T112.setTop (mkF m 155 #[.val (.int x0), .val (.int y0), .val (.int s0), .val (.int pa), .val (.int pb), .val (.int sl), .val (.int rr), .val (.ref b1), .val (.int (1 : Int32)), .val (.int (1 : Int32)), .val (.int vr98), .val (.int vr102), .val (.int vr106), .val (.int vr110)] []))
        refine own_fs (XS.iload X112.here hx rfl (hb hby at_155) rfl (Steps.refl _)) ?_
        show own_G p.tables e below _ (T112.setTop (mkF m 157 #[.val (.int x0), .val (.int y0), .val (.int s0), .val (.int pa), .val (.int pb), .val (.int sl), .val (.int rr), .val (.ref b1), .val (.int (1 : Int32)), .val (.int (1 : Int32)), .val (.int vr98), .val (.int vr102), .val (.int vr106), .val (.int vr110)] [(.int vr98)]))
        refine own_fs (XS.iconst X112.here hx rfl (hb hby at_157) (Steps.refl _)) ?_
        show own_G p.tables e below _ (T112.setTop (mkF m 158 #[.val (.int x0), .val (.int y0), .val (.int s0), .val (.int pa), .val (.int pb), .val (.int sl), .val (.int rr), .val (.ref b1), .val (.int (1 : Int32)), .val (.int (1 : Int32)), .val (.int vr98), .val (.int vr102), .val (.int vr106), .val (.int vr110)] [(.int (0 : Int32)), (.int vr98)]))
        refine own_fs (XS.iloadN X112.here hx rfl (hb hby at_158) rfl (Steps.refl _)) ?_
        show own_G p.tables e below _ (T112.setTop (mkF m 159 #[.val (.int x0), .val (.int y0), .val (.int s0), .val (.int pa), .val (.int pb), .val (.int sl), .val (.int rr), .val (.ref b1), .val (.int (1 : Int32)), .val (.int (1 : Int32)), .val (.int vr98), .val (.int vr102), .val (.int vr106), .val (.int vr110)] [(.int pa), (.int (0 : Int32)), (.int vr98)]))
        refine own_fs (XS.iload X112.here hx rfl (hb hby at_159) rfl (Steps.refl _)) ?_
        show own_G p.tables e below _ (T112.setTop (mkF m 161 #[.val (.int x0), .val (.int y0), .val (.int s0), .val (.int pa), .val (.int pb), .val (.int sl), .val (.int rr), .val (.ref b1), .val (.int (1 : Int32)), .val (.int (1 : Int32)), .val (.int vr98), .val (.int vr102), .val (.int vr106), .val (.int vr110)] [(.int (1 : Int32)), (.int pa), (.int (0 : Int32)), (.int vr98)]))
        refine own_fs (XS.iload X112.here hx rfl (hb hby at_161) rfl (Steps.refl _)) ?_
        show own_G p.tables e below _ (T112.setTop (mkF m 163 #[.val (.int x0), .val (.int y0), .val (.int s0), .val (.int pa), .val (.int pb), .val (.int sl), .val (.int rr), .val (.ref b1), .val (.int (1 : Int32)), .val (.int (1 : Int32)), .val (.int vr98), .val (.int vr102), .val (.int vr106), .val (.int vr110)] [(.int pb), (.int (1 : Int32)), (.int pa), (.int (0 : Int32)), (.int vr98)]))
        refine own_fs (XS.iload X112.here hx rfl (hb hby at_163) rfl (Steps.refl _)) ?_
        show own_G p.tables e below _ (T112.setTop (mkF m 165 #[.val (.int x0), .val (.int y0), .val (.int s0), .val (.int pa), .val (.int pb), .val (.int sl), .val (.int rr), .val (.ref b1), .val (.int (1 : Int32)), .val (.int (1 : Int32)), .val (.int vr98), .val (.int vr102), .val (.int vr106), .val (.int vr110)] [(.int (1 : Int32)), (.int pb), (.int (1 : Int32)), (.int pa), (.int (0 : Int32)), (.int vr98)]))
        have Zs116 : n0 ≤ h12.size := (Nat.le_trans (Nat.le_trans (Nat.le_trans (Nat.le_trans (Nat.le_trans Z0 E1.1) K3.1) K6.1) K9.1) K12.1)
        obtain ⟨_, _, ⟨T115, L115, k115, n115⟩, -, X115, ⟨Lc115, hQ115, l115, y115, z115⟩, st115⟩ := Jvm.LawKit.callS X112 hx (y := (⟨"com/example/diligent_tableau/diligenttableau/tableau/WorklistRemovePinLaw", "least", "(IIZIZ)I"⟩ : MethodName)) hown (mvT hZ (hw _ (List.mem_of_getElem? (i := 43) rfl))) (mvT hZ (hw _ (List.mem_of_getElem? (i := 44) rfl))) (mvT hZ (hw _ (List.mem_of_getElem? (i := 45) rfl))) (mvT hZ (hw _ (List.mem_of_getElem? (i := 46) rfl))) (by decide) (backOf (W := 1) (own_rleast l Z a0 hw [] (0 : Int32) pa (1 : Int32) pb (1 : Int32) h12 n0 Zs116 hA.1) hZ (hw _ (List.mem_of_getElem? (i := 46) rfl)) (hw _ (List.mem_of_getElem? (i := 45) rfl)) (by decide) (by decide)) (g := (mkF m 165 #[.val (.int x0), .val (.int y0), .val (.int s0), .val (.int pa), .val (.int pb), .val (.int sl), .val (.int rr), .val (.ref b1), .val (.int (1 : Int32)), .val (.int (1 : Int32)), .val (.int vr98), .val (.int vr102), .val (.int vr106), .val (.int vr110)] [(.int (1 : Int32)), (.int pb), (.int (1 : Int32)), (.int pa), (.int (0 : Int32)), (.int vr98)])) rfl (by rw [hml]; rfl) (argsL := [(.int (0 : Int32)), (.int pa), (.int (1 : Int32)), (.int pb), (.int (1 : Int32))]) (rest := [(.int vr98)]) (lenOf own_pd6 rfl) rfl (by show 2 * 0 + _ ≤ _; exact Nat.le_of_eq rfl) (hb hby at_165) (fun _ _ => ⟨rfl, e112, (by decide : 4 + 0 ≤ _), (by decide : 35 + 0 ≤ _)⟩)
        dsimp only [Pt.U, Pt.locs, Pt.cells, Pt.slots] at X115 l115 y115 z115 st115 hQ115
        subst l115 y115 z115
        obtain ⟨rfl, Nq115, e115⟩ := hQ115
        have N115 := Fr.app N112 Nq115
        refine own_fs (st115 _ (Steps.refl _)) ?_
        show own_G p.tables e below _ (T115.setTop (mkF m 168 #[.val (.int x0), .val (.int y0), .val (.int s0), .val (.int pa), .val (.int pb), .val (.int sl), .val (.int rr), .val (.ref b1), .val (.int (1 : Int32)), .val (.int (1 : Int32)), .val (.int vr98), .val (.int vr102), .val (.int vr106), .val (.int vr110)] [(.int (own_least (0 : Int32) pa (1 : Int32) pb (1 : Int32))), (.int vr98)]))
        refine own_fs (XS.icmpNo X115.here hx rfl (hb hby at_168) rfl (XT.ii_ne_f (own_fin hA.1 hB.1 hr ia ib (by decide) P99_0)) (Steps.refl _)) ?_
        show own_G p.tables e below _ (T115.setTop (mkF m 171 #[.val (.int x0), .val (.int y0), .val (.int s0), .val (.int pa), .val (.int pb), .val (.int sl), .val (.int rr), .val (.ref b1), .val (.int (1 : Int32)), .val (.int (1 : Int32)), .val (.int vr98), .val (.int vr102), .val (.int vr106), .val (.int vr110)] []))
        refine own_fs (XS.iload X115.here hx rfl (hb hby at_171) rfl (Steps.refl _)) ?_
        show own_G p.tables e below _ (T115.setTop (mkF m 173 #[.val (.int x0), .val (.int y0), .val (.int s0), .val (.int pa), .val (.int pb), .val (.int sl), .val (.int rr), .val (.ref b1), .val (.int (1 : Int32)), .val (.int (1 : Int32)), .val (.int vr98), .val (.int vr102), .val (.int vr106), .val (.int vr110)] [(.int vr102)]))
        refine own_fs (XS.iload X115.here hx rfl (hb hby at_173) rfl (Steps.refl _)) ?_
        show own_G p.tables e below _ (T115.setTop (mkF m 175 #[.val (.int x0), .val (.int y0), .val (.int s0), .val (.int pa), .val (.int pb), .val (.int sl), .val (.int rr), .val (.ref b1), .val (.int (1 : Int32)), .val (.int (1 : Int32)), .val (.int vr98), .val (.int vr102), .val (.int vr106), .val (.int vr110)] [(.int rr), (.int vr102)]))
        refine own_fs (XS.iloadN X115.here hx rfl (hb hby at_175) rfl (Steps.refl _)) ?_
        show own_G p.tables e below _ (T115.setTop (mkF m 176 #[.val (.int x0), .val (.int y0), .val (.int s0), .val (.int pa), .val (.int pb), .val (.int sl), .val (.int rr), .val (.ref b1), .val (.int (1 : Int32)), .val (.int (1 : Int32)), .val (.int vr98), .val (.int vr102), .val (.int vr106), .val (.int vr110)] [(.int pa), (.int rr), (.int vr102)]))
        refine own_fs (XS.iload X115.here hx rfl (hb hby at_176) rfl (Steps.refl _)) ?_
        show own_G p.tables e below _ (T115.setTop (mkF m 178 #[.val (.int x0), .val (.int y0), .val (.int s0), .val (.int pa), .val (.int pb), .val (.int sl), .val (.int rr), .val (.ref b1), .val (.int (1 : Int32)), .val (.int (1 : Int32)), .val (.int vr98), .val (.int vr102), .val (.int vr106), .val (.int vr110)] [(.int (1 : Int32)), (.int pa), (.int rr), (.int vr102)]))
        refine own_fs (XS.iload X115.here hx rfl (hb hby at_178) rfl (Steps.refl _)) ?_
        show own_G p.tables e below _ (T115.setTop (mkF m 180 #[.val (.int x0), .val (.int y0), .val (.int s0), .val (.int pa), .val (.int pb), .val (.int sl), .val (.int rr), .val (.ref b1), .val (.int (1 : Int32)), .val (.int (1 : Int32)), .val (.int vr98), .val (.int vr102), .val (.int vr106), .val (.int vr110)] [(.int pb), (.int (1 : Int32)), (.int pa), (.int rr), (.int vr102)]))
        refine own_fs (XS.iload X115.here hx rfl (hb hby at_180) rfl (Steps.refl _)) ?_
        show own_G p.tables e below _ (T115.setTop (mkF m 182 #[.val (.int x0), .val (.int y0), .val (.int s0), .val (.int pa), .val (.int pb), .val (.int sl), .val (.int rr), .val (.ref b1), .val (.int (1 : Int32)), .val (.int (1 : Int32)), .val (.int vr98), .val (.int vr102), .val (.int vr106), .val (.int vr110)] [(.int (1 : Int32)), (.int pb), (.int (1 : Int32)), (.int pa), (.int rr), (.int vr102)]))
        have Zs119 : n0 ≤ h12.size := (Nat.le_trans (Nat.le_trans (Nat.le_trans (Nat.le_trans (Nat.le_trans Z0 E1.1) K3.1) K6.1) K9.1) K12.1)
        obtain ⟨_, _, ⟨T118, L118, k118, n118⟩, -, X118, ⟨Lc118, hQ118, l118, y118, z118⟩, st118⟩ := Jvm.LawKit.callS X115 hx (y := (⟨"com/example/diligent_tableau/diligenttableau/tableau/WorklistRemovePinLaw", "least", "(IIZIZ)I"⟩ : MethodName)) hown (mvT hZ (hw _ (List.mem_of_getElem? (i := 43) rfl))) (mvT hZ (hw _ (List.mem_of_getElem? (i := 44) rfl))) (mvT hZ (hw _ (List.mem_of_getElem? (i := 45) rfl))) (mvT hZ (hw _ (List.mem_of_getElem? (i := 46) rfl))) (by decide) (backOf (W := 1) (own_rleast l Z a0 hw [] rr pa (1 : Int32) pb (1 : Int32) h12 n0 Zs119 hA.1) hZ (hw _ (List.mem_of_getElem? (i := 46) rfl)) (hw _ (List.mem_of_getElem? (i := 45) rfl)) (by decide) (by decide)) (g := (mkF m 182 #[.val (.int x0), .val (.int y0), .val (.int s0), .val (.int pa), .val (.int pb), .val (.int sl), .val (.int rr), .val (.ref b1), .val (.int (1 : Int32)), .val (.int (1 : Int32)), .val (.int vr98), .val (.int vr102), .val (.int vr106), .val (.int vr110)] [(.int (1 : Int32)), (.int pb), (.int (1 : Int32)), (.int pa), (.int rr), (.int vr102)])) rfl (by rw [hml]; rfl) (argsL := [(.int rr), (.int pa), (.int (1 : Int32)), (.int pb), (.int (1 : Int32))]) (rest := [(.int vr102)]) (lenOf own_pd6 rfl) rfl (by show 2 * 0 + _ ≤ _; exact Nat.le_of_eq rfl) (hb hby at_182) (fun _ _ => ⟨rfl, e115, (by decide : 4 + 0 ≤ _), (by decide : 35 + 0 ≤ _)⟩)
        dsimp only [Pt.U, Pt.locs, Pt.cells, Pt.slots] at X118 l118 y118 z118 st118 hQ118
        subst l118 y118 z118
        obtain ⟨rfl, Nq118, e118⟩ := hQ118
        have N118 := Fr.app N115 Nq118
        refine own_fs (st118 _ (Steps.refl _)) ?_
        show own_G p.tables e below _ (T118.setTop (mkF m 185 #[.val (.int x0), .val (.int y0), .val (.int s0), .val (.int pa), .val (.int pb), .val (.int sl), .val (.int rr), .val (.ref b1), .val (.int (1 : Int32)), .val (.int (1 : Int32)), .val (.int vr98), .val (.int vr102), .val (.int vr106), .val (.int vr110)] [(.int (own_least rr pa (1 : Int32) pb (1 : Int32))), (.int vr102)]))
        refine own_fs (XS.icmpNo X118.here hx rfl (hb hby at_185) rfl (XT.ii_ne_f (own_fin hA.1 hB.1 hr ia ib hr P103_0)) (Steps.refl _)) ?_
        show own_G p.tables e below _ (T118.setTop (mkF m 188 #[.val (.int x0), .val (.int y0), .val (.int s0), .val (.int pa), .val (.int pb), .val (.int sl), .val (.int rr), .val (.ref b1), .val (.int (1 : Int32)), .val (.int (1 : Int32)), .val (.int vr98), .val (.int vr102), .val (.int vr106), .val (.int vr110)] []))
        refine own_fs (XS.iload X118.here hx rfl (hb hby at_188) rfl (Steps.refl _)) ?_
        show own_G p.tables e below _ (T118.setTop (mkF m 190 #[.val (.int x0), .val (.int y0), .val (.int s0), .val (.int pa), .val (.int pb), .val (.int sl), .val (.int rr), .val (.ref b1), .val (.int (1 : Int32)), .val (.int (1 : Int32)), .val (.int vr98), .val (.int vr102), .val (.int vr106), .val (.int vr110)] [(.int vr106)]))
        refine own_fs (XS.iloadN X118.here hx rfl (hb hby at_190) rfl (Steps.refl _)) ?_
        show own_G p.tables e below _ (T118.setTop (mkF m 191 #[.val (.int x0), .val (.int y0), .val (.int s0), .val (.int pa), .val (.int pb), .val (.int sl), .val (.int rr), .val (.ref b1), .val (.int (1 : Int32)), .val (.int (1 : Int32)), .val (.int vr98), .val (.int vr102), .val (.int vr106), .val (.int vr110)] [(.int pa), (.int vr106)]))
        refine own_fs (XS.iloadN X118.here hx rfl (hb hby at_191) rfl (Steps.refl _)) ?_
        show own_G p.tables e below _ (T118.setTop (mkF m 192 #[.val (.int x0), .val (.int y0), .val (.int s0), .val (.int pa), .val (.int pb), .val (.int sl), .val (.int rr), .val (.ref b1), .val (.int (1 : Int32)), .val (.int (1 : Int32)), .val (.int vr98), .val (.int vr102), .val (.int vr106), .val (.int vr110)] [(.int pa), (.int pa), (.int vr106)]))
        refine own_fs (XS.iload X118.here hx rfl (hb hby at_192) rfl (Steps.refl _)) ?_
        show own_G p.tables e below _ (T118.setTop (mkF m 194 #[.val (.int x0), .val (.int y0), .val (.int s0), .val (.int pa), .val (.int pb), .val (.int sl), .val (.int rr), .val (.ref b1), .val (.int (1 : Int32)), .val (.int (1 : Int32)), .val (.int vr98), .val (.int vr102), .val (.int vr106), .val (.int vr110)] [(.int (1 : Int32)), (.int pa), (.int pa), (.int vr106)]))
        refine own_fs (XS.iload X118.here hx rfl (hb hby at_194) rfl (Steps.refl _)) ?_
        show own_G p.tables e below _ (T118.setTop (mkF m 196 #[.val (.int x0), .val (.int y0), .val (.int s0), .val (.int pa), .val (.int pb), .val (.int sl), .val (.int rr), .val (.ref b1), .val (.int (1 : Int32)), .val (.int (1 : Int32)), .val (.int vr98), .val (.int vr102), .val (.int vr106), .val (.int vr110)] [(.int pb), (.int (1 : Int32)), (.int pa), (.int pa), (.int vr106)]))
        refine own_fs (XS.iload X118.here hx rfl (hb hby at_196) rfl (Steps.refl _)) ?_
        show own_G p.tables e below _ (T118.setTop (mkF m 198 #[.val (.int x0), .val (.int y0), .val (.int s0), .val (.int pa), .val (.int pb), .val (.int sl), .val (.int rr), .val (.ref b1), .val (.int (1 : Int32)), .val (.int (1 : Int32)), .val (.int vr98), .val (.int vr102), .val (.int vr106), .val (.int vr110)] [(.int (1 : Int32)), (.int pb), (.int (1 : Int32)), (.int pa), (.int pa), (.int vr106)]))
        have Zs122 : n0 ≤ h12.size := (Nat.le_trans (Nat.le_trans (Nat.le_trans (Nat.le_trans (Nat.le_trans Z0 E1.1) K3.1) K6.1) K9.1) K12.1)
        obtain ⟨_, _, ⟨T121, L121, k121, n121⟩, -, X121, ⟨Lc121, hQ121, l121, y121, z121⟩, st121⟩ := Jvm.LawKit.callS X118 hx (y := (⟨"com/example/diligent_tableau/diligenttableau/tableau/WorklistRemovePinLaw", "least", "(IIZIZ)I"⟩ : MethodName)) hown (mvT hZ (hw _ (List.mem_of_getElem? (i := 43) rfl))) (mvT hZ (hw _ (List.mem_of_getElem? (i := 44) rfl))) (mvT hZ (hw _ (List.mem_of_getElem? (i := 45) rfl))) (mvT hZ (hw _ (List.mem_of_getElem? (i := 46) rfl))) (by decide) (backOf (W := 1) (own_rleast l Z a0 hw [] pa pa (1 : Int32) pb (1 : Int32) h12 n0 Zs122 hA.1) hZ (hw _ (List.mem_of_getElem? (i := 46) rfl)) (hw _ (List.mem_of_getElem? (i := 45) rfl)) (by decide) (by decide)) (g := (mkF m 198 #[.val (.int x0), .val (.int y0), .val (.int s0), .val (.int pa), .val (.int pb), .val (.int sl), .val (.int rr), .val (.ref b1), .val (.int (1 : Int32)), .val (.int (1 : Int32)), .val (.int vr98), .val (.int vr102), .val (.int vr106), .val (.int vr110)] [(.int (1 : Int32)), (.int pb), (.int (1 : Int32)), (.int pa), (.int pa), (.int vr106)])) rfl (by rw [hml]; rfl) (argsL := [(.int pa), (.int pa), (.int (1 : Int32)), (.int pb), (.int (1 : Int32))]) (rest := [(.int vr106)]) (lenOf own_pd6 rfl) rfl (by show 2 * 0 + _ ≤ _; exact Nat.le_of_eq rfl) (hb hby at_198) (fun _ _ => ⟨rfl, e118, (by decide : 4 + 0 ≤ _), (by decide : 35 + 0 ≤ _)⟩)
        dsimp only [Pt.U, Pt.locs, Pt.cells, Pt.slots] at X121 l121 y121 z121 st121 hQ121
        subst l121 y121 z121
        obtain ⟨rfl, Nq121, e121⟩ := hQ121
        have N121 := Fr.app N118 Nq121
        refine own_fs (st121 _ (Steps.refl _)) ?_
        show own_G p.tables e below _ (T121.setTop (mkF m 201 #[.val (.int x0), .val (.int y0), .val (.int s0), .val (.int pa), .val (.int pb), .val (.int sl), .val (.int rr), .val (.ref b1), .val (.int (1 : Int32)), .val (.int (1 : Int32)), .val (.int vr98), .val (.int vr102), .val (.int vr106), .val (.int vr110)] [(.int (own_least pa pa (1 : Int32) pb (1 : Int32))), (.int vr106)]))
        refine own_fs (XS.icmpNo X121.here hx rfl (hb hby at_201) rfl (XT.ii_ne_f (own_fin hA.1 hB.1 hr ia ib hA.1 P107_0)) (Steps.refl _)) ?_
        show own_G p.tables e below _ (T121.setTop (mkF m 204 #[.val (.int x0), .val (.int y0), .val (.int s0), .val (.int pa), .val (.int pb), .val (.int sl), .val (.int rr), .val (.ref b1), .val (.int (1 : Int32)), .val (.int (1 : Int32)), .val (.int vr98), .val (.int vr102), .val (.int vr106), .val (.int vr110)] []))
        refine own_fs (XS.iload X121.here hx rfl (hb hby at_204) rfl (Steps.refl _)) ?_
        show own_G p.tables e below _ (T121.setTop (mkF m 206 #[.val (.int x0), .val (.int y0), .val (.int s0), .val (.int pa), .val (.int pb), .val (.int sl), .val (.int rr), .val (.ref b1), .val (.int (1 : Int32)), .val (.int (1 : Int32)), .val (.int vr98), .val (.int vr102), .val (.int vr106), .val (.int vr110)] [(.int vr110)]))
        refine own_fs (XS.iload X121.here hx rfl (hb hby at_206) rfl (Steps.refl _)) ?_
        show own_G p.tables e below _ (T121.setTop (mkF m 208 #[.val (.int x0), .val (.int y0), .val (.int s0), .val (.int pa), .val (.int pb), .val (.int sl), .val (.int rr), .val (.ref b1), .val (.int (1 : Int32)), .val (.int (1 : Int32)), .val (.int vr98), .val (.int vr102), .val (.int vr106), .val (.int vr110)] [(.int pb), (.int vr110)]))
        refine own_fs (XS.iloadN X121.here hx rfl (hb hby at_208) rfl (Steps.refl _)) ?_
        show own_G p.tables e below _ (T121.setTop (mkF m 209 #[.val (.int x0), .val (.int y0), .val (.int s0), .val (.int pa), .val (.int pb), .val (.int sl), .val (.int rr), .val (.ref b1), .val (.int (1 : Int32)), .val (.int (1 : Int32)), .val (.int vr98), .val (.int vr102), .val (.int vr106), .val (.int vr110)] [(.int pa), (.int pb), (.int vr110)]))
        refine own_fs (XS.iload X121.here hx rfl (hb hby at_209) rfl (Steps.refl _)) ?_
        show own_G p.tables e below _ (T121.setTop (mkF m 211 #[.val (.int x0), .val (.int y0), .val (.int s0), .val (.int pa), .val (.int pb), .val (.int sl), .val (.int rr), .val (.ref b1), .val (.int (1 : Int32)), .val (.int (1 : Int32)), .val (.int vr98), .val (.int vr102), .val (.int vr106), .val (.int vr110)] [(.int (1 : Int32)), (.int pa), (.int pb), (.int vr110)]))
        refine own_fs (XS.iload X121.here hx rfl (hb hby at_211) rfl (Steps.refl _)) ?_
        show own_G p.tables e below _ (T121.setTop (mkF m 213 #[.val (.int x0), .val (.int y0), .val (.int s0), .val (.int pa), .val (.int pb), .val (.int sl), .val (.int rr), .val (.ref b1), .val (.int (1 : Int32)), .val (.int (1 : Int32)), .val (.int vr98), .val (.int vr102), .val (.int vr106), .val (.int vr110)] [(.int pb), (.int (1 : Int32)), (.int pa), (.int pb), (.int vr110)]))
        refine own_fs (XS.iload X121.here hx rfl (hb hby at_213) rfl (Steps.refl _)) ?_
        show own_G p.tables e below _ (T121.setTop (mkF m 215 #[.val (.int x0), .val (.int y0), .val (.int s0), .val (.int pa), .val (.int pb), .val (.int sl), .val (.int rr), .val (.ref b1), .val (.int (1 : Int32)), .val (.int (1 : Int32)), .val (.int vr98), .val (.int vr102), .val (.int vr106), .val (.int vr110)] [(.int (1 : Int32)), (.int pb), (.int (1 : Int32)), (.int pa), (.int pb), (.int vr110)]))
        have Zs125 : n0 ≤ h12.size := (Nat.le_trans (Nat.le_trans (Nat.le_trans (Nat.le_trans (Nat.le_trans Z0 E1.1) K3.1) K6.1) K9.1) K12.1)
        obtain ⟨_, _, ⟨T124, L124, k124, n124⟩, -, X124, ⟨Lc124, hQ124, l124, y124, z124⟩, st124⟩ := Jvm.LawKit.callS X121 hx (y := (⟨"com/example/diligent_tableau/diligenttableau/tableau/WorklistRemovePinLaw", "least", "(IIZIZ)I"⟩ : MethodName)) hown (mvT hZ (hw _ (List.mem_of_getElem? (i := 43) rfl))) (mvT hZ (hw _ (List.mem_of_getElem? (i := 44) rfl))) (mvT hZ (hw _ (List.mem_of_getElem? (i := 45) rfl))) (mvT hZ (hw _ (List.mem_of_getElem? (i := 46) rfl))) (by decide) (backOf (W := 1) (own_rleast l Z a0 hw [] pb pa (1 : Int32) pb (1 : Int32) h12 n0 Zs125 hA.1) hZ (hw _ (List.mem_of_getElem? (i := 46) rfl)) (hw _ (List.mem_of_getElem? (i := 45) rfl)) (by decide) (by decide)) (g := (mkF m 215 #[.val (.int x0), .val (.int y0), .val (.int s0), .val (.int pa), .val (.int pb), .val (.int sl), .val (.int rr), .val (.ref b1), .val (.int (1 : Int32)), .val (.int (1 : Int32)), .val (.int vr98), .val (.int vr102), .val (.int vr106), .val (.int vr110)] [(.int (1 : Int32)), (.int pb), (.int (1 : Int32)), (.int pa), (.int pb), (.int vr110)])) rfl (by rw [hml]; rfl) (argsL := [(.int pb), (.int pa), (.int (1 : Int32)), (.int pb), (.int (1 : Int32))]) (rest := [(.int vr110)]) (lenOf own_pd6 rfl) rfl (by show 2 * 0 + _ ≤ _; exact Nat.le_of_eq rfl) (hb hby at_215) (fun _ _ => ⟨rfl, e121, (by decide : 4 + 0 ≤ _), (by decide : 35 + 0 ≤ _)⟩)
        dsimp only [Pt.U, Pt.locs, Pt.cells, Pt.slots] at X124 l124 y124 z124 st124 hQ124
        subst l124 y124 z124
        obtain ⟨rfl, Nq124, e124⟩ := hQ124
        have N124 := Fr.app N121 Nq124
        refine own_fs (st124 _ (Steps.refl _)) ?_
        show own_G p.tables e below _ (T124.setTop (mkF m 218 #[.val (.int x0), .val (.int y0), .val (.int s0), .val (.int pa), .val (.int pb), .val (.int sl), .val (.int rr), .val (.ref b1), .val (.int (1 : Int32)), .val (.int (1 : Int32)), .val (.int vr98), .val (.int vr102), .val (.int vr106), .val (.int vr110)] [(.int (own_least pb pa (1 : Int32) pb (1 : Int32))), (.int vr110)]))
        refine own_fs (XS.icmpNo X124.here hx rfl (hb hby at_218) rfl (XT.ii_ne_f (own_fin hA.1 hB.1 hr ia ib hB.1 P111_0)) (Steps.refl _)) ?_
        show own_G p.tables e below _ (T124.setTop (mkF m 221 #[.val (.int x0), .val (.int y0), .val (.int s0), .val (.int pa), .val (.int pb), .val (.int sl), .val (.int rr), .val (.ref b1), .val (.int (1 : Int32)), .val (.int (1 : Int32)), .val (.int vr98), .val (.int vr102), .val (.int vr106), .val (.int vr110)] []))
        refine own_fs (XS.iconst X124.here hx rfl (hb hby at_221) (Steps.refl _)) ?_
        show own_G p.tables e below _ (T124.setTop (mkF m 222 #[.val (.int x0), .val (.int y0), .val (.int s0), .val (.int pa), .val (.int pb), .val (.int sl), .val (.int rr), .val (.ref b1), .val (.int (1 : Int32)), .val (.int (1 : Int32)), .val (.int vr98), .val (.int vr102), .val (.int vr106), .val (.int vr110)] [(.int (1 : Int32))]))
        refine own_fs (XS.goto X124.here hx rfl (pc0 := 222) (pc' := 226) rfl (hb hby at_222) (by decide) (by decide) (Steps.refl _)) ?_
        show own_G p.tables e below _ (T124.setTop (mkF m 226 #[.val (.int x0), .val (.int y0), .val (.int s0), .val (.int pa), .val (.int pb), .val (.int sl), .val (.int rr), .val (.ref b1), .val (.int (1 : Int32)), .val (.int (1 : Int32)), .val (.int vr98), .val (.int vr102), .val (.int vr106), .val (.int vr110)] [(.int (1 : Int32))]))
        exact own_retN X124 hx (t := .boolean) Bd.returns hlk (by simp) (hb hby at_226) (by decide) (by decide) e124 ⟨rfl, N124⟩
  show own_G p.tables e below _ (s₁.setTop (mkF m 18 #[.val (.int x0), .val (.int y0), .val (.int s0), .val (.int pa), .val (.int pb), .val (.int sl), .unset, .unset, .unset, .unset, .unset, .unset, .unset, .unset] []))
  refine own_fs (XS.iload X0.here hx rfl (hb hby at_18) rfl (Steps.refl _)) ?_
  show own_G p.tables e below _ (s₁.setTop (mkF m 20 #[.val (.int x0), .val (.int y0), .val (.int s0), .val (.int pa), .val (.int pb), .val (.int sl), .unset, .unset, .unset, .unset, .unset, .unset, .unset, .unset] [(.int sl)]))
  by_cases hc20 : sl = (0 : Int32)
  · refine own_fs (XS.ifNo X0.here hx rfl (hb hby at_20) rfl (XT.i0_ne_f hc20) (Steps.refl _)) ?_
    show own_G p.tables e below _ (s₁.setTop (mkF m 23 #[.val (.int x0), .val (.int y0), .val (.int s0), .val (.int pa), .val (.int pb), .val (.int sl), .unset, .unset, .unset, .unset, .unset, .unset, .unset, .unset] []))
    refine own_fs (XS.iloadN X0.here hx rfl (hb hby at_23) rfl (Steps.refl _)) ?_
    show own_G p.tables e below _ (s₁.setTop (mkF m 24 #[.val (.int x0), .val (.int y0), .val (.int s0), .val (.int pa), .val (.int pb), .val (.int sl), .unset, .unset, .unset, .unset, .unset, .unset, .unset, .unset] [(.int pa)]))
    refine own_fs (XS.istore X0.here hx rfl (hb hby at_24) rfl (l' := #[.val (.int x0), .val (.int y0), .val (.int s0), .val (.int pa), .val (.int pb), .val (.int sl), .val (.int pa), .unset, .unset, .unset, .unset, .unset, .unset, .unset]) rfl (Steps.refl _)) ?_
    show own_G p.tables e below _ (s₁.setTop (mkF m 26 #[.val (.int x0), .val (.int y0), .val (.int s0), .val (.int pa), .val (.int pb), .val (.int sl), .val (.int pa), .unset, .unset, .unset, .unset, .unset, .unset, .unset] []))
    refine own_fs (XS.goto X0.here hx rfl (pc0 := 26) (pc' := 65) rfl (hb hby at_26) (by decide) (by decide) (Steps.refl _)) ?_
    exact J65 _ (by first | exact hA.1 | exact hB.1 | exact own_r1 _ | exact own_r2 _)
  · refine own_fs (XS.ifYes X0.here hx rfl (pc0 := 20) (pc' := 29) rfl (hb hby at_20) rfl (XT.i0_ne_t hc20) (by decide) (by decide) (Steps.refl _)) ?_
    show own_G p.tables e below _ (s₁.setTop (mkF m 29 #[.val (.int x0), .val (.int y0), .val (.int s0), .val (.int pa), .val (.int pb), .val (.int sl), .unset, .unset, .unset, .unset, .unset, .unset, .unset, .unset] []))
    refine own_fs (XS.iload X0.here hx rfl (hb hby at_29) rfl (Steps.refl _)) ?_
    show own_G p.tables e below _ (s₁.setTop (mkF m 31 #[.val (.int x0), .val (.int y0), .val (.int s0), .val (.int pa), .val (.int pb), .val (.int sl), .unset, .unset, .unset, .unset, .unset, .unset, .unset, .unset] [(.int sl)]))
    refine own_fs (XS.iconst X0.here hx rfl (hb hby at_31) (Steps.refl _)) ?_
    show own_G p.tables e below _ (s₁.setTop (mkF m 32 #[.val (.int x0), .val (.int y0), .val (.int s0), .val (.int pa), .val (.int pb), .val (.int sl), .unset, .unset, .unset, .unset, .unset, .unset, .unset, .unset] [(.int (1 : Int32)), (.int sl)]))
    by_cases hc32 : sl = (1 : Int32)
    · refine own_fs (XS.icmpNo X0.here hx rfl (hb hby at_32) rfl (XT.ii_ne_f hc32) (Steps.refl _)) ?_
      show own_G p.tables e below _ (s₁.setTop (mkF m 35 #[.val (.int x0), .val (.int y0), .val (.int s0), .val (.int pa), .val (.int pb), .val (.int sl), .unset, .unset, .unset, .unset, .unset, .unset, .unset, .unset] []))
      refine own_fs (XS.iload X0.here hx rfl (hb hby at_35) rfl (Steps.refl _)) ?_
      show own_G p.tables e below _ (s₁.setTop (mkF m 37 #[.val (.int x0), .val (.int y0), .val (.int s0), .val (.int pa), .val (.int pb), .val (.int sl), .unset, .unset, .unset, .unset, .unset, .unset, .unset, .unset] [(.int pb)]))
      refine own_fs (XS.istore X0.here hx rfl (hb hby at_37) rfl (l' := #[.val (.int x0), .val (.int y0), .val (.int s0), .val (.int pa), .val (.int pb), .val (.int sl), .val (.int pb), .unset, .unset, .unset, .unset, .unset, .unset, .unset]) rfl (Steps.refl _)) ?_
      show own_G p.tables e below _ (s₁.setTop (mkF m 39 #[.val (.int x0), .val (.int y0), .val (.int s0), .val (.int pa), .val (.int pb), .val (.int sl), .val (.int pb), .unset, .unset, .unset, .unset, .unset, .unset, .unset] []))
      refine own_fs (XS.goto X0.here hx rfl (pc0 := 39) (pc' := 65) rfl (hb hby at_39) (by decide) (by decide) (Steps.refl _)) ?_
      exact J65 _ (by first | exact hA.1 | exact hB.1 | exact own_r1 _ | exact own_r2 _)
    · refine own_fs (XS.icmpYes X0.here hx rfl (pc0 := 32) (pc' := 42) rfl (hb hby at_32) rfl (XT.ii_ne_t hc32) (by decide) (by decide) (Steps.refl _)) ?_
      show own_G p.tables e below _ (s₁.setTop (mkF m 42 #[.val (.int x0), .val (.int y0), .val (.int s0), .val (.int pa), .val (.int pb), .val (.int sl), .unset, .unset, .unset, .unset, .unset, .unset, .unset, .unset] []))
      refine own_fs (XS.iload X0.here hx rfl (hb hby at_42) rfl (Steps.refl _)) ?_
      show own_G p.tables e below _ (s₁.setTop (mkF m 44 #[.val (.int x0), .val (.int y0), .val (.int s0), .val (.int pa), .val (.int pb), .val (.int sl), .unset, .unset, .unset, .unset, .unset, .unset, .unset, .unset] [(.int sl)]))
      refine own_fs (XS.iconst X0.here hx rfl (hb hby at_44) (Steps.refl _)) ?_
      show own_G p.tables e below _ (s₁.setTop (mkF m 45 #[.val (.int x0), .val (.int y0), .val (.int s0), .val (.int pa), .val (.int pb), .val (.int sl), .unset, .unset, .unset, .unset, .unset, .unset, .unset, .unset] [(.int (2 : Int32)), (.int sl)]))
      by_cases hc45 : sl = (2 : Int32)
      · refine own_fs (XS.icmpNo X0.here hx rfl (hb hby at_45) rfl (XT.ii_ne_f hc45) (Steps.refl _)) ?_
        show own_G p.tables e below _ (s₁.setTop (mkF m 48 #[.val (.int x0), .val (.int y0), .val (.int s0), .val (.int pa), .val (.int pb), .val (.int sl), .unset, .unset, .unset, .unset, .unset, .unset, .unset, .unset] []))
        refine own_fs (XS.iloadN X0.here hx rfl (hb hby at_48) rfl (Steps.refl _)) ?_
        show own_G p.tables e below _ (s₁.setTop (mkF m 49 #[.val (.int x0), .val (.int y0), .val (.int s0), .val (.int pa), .val (.int pb), .val (.int sl), .unset, .unset, .unset, .unset, .unset, .unset, .unset, .unset] [(.int s0)]))
        refine own_fs (XS.iconst X0.here hx rfl (hb hby at_49) (Steps.refl _)) ?_
        show own_G p.tables e below _ (s₁.setTop (mkF m 50 #[.val (.int x0), .val (.int y0), .val (.int s0), .val (.int pa), .val (.int pb), .val (.int sl), .unset, .unset, .unset, .unset, .unset, .unset, .unset, .unset] [(.int (2 : Int32)), (.int s0)]))
        refine own_fs (XS.iushr X0.here hx rfl (hb hby at_50) rfl (Steps.refl _)) ?_
        show own_G p.tables e below _ (s₁.setTop (mkF m 51 #[.val (.int x0), .val (.int y0), .val (.int s0), .val (.int pa), .val (.int pb), .val (.int sl), .unset, .unset, .unset, .unset, .unset, .unset, .unset, .unset] [(.int ((s0.toUInt32 >>> ((2 : Int32) &&& 31).toUInt32).toInt32))]))
        refine own_fs (XS.sipush X0.here hx rfl (hb hby at_51) (Steps.refl _)) ?_
        show own_G p.tables e below _ (s₁.setTop (mkF m 54 #[.val (.int x0), .val (.int y0), .val (.int s0), .val (.int pa), .val (.int pb), .val (.int sl), .unset, .unset, .unset, .unset, .unset, .unset, .unset, .unset] [(.int (511 : Int32)), (.int ((s0.toUInt32 >>> ((2 : Int32) &&& 31).toUInt32).toInt32))]))
        refine own_fs (XS.iand X0.here hx rfl (hb hby at_54) rfl (Steps.refl _)) ?_
        show own_G p.tables e below _ (s₁.setTop (mkF m 55 #[.val (.int x0), .val (.int y0), .val (.int s0), .val (.int pa), .val (.int pb), .val (.int sl), .unset, .unset, .unset, .unset, .unset, .unset, .unset, .unset] [(.int (((s0.toUInt32 >>> ((2 : Int32) &&& 31).toUInt32).toInt32) &&& (511 : Int32)))]))
        refine own_fs (XS.istore X0.here hx rfl (hb hby at_55) rfl (l' := #[.val (.int x0), .val (.int y0), .val (.int s0), .val (.int pa), .val (.int pb), .val (.int sl), .val (.int (((s0.toUInt32 >>> ((2 : Int32) &&& 31).toUInt32).toInt32) &&& (511 : Int32))), .unset, .unset, .unset, .unset, .unset, .unset, .unset]) rfl (Steps.refl _)) ?_
        show own_G p.tables e below _ (s₁.setTop (mkF m 57 #[.val (.int x0), .val (.int y0), .val (.int s0), .val (.int pa), .val (.int pb), .val (.int sl), .val (.int (((s0.toUInt32 >>> ((2 : Int32) &&& 31).toUInt32).toInt32) &&& (511 : Int32))), .unset, .unset, .unset, .unset, .unset, .unset, .unset] []))
        refine own_fs (XS.goto X0.here hx rfl (pc0 := 57) (pc' := 65) rfl (hb hby at_57) (by decide) (by decide) (Steps.refl _)) ?_
        exact J65 _ (by first | exact hA.1 | exact hB.1 | exact own_r1 _ | exact own_r2 _)
      · refine own_fs (XS.icmpYes X0.here hx rfl (pc0 := 45) (pc' := 60) rfl (hb hby at_45) rfl (XT.ii_ne_t hc45) (by decide) (by decide) (Steps.refl _)) ?_
        show own_G p.tables e below _ (s₁.setTop (mkF m 60 #[.val (.int x0), .val (.int y0), .val (.int s0), .val (.int pa), .val (.int pb), .val (.int sl), .unset, .unset, .unset, .unset, .unset, .unset, .unset, .unset] []))
        refine own_fs (XS.iloadN X0.here hx rfl (hb hby at_60) rfl (Steps.refl _)) ?_
        show own_G p.tables e below _ (s₁.setTop (mkF m 61 #[.val (.int x0), .val (.int y0), .val (.int s0), .val (.int pa), .val (.int pb), .val (.int sl), .unset, .unset, .unset, .unset, .unset, .unset, .unset, .unset] [(.int s0)]))
        refine own_fs (XS.iconst X0.here hx rfl (hb hby at_61) (Steps.refl _)) ?_
        show own_G p.tables e below _ (s₁.setTop (mkF m 62 #[.val (.int x0), .val (.int y0), .val (.int s0), .val (.int pa), .val (.int pb), .val (.int sl), .unset, .unset, .unset, .unset, .unset, .unset, .unset, .unset] [(.int (2 : Int32)), (.int s0)]))
        refine own_fs (XS.iushr X0.here hx rfl (hb hby at_62) rfl (Steps.refl _)) ?_
        show own_G p.tables e below _ (s₁.setTop (mkF m 63 #[.val (.int x0), .val (.int y0), .val (.int s0), .val (.int pa), .val (.int pb), .val (.int sl), .unset, .unset, .unset, .unset, .unset, .unset, .unset, .unset] [(.int ((s0.toUInt32 >>> ((2 : Int32) &&& 31).toUInt32).toInt32))]))
        refine own_fs (XS.istore X0.here hx rfl (hb hby at_63) rfl (l' := #[.val (.int x0), .val (.int y0), .val (.int s0), .val (.int pa), .val (.int pb), .val (.int sl), .val (.int ((s0.toUInt32 >>> ((2 : Int32) &&& 31).toUInt32).toInt32)), .unset, .unset, .unset, .unset, .unset, .unset, .unset]) rfl (Steps.refl _)) ?_
        exact J65 _ (by first | exact hA.1 | exact hB.1 | exact own_r1 _ | exact own_r2 _)
set_option maxRecDepth 65536 in
set_option maxHeartbeats 40000000 in
theorem comes_1 {Post : Tables → Env → Array Value → State → Outcome → State → Prop} (hpost : ∀ tb e args s v u, (limb_1_1.after args s (.returned v) u = true ∧ limb_1_2.after args s (.returned v) u = true ∧ True) → FrameEnd s (.returned v) u (Jvm.fieldLocs frame_1_writes args s ++ Jvm.arrayLocs frame_1_arrays args s ++ Jvm.staticLocs frame_1_statics s) 16 128 → Post tb e args s (.returned v) u) :
    ArmFor flags0 classFile x code maxLocals ret World_1 tables_1 room_1 Calls_1 rest_1 Pre_1 Post := by
  intro l hfl _ _ p e ha hc hk s m args below hf hA hF happ hP
  obtain ⟨hcalls, hrest, hpre⟩ := hP
  obtain ⟨-, -, -, hnamed, -, -, -, hat⟩ := (Spec.applies_iff hf).mp happ
  obtain ⟨hg, hn⟩ := and_e (Cond.before_iff.mp (show (Jvm.Cond.and given_1 narrow_1).before args s = true from hpre))
  obtain ⟨hcount, hg0⟩ := and_e hg
  obtain ⟨ga0, hg1⟩ := and_e hg0
  obtain ⟨ga1, hg2⟩ := and_e hg1
  obtain ⟨w0, w1, w2, rfl⟩ : ∃ w0 w1 w2 : Value, args = #[w0, w1, w2] := by
    have hs : args.size = 3 := by simpa [Cond.value, given_1] using hcount
    obtain ⟨L⟩ := args
    match L, hs with
    | [w0, w1, w2], _ => exact ⟨w0, w1, w2, rfl⟩
  have hw := fun d (hd : d ∈ tables_1) => atoms_spec (ws := Jvm.Cond.code x code maxLocals ret :: tables_1) hat d (List.mem_cons_of_mem _ hd)
  have hfit : Fit s := fun {y c} hc i hi => by
    obtain ⟨ha, rfl⟩ := Array.getElem?_eq_some_iff.mp hc
    have q := List.all_eq_true.mp ((Array.all_eq_true_iff_forall_mem.mp hF) _ (Array.getElem_mem ha)) i (List.mem_range.mpr hi)
    simpa [Array.getElem?_eq_getElem hi] using q
  obtain ⟨i0, ei0⟩ := is_v ga0
  obtain rfl : w0 = (.int i0) := Option.some.inj ei0
  obtain ⟨i1, ei1⟩ := is_v ga1
  obtain rfl : w1 = (.int i1) := Option.some.inj ei1
  obtain ⟨i2, ei2⟩ := is_v hg2
  obtain rfl : w2 = (.int i2) := Option.some.inj ei2
  obtain ⟨n, o, h1, h2, h3, _, L, rfl, ⟨rfl, N⟩, hq⟩ := own_law l s _ hw tables_1 i0 i1 i2  s.heap s.heap.size (Nat.le_refl _)  p e ha hc hk s m _ below hf ((Spec.applies_iff_loose hf).mp happ).1 ⟨rfl, State.Warmed39.refl s, rfl⟩ trivial
  refine ⟨n, _, h1, h2, h3, hpost _ _ _ _ _ _ ⟨Cond.after_iff.mpr rfl, Cond.after_iff.mpr (eq_i res_at (Term.int_eval (1)) rfl), trivial⟩ ⟨hq.1, hq.2.1, (hq.2.2.sift fun y hy => Or.inr (N y hy)).mono (by decide) (by decide)⟩⟩
theorem main_1_1 : Claimed_1_1 := comes_1 fun _ _ _ _ _ _ h hF => ⟨h.1, hF⟩
theorem main_1_2 : Claimed_1_2 := comes_1 fun _ _ _ _ _ _ h hF => ⟨h.2.1, hF⟩
end Jvm.Pilot.@@N@@
namespace Jvm.Pilot.@@N@@
open Jvm Jvm.ClassFile Sem Op Lib Jvm.Free Jvm.Stand Jvm.Pilot.@@N@@.Jvm.D
/-! MADE BY PROGRAM (witnessworld.py) out of the Statement's table words and the real class files: 20 classes; the members and pool entries that the words name. The judged class is class 1, her method 2. -/
namespace start1
open Jvm.ClassFile
def u (s : String) : CpInfo := .utf8 (stringToUtf16 s)
/-- a pool by its gaps: so many unusable entries, then the entry; so many at the end -/
def gap : Nat → List CpInfo → List CpInfo
  | 0, r => r
  | n + 1, r => .unusable :: gap n r
def poolList (es : List (Nat × CpInfo)) (last : Nat) : List CpInfo := es.foldr (fun e r => gap e.1 (e.2 :: r)) (gap last [])
def pool (es : List (Nat × CpInfo)) (last : Nat) : Array CpInfo := ⟨poolList es last⟩
def fileOf (pool : Array CpInfo) (this : Nat) (attrs : Array Attribute := #[]) (ms : Array MethodInfo := #[]) (fl : Nat := 33) (sup : Nat := 0) (ifs : Array Nat := #[]) (fds : Array FieldInfo := #[]) : ClassFile where
  minorVersion := 0
  majorVersion := 65
  constantPool := pool
  accessFlags := fl
  thisClass := this
  superClass := sup
  interfaces := ifs
  fields := fds
  methods := ms
  attributes := attrs
def plain (name : String) (sup : Option ClassId) : Class where
  name := name
  kind := .ordinary
  loader := none
  accessFlags := 33
  super := sup
  interfaces := #[]
  cf := none
  fields := #[]
  methods := #[]
  instanceTypes := #[]
  staticTypes := #[]
  resolved := #[]
  callSites := []
  init := .initialized
  statics := none
  mirror := none

def pool0 : Array CpInfo := pool [(5, u "<init>"), (0, u "()V"), (1, .class_ 10), (1, u "java/lang/Object")] 113

def k0c0 : Code := { maxStack := 0, maxLocals := 1, code := object_method_1_code, exceptionTable := #[], attributes := #[] }
def k0m0 : Method := { name := "<init>", desc := "()V", sig := { parameters := [], returnType := none }, accessFlags := 1, code := some k0c0 }
/-- java/lang/Object -/
def k0 : Class := { plain "java/lang/Object" none with
  accessFlags := 33
  interfaces := #[]
  cf := some (fileOf pool0 8 #[] #[{ accessFlags := 1, nameIndex := 5, descriptorIndex := 6, attributes := #[] }] 33 0 #[] #[])
  fields := #[]
  methods := #[k0m0]
  instanceTypes := #[]
  staticTypes := #[]
  resolved := Array.replicate 124 none
  statics := none }

def pool1 : Array CpInfo := pool [(2, .class_ 4), (0, .nameAndType 5 6), (0, u "java/lang/Object"), (0, u "<init>"), (0, u "()V"), (0, .class_ 8), (0, u "com/example/diligent_tableau/diligenttableau/tableau/Worklist"), (0, .methodref 7 3), (0, .methodref 7 11), (0, .nameAndType 12 13), (0, u "add"), (0, u "(I)V"), (0, .methodref 7 15), (0, .nameAndType 16 13), (0, u "remove"), (0, .methodref 7 18), (0, .nameAndType 19 20), (0, u "next"), (0, u "(I)I"), (0, .methodref 22 23), (0, .class_ 24), (0, .nameAndType 25 26), (0, u "com/example/diligent_tableau/diligenttableau/tableau/WorklistRemovePinLaw"), (0, u "least"), (0, u "(IIZIZ)I"), (3, u "law"), (0, u "(III)Z")] 2

def k1m0 : Method := { name := "<init>", desc := "()V", sig := { parameters := [], returnType := none }, accessFlags := 1, code := none }
def k1c1 : Code := { maxStack := 2, maxLocals := 6, code := method_2_code, exceptionTable := #[], attributes := #[] }
def k1m1 : Method := { name := "least", desc := "(IIZIZ)I", sig := { parameters := [.int, .int, .boolean, .int, .boolean], returnType := some .int }, accessFlags := 10, code := some k1c1 }
def k1c2 : Code := { maxStack := 6, maxLocals := 14, code := code, exceptionTable := #[], attributes := #[] }
def k1m2 : Method := { name := "law", desc := "(III)Z", sig := { parameters := [.int, .int, .int], returnType := some .boolean }, accessFlags := 9, code := some k1c2 }
/-- com/example/diligent_tableau/diligenttableau/tableau/WorklistRemovePinLaw -/
def k1 : Class := { plain "com/example/diligent_tableau/diligenttableau/tableau/WorklistRemovePinLaw" (some 0) with
  accessFlags := 49
  interfaces := #[]
  cf := some (fileOf pool1 22 #[] #[{ accessFlags := 1, nameIndex := 5, descriptorIndex := 6, attributes := #[] }, { accessFlags := 10, nameIndex := 25, descriptorIndex := 26, attributes := #[] }, { accessFlags := 9, nameIndex := 30, descriptorIndex := 31, attributes := #[] }] 49 2 #[] #[])
  fields := #[]
  methods := #[k1m0, k1m1, k1m2]
  instanceTypes := #[]
  staticTypes := #[]
  resolved := Array.replicate 34 none
  statics := none }

def pool2 : Array CpInfo := pool [(1, .methodref 2 3), (0, .class_ 4), (0, .nameAndType 5 6), (0, u "java/lang/Object"), (0, u "<init>"), (0, u "()V"), (0, .fieldref 8 9), (0, .class_ 10), (0, .nameAndType 11 12), (0, u "com/example/diligent_tableau/diligenttableau/tableau/Worklist"), (0, u "words"), (0, u "[J"), (0, .class_ 14), (0, u "java/lang/Long"), (0, .methodref 16 17), (0, .class_ 18), (0, .nameAndType 19 20), (0, u "java/lang/Math"), (0, u "max"), (0, u "(II)I"), (0, .methodref 22 23), (0, .class_ 24), (0, .nameAndType 25 26), (0, u "java/util/Arrays"), (0, u "copyOf"), (0, u "([JI)[J"), (0, .fieldref 8 28), (0, .nameAndType 29 30), (0, u "lowest"), (0, u "I"), (0, .methodref 16 32), (0, .nameAndType 33 20), (0, u "min"), (2, u "add"), (0, u "(I)V"), (0, .long 18446744073709551615), (11, u "next"), (0, u "(I)I"), (0, .methodref 13 53), (0, .nameAndType 54 55), (0, u "numberOfTrailingZeros"), (0, u "(J)I"), (3, u "remove")] 5

def k2c0 : Code := { maxStack := 2, maxLocals := 1, code := prog_64_method_1_code, exceptionTable := #[], attributes := #[] }
def k2m0 : Method := { name := "<init>", desc := "()V", sig := { parameters := [], returnType := none }, accessFlags := 0, code := some k2c0 }
def k2c1 : Code := { maxStack := 7, maxLocals := 3, code := prog_64_method_2_code, exceptionTable := #[], attributes := #[] }
def k2m1 : Method := { name := "add", desc := "(I)V", sig := { parameters := [.int], returnType := none }, accessFlags := 0, code := some k2c1 }
def k2c2 : Code := { maxStack := 8, maxLocals := 3, code := prog_64_method_4_code, exceptionTable := #[], attributes := #[] }
def k2m2 : Method := { name := "remove", desc := "(I)V", sig := { parameters := [.int], returnType := none }, accessFlags := 0, code := some k2c2 }
def k2c3 : Code := { maxStack := 5, maxLocals := 5, code := prog_64_method_7_code, exceptionTable := #[], attributes := #[] }
def k2m3 : Method := { name := "next", desc := "(I)I", sig := { parameters := [.int], returnType := some .int }, accessFlags := 0, code := some k2c3 }
/-- com/example/diligent_tableau/diligenttableau/tableau/Worklist -/
def k2 : Class := { plain "com/example/diligent_tableau/diligenttableau/tableau/Worklist" (some 0) with
  accessFlags := 32
  interfaces := #[]
  cf := some (fileOf pool2 8 #[] #[{ accessFlags := 0, nameIndex := 5, descriptorIndex := 6, attributes := #[] }, { accessFlags := 0, nameIndex := 36, descriptorIndex := 37, attributes := #[] }, { accessFlags := 0, nameIndex := 59, descriptorIndex := 37, attributes := #[] }, { accessFlags := 0, nameIndex := 50, descriptorIndex := 51, attributes := #[] }] 32 2 #[] #[{ accessFlags := 2, nameIndex := 11, descriptorIndex := 12, attributes := #[] }, { accessFlags := 2, nameIndex := 29, descriptorIndex := 30, attributes := #[] }])
  fields := #[{ name := "words", type := (.array .long), accessFlags := 2, slot := 0, constantValue := 0 }, { name := "lowest", type := .int, accessFlags := 2, slot := 1, constantValue := 0 }]
  methods := #[k2m0, k2m1, k2m2, k2m3]
  instanceTypes := #[(.array .long), .int]
  staticTypes := #[]
  resolved := Array.replicate 65 none
  statics := none }

def pool3 : Array CpInfo := pool [(1, .class_ 2), (0, u "java/lang/Math"), (1, .class_ 6), (1, u "java/lang/Object"), (0, u "<init>"), (0, u "()V"), (89, .class_ 100), (1, u "java/lang/Math$RandomNumberGeneratorHolder"), (71, u "negativeZeroFloatBits"), (0, u "J"), (2, u "negativeZeroDoubleBits"), (21, u "max"), (2, u "min"), (43, u "$assertionsDisabled"), (0, u "Z"), (88, u "(II)I"), (2, u "twoToTheDoubleScaleDown"), (0, u "D"), (4, u "twoToTheDoubleScaleUp"), (9, u "E"), (3, u "PI"), (2, u "TAU"), (2, u "DEGREES_TO_RADIANS"), (0, u "RADIANS_TO_DEGREES")] 94

def k3m0 : Method := { name := "<init>", desc := "()V", sig := { parameters := [], returnType := none }, accessFlags := 2, code := none }
def k3c1 : Code := { maxStack := 2, maxLocals := 2, code := jdk_29_method_65_code, exceptionTable := #[], attributes := #[] }
def k3m1 : Method := { name := "max", desc := "(II)I", sig := { parameters := [.int, .int], returnType := some .int }, accessFlags := 9, code := some k3c1 }
def k3c2 : Code := { maxStack := 2, maxLocals := 2, code := jdk_29_method_69_code, exceptionTable := #[], attributes := #[] }
def k3m2 : Method := { name := "min", desc := "(II)I", sig := { parameters := [.int, .int], returnType := some .int }, accessFlags := 9, code := some k3c2 }
/-- java/lang/Math -/
def k3 : Class := { plain "java/lang/Math" (some 0) with
  accessFlags := 49
  interfaces := #[]
  cf := some (fileOf pool3 1 #[.nestMembers #[98]] #[{ accessFlags := 2, nameIndex := 7, descriptorIndex := 8, attributes := #[] }, { accessFlags := 9, nameIndex := 198, descriptorIndex := 335, attributes := #[] }, { accessFlags := 9, nameIndex := 201, descriptorIndex := 335, attributes := #[] }] 49 4 #[] #[{ accessFlags := 25, nameIndex := 354, descriptorIndex := 339, attributes := #[] }, { accessFlags := 25, nameIndex := 358, descriptorIndex := 339, attributes := #[] }, { accessFlags := 25, nameIndex := 361, descriptorIndex := 339, attributes := #[] }, { accessFlags := 26, nameIndex := 364, descriptorIndex := 339, attributes := #[] }, { accessFlags := 26, nameIndex := 365, descriptorIndex := 339, attributes := #[] }, { accessFlags := 26, nameIndex := 172, descriptorIndex := 173, attributes := #[] }, { accessFlags := 26, nameIndex := 176, descriptorIndex := 173, attributes := #[] }, { accessFlags := 8, nameIndex := 344, descriptorIndex := 339, attributes := #[] }, { accessFlags := 8, nameIndex := 338, descriptorIndex := 339, attributes := #[] }, { accessFlags := 4120, nameIndex := 245, descriptorIndex := 246, attributes := #[] }])
  fields := #[{ name := "E", type := .double, accessFlags := 25, slot := 0, constantValue := 0 }, { name := "PI", type := .double, accessFlags := 25, slot := 1, constantValue := 0 }, { name := "TAU", type := .double, accessFlags := 25, slot := 2, constantValue := 0 }, { name := "DEGREES_TO_RADIANS", type := .double, accessFlags := 26, slot := 3, constantValue := 0 }, { name := "RADIANS_TO_DEGREES", type := .double, accessFlags := 26, slot := 4, constantValue := 0 }, { name := "negativeZeroFloatBits", type := .long, accessFlags := 26, slot := 5, constantValue := 0 }, { name := "negativeZeroDoubleBits", type := .long, accessFlags := 26, slot := 6, constantValue := 0 }, { name := "twoToTheDoubleScaleUp", type := .double, accessFlags := 8, slot := 7, constantValue := 0 }, { name := "twoToTheDoubleScaleDown", type := .double, accessFlags := 8, slot := 8, constantValue := 0 }, { name := "$assertionsDisabled", type := .boolean, accessFlags := 4120, slot := 9, constantValue := 0 }]
  methods := #[k3m0, k3m1, k3m2]
  instanceTypes := #[]
  staticTypes := #[.double, .double, .double, .double, .double, .long, .long, .double, .double, .boolean]
  resolved := Array.replicate 460 none
  statics := none }

def pool4 : Array CpInfo := pool [(1, .class_ 2), (0, u "java/io/Serializable"), (0, .class_ 4), (0, u "java/lang/Object")] 2

/-- java/io/Serializable -/
def k4 : Class := { plain "java/io/Serializable" (some 0) with
  accessFlags := 1537
  interfaces := #[]
  cf := some (fileOf pool4 1 #[] #[] 1537 3 #[] #[])
  fields := #[]
  methods := #[]
  instanceTypes := #[]
  staticTypes := #[]
  resolved := Array.replicate 7 none
  statics := none }

def pool5 : Array CpInfo := pool [(2, .class_ 4), (1, u "java/lang/Object"), (0, u "<init>"), (0, u "()V"), (1, .class_ 10), (1, u "java/lang/Number"), (2, .class_ 14), (0, u "java/io/Serializable"), (0, u "serialVersionUID"), (0, u "J")] 20

def k5m0 : Method := { name := "<init>", desc := "()V", sig := { parameters := [], returnType := none }, accessFlags := 1, code := none }
/-- java/lang/Number -/
def k5 : Class := { plain "java/lang/Number" (some 0) with
  accessFlags := 1057
  interfaces := #[4]
  cf := some (fileOf pool5 8 #[] #[{ accessFlags := 1, nameIndex := 5, descriptorIndex := 6, attributes := #[] }] 1057 2 #[13] #[{ accessFlags := 26, nameIndex := 15, descriptorIndex := 16, attributes := #[] }])
  fields := #[{ name := "serialVersionUID", type := .long, accessFlags := 26, slot := 0, constantValue := 0 }]
  methods := #[k5m0]
  instanceTypes := #[]
  staticTypes := #[.long]
  resolved := Array.replicate 37 none
  statics := none }

def pool6 : Array CpInfo := pool [(1, .class_ 2), (0, u "java/lang/Comparable"), (0, .class_ 4), (0, u "java/lang/Object")] 7

/-- java/lang/Comparable -/
def k6 : Class := { plain "java/lang/Comparable" (some 0) with
  accessFlags := 1537
  interfaces := #[]
  cf := some (fileOf pool6 1 #[] #[] 1537 3 #[] #[])
  fields := #[]
  methods := #[]
  instanceTypes := #[]
  staticTypes := #[]
  resolved := Array.replicate 12 none
  statics := none }

def pool7 : Array CpInfo := pool [(1, .class_ 2), (0, u "java/lang/constant/Constable"), (0, .class_ 4), (0, u "java/lang/Object")] 6

/-- java/lang/constant/Constable -/
def k7 : Class := { plain "java/lang/constant/Constable" (some 0) with
  accessFlags := 1537
  interfaces := #[]
  cf := some (fileOf pool7 1 #[] #[] 1537 3 #[] #[])
  fields := #[]
  methods := #[]
  instanceTypes := #[]
  staticTypes := #[]
  resolved := Array.replicate 11 none
  statics := none }

def pool8 : Array CpInfo := pool [(1, .class_ 2), (0, u "java/lang/constant/ConstantDesc"), (0, .class_ 4), (0, u "java/lang/Object")] 32

/-- java/lang/constant/ConstantDesc -/
def k8 : Class := { plain "java/lang/constant/ConstantDesc" (some 0) with
  accessFlags := 1537
  interfaces := #[]
  cf := some (fileOf pool8 1 #[] #[] 1537 3 #[] #[])
  fields := #[]
  methods := #[]
  instanceTypes := #[]
  staticTypes := #[]
  resolved := Array.replicate 37 none
  statics := none }

def pool9 : Array CpInfo := pool [(1, .class_ 2), (0, u "java/lang/Long"), (15, .class_ 20), (1, u "java/lang/Integer"), (80, u "(J)I"), (133, .class_ 237), (1, u "java/lang/Long$LongCache"), (33, .class_ 272), (0, u "java/lang/Number"), (2, u "value"), (0, u "J"), (33, u "(I)I"), (0, .methodref 18 312), (0, .nameAndType 313 310), (0, u "numberOfTrailingZeros"), (47, u "TYPE"), (0, u "Ljava/lang/Class;"), (0, .class_ 364), (0, u "java/lang/Comparable"), (0, .class_ 366), (0, u "java/lang/constant/Constable"), (0, .class_ 368), (0, u "java/lang/constant/ConstantDesc"), (0, u "MIN_VALUE"), (1, u "MAX_VALUE"), (4, u "SIZE"), (0, u "I"), (1, u "BYTES"), (1, u "serialVersionUID")] 142

def k9c0 : Code := { maxStack := 4, maxLocals := 3, code := jdk_35_method_49_code, exceptionTable := #[], attributes := #[] }
def k9m0 : Method := { name := "numberOfTrailingZeros", desc := "(J)I", sig := { parameters := [.long], returnType := some .int }, accessFlags := 9, code := some k9c0 }
/-- java/lang/Long -/
def k9 : Class := { plain "java/lang/Long" (some 5) with
  accessFlags := 49
  interfaces := #[6, 7, 8]
  cf := some (fileOf pool9 1 #[.nestMembers #[235]] #[{ accessFlags := 9, nameIndex := 313, descriptorIndex := 101, attributes := #[] }] 49 271 #[363, 365, 367] #[{ accessFlags := 25, nameIndex := 369, descriptorIndex := 276, attributes := #[] }, { accessFlags := 25, nameIndex := 371, descriptorIndex := 276, attributes := #[] }, { accessFlags := 25, nameIndex := 361, descriptorIndex := 362, attributes := #[] }, { accessFlags := 18, nameIndex := 275, descriptorIndex := 276, attributes := #[] }, { accessFlags := 25, nameIndex := 376, descriptorIndex := 377, attributes := #[] }, { accessFlags := 25, nameIndex := 379, descriptorIndex := 377, attributes := #[] }, { accessFlags := 26, nameIndex := 381, descriptorIndex := 276, attributes := #[] }])
  fields := #[{ name := "MIN_VALUE", type := .long, accessFlags := 25, slot := 0, constantValue := 0 }, { name := "MAX_VALUE", type := .long, accessFlags := 25, slot := 1, constantValue := 0 }, { name := "TYPE", type := (.object "java/lang/Class"), accessFlags := 25, slot := 2, constantValue := 0 }, { name := "value", type := .long, accessFlags := 18, slot := 0, constantValue := 0 }, { name := "SIZE", type := .int, accessFlags := 25, slot := 3, constantValue := 0 }, { name := "BYTES", type := .int, accessFlags := 25, slot := 4, constantValue := 0 }, { name := "serialVersionUID", type := .long, accessFlags := 26, slot := 5, constantValue := 0 }]
  methods := #[k9m0]
  instanceTypes := #[.long]
  staticTypes := #[.long, .long, (.object "java/lang/Class"), .int, .int, .long]
  resolved := Array.replicate 524 none
  statics := none }

def pool10 : Array CpInfo := pool [(1, .class_ 2), (0, u "java/lang/Integer"), (16, u "digits"), (0, u "[C"), (33, u "(I)I"), (30, u "DigitOnes"), (0, u "[B"), (2, u "DigitTens"), (99, .class_ 190), (0, u "java/lang/Integer$IntegerCache"), (3, u "I"), (8, .class_ 204), (0, u "java/lang/Number"), (2, u "value"), (56, .integer 65536), (37, u "TYPE"), (0, u "Ljava/lang/Class;"), (0, .class_ 305), (0, u "java/lang/Comparable"), (0, .class_ 307), (0, u "java/lang/constant/Constable"), (0, .class_ 309), (0, u "java/lang/constant/ConstantDesc"), (0, u "MIN_VALUE"), (1, u "MAX_VALUE"), (3, u "SIZE"), (1, u "BYTES"), (1, u "serialVersionUID"), (0, u "J"), (84, u "numberOfTrailingZeros")] 46

def k10c0 : Code := { maxStack := 3, maxLocals := 2, code := jdk_33_method_48_code, exceptionTable := #[], attributes := #[] }
def k10m0 : Method := { name := "numberOfTrailingZeros", desc := "(I)I", sig := { parameters := [.int], returnType := some .int }, accessFlags := 9, code := some k10c0 }
/-- java/lang/Integer -/
def k10 : Class := { plain "java/lang/Integer" (some 5) with
  accessFlags := 49
  interfaces := #[6, 7, 8]
  cf := some (fileOf pool10 1 #[.nestMembers #[189]] #[{ accessFlags := 9, nameIndex := 406, descriptorIndex := 54, attributes := #[] }] 49 203 #[304, 306, 308] #[{ accessFlags := 25, nameIndex := 310, descriptorIndex := 194, attributes := #[] }, { accessFlags := 25, nameIndex := 312, descriptorIndex := 194, attributes := #[] }, { accessFlags := 25, nameIndex := 302, descriptorIndex := 303, attributes := #[] }, { accessFlags := 24, nameIndex := 19, descriptorIndex := 20, attributes := #[] }, { accessFlags := 24, nameIndex := 89, descriptorIndex := 86, attributes := #[] }, { accessFlags := 24, nameIndex := 85, descriptorIndex := 86, attributes := #[] }, { accessFlags := 18, nameIndex := 207, descriptorIndex := 194, attributes := #[] }, { accessFlags := 25, nameIndex := 316, descriptorIndex := 194, attributes := #[] }, { accessFlags := 25, nameIndex := 318, descriptorIndex := 194, attributes := #[] }, { accessFlags := 26, nameIndex := 320, descriptorIndex := 321, attributes := #[] }])
  fields := #[{ name := "MIN_VALUE", type := .int, accessFlags := 25, slot := 0, constantValue := 0 }, { name := "MAX_VALUE", type := .int, accessFlags := 25, slot := 1, constantValue := 0 }, { name := "TYPE", type := (.object "java/lang/Class"), accessFlags := 25, slot := 2, constantValue := 0 }, { name := "digits", type := (.array .char), accessFlags := 24, slot := 3, constantValue := 0 }, { name := "DigitTens", type := (.array .byte), accessFlags := 24, slot := 4, constantValue := 0 }, { name := "DigitOnes", type := (.array .byte), accessFlags := 24, slot := 5, constantValue := 0 }, { name := "value", type := .int, accessFlags := 18, slot := 0, constantValue := 0 }, { name := "SIZE", type := .int, accessFlags := 25, slot := 6, constantValue := 0 }, { name := "BYTES", type := .int, accessFlags := 25, slot := 7, constantValue := 0 }, { name := "serialVersionUID", type := .long, accessFlags := 26, slot := 8, constantValue := 0 }]
  methods := #[k10m0]
  instanceTypes := #[.int]
  staticTypes := #[.int, .int, (.object "java/lang/Class"), (.array .char), (.array .byte), (.array .byte), .int, .int, .long]
  resolved := Array.replicate 453 none
  statics := none }

def pool11 : Array CpInfo := pool [(2, .class_ 4), (1, u "java/lang/Object"), (0, u "<init>"), (0, u "()V"), (7, .class_ 16), (1, u "java/util/Arrays"), (57, .class_ 76), (1, u "java/util/Arrays$NaturalOrder"), (36, .class_ 115), (1, u "java/util/Arrays$LegacyMergeSort"), (1, u "Z"), (32, .methodref 151 152), (0, .class_ 153), (0, .nameAndType 154 155), (0, u "java/lang/System"), (0, u "arraycopy"), (0, u "(Ljava/lang/Object;ILjava/lang/Object;II)V"), (146, u "copyOf"), (1, .methodref 305 306), (0, .class_ 307), (0, .nameAndType 308 309), (0, u "java/lang/Math"), (0, u "min"), (0, u "(II)I"), (65, .class_ 376), (0, u "java/util/Arrays$ArrayList"), (68, u "$assertionsDisabled"), (269, u "MIN_ARRAY_SORT_GRAN"), (0, u "I"), (2, u "INSERTIONSORT_THRESHOLD"), (152, u "([JI)[J"), (102, .class_ 976), (0, u "java/util/Arrays$ArrayItr")] 52

def k11m0 : Method := { name := "<init>", desc := "()V", sig := { parameters := [], returnType := none }, accessFlags := 2, code := none }
def k11c1 : Code := { maxStack := 6, maxLocals := 3, code := jdk_65_method_124_code, exceptionTable := #[], attributes := #[] }
def k11m1 : Method := { name := "copyOf", desc := "([JI)[J", sig := { parameters := [(.array .long), .int], returnType := some (.array .long) }, accessFlags := 9, code := some k11c1 }
/-- java/util/Arrays -/
def k11 : Class := { plain "java/util/Arrays" (some 0) with
  accessFlags := 49
  interfaces := #[]
  cf := some (fileOf pool11 14 #[.nestMembers #[975, 375, 113, 74]] #[{ accessFlags := 2, nameIndex := 5, descriptorIndex := 6, attributes := #[] }, { accessFlags := 9, nameIndex := 302, descriptorIndex := 872, attributes := #[] }] 49 2 #[] #[{ accessFlags := 26, nameIndex := 715, descriptorIndex := 716, attributes := #[] }, { accessFlags := 26, nameIndex := 719, descriptorIndex := 716, attributes := #[] }, { accessFlags := 4120, nameIndex := 445, descriptorIndex := 117, attributes := #[] }])
  fields := #[{ name := "MIN_ARRAY_SORT_GRAN", type := .int, accessFlags := 26, slot := 0, constantValue := 0 }, { name := "INSERTIONSORT_THRESHOLD", type := .int, accessFlags := 26, slot := 1, constantValue := 0 }, { name := "$assertionsDisabled", type := .boolean, accessFlags := 4120, slot := 2, constantValue := 0 }]
  methods := #[k11m0, k11m1]
  instanceTypes := #[]
  staticTypes := #[.int, .int, .boolean]
  resolved := Array.replicate 1029 none
  statics := none }

def pool12 : Array CpInfo := pool [(2, .class_ 4), (1, u "java/lang/Object"), (0, u "<init>"), (0, u "()V"), (1, .class_ 10), (1, u "java/lang/System"), (0, u "allowSecurityManager"), (0, u "I"), (16, u "cons"), (0, u "Ljava/io/Console;"), (77, .class_ 110), (1, u "java/lang/System$CallersHolder"), (43, u "initialErrStream"), (0, u "Ljava/io/PrintStream;"), (19, u "security"), (0, u "Ljava/lang/SecurityManager;"), (31, .class_ 209), (0, u "java/lang/System$1"), (7, u "props"), (0, u "Ljava/util/Properties;"), (2, u "lineSeparator"), (0, u "Ljava/lang/String;"), (96, .class_ 321), (1, u "java/lang/System$LoggerFinder"), (5, .class_ 328), (0, u "java/lang/System$Logger"), (67, u "err"), (2, u "out"), (91, u "notSupportedJnuEncoding"), (15, u "in"), (17, u "initialIn"), (0, u "Ljava/io/InputStream;"), (35, u "bootLayer"), (0, u "Ljava/lang/ModuleLayer;"), (99, .class_ 664), (0, u "java/lang/System$2"), (9, u "NEVER"), (2, u "MAYBE"), (49, u "arraycopy"), (0, u "(Ljava/lang/Object;ILjava/lang/Object;II)V"), (72, .class_ 802), (0, u "java/lang/System$Logger$Level")] 31

def k12m0 : Method := { name := "<init>", desc := "()V", sig := { parameters := [], returnType := none }, accessFlags := 2, code := none }
def k12m1 : Method := { name := "arraycopy", desc := "(Ljava/lang/Object;ILjava/lang/Object;II)V", sig := { parameters := [(.object "java/lang/Object"), .int, (.object "java/lang/Object"), .int, .int], returnType := none }, accessFlags := 265, code := none }
/-- java/lang/System -/
def k12 : Class := { plain "java/lang/System" (some 0) with
  accessFlags := 49
  interfaces := #[]
  cf := some (fileOf pool12 8 #[.nestMembers #[319, 327, 801, 108, 663, 208]] #[{ accessFlags := 2, nameIndex := 5, descriptorIndex := 6, attributes := #[] }, { accessFlags := 265, nameIndex := 727, descriptorIndex := 728, attributes := #[] }] 49 2 #[] #[{ accessFlags := 25, nameIndex := 507, descriptorIndex := 526, attributes := #[] }, { accessFlags := 25, nameIndex := 399, descriptorIndex := 155, attributes := #[] }, { accessFlags := 25, nameIndex := 396, descriptorIndex := 155, attributes := #[] }, { accessFlags := 10, nameIndex := 525, descriptorIndex := 526, attributes := #[] }, { accessFlags := 26, nameIndex := 674, descriptorIndex := 12, attributes := #[] }, { accessFlags := 26, nameIndex := 677, descriptorIndex := 12, attributes := #[] }, { accessFlags := 10, nameIndex := 11, descriptorIndex := 12, attributes := #[] }, { accessFlags := 74, nameIndex := 175, descriptorIndex := 176, attributes := #[] }, { accessFlags := 10, nameIndex := 491, descriptorIndex := 222, attributes := #[] }, { accessFlags := 74, nameIndex := 29, descriptorIndex := 30, attributes := #[] }, { accessFlags := 74, nameIndex := 154, descriptorIndex := 155, attributes := #[] }, { accessFlags := 10, nameIndex := 217, descriptorIndex := 218, attributes := #[] }, { accessFlags := 10, nameIndex := 221, descriptorIndex := 222, attributes := #[] }, { accessFlags := 8, nameIndex := 562, descriptorIndex := 563, attributes := #[] }])
  fields := #[{ name := "in", type := (.object "java/io/InputStream"), accessFlags := 25, slot := 0, constantValue := 0 }, { name := "out", type := (.object "java/io/PrintStream"), accessFlags := 25, slot := 1, constantValue := 0 }, { name := "err", type := (.object "java/io/PrintStream"), accessFlags := 25, slot := 2, constantValue := 0 }, { name := "initialIn", type := (.object "java/io/InputStream"), accessFlags := 10, slot := 3, constantValue := 0 }, { name := "NEVER", type := .int, accessFlags := 26, slot := 4, constantValue := 0 }, { name := "MAYBE", type := .int, accessFlags := 26, slot := 5, constantValue := 0 }, { name := "allowSecurityManager", type := .int, accessFlags := 10, slot := 6, constantValue := 0 }, { name := "security", type := (.object "java/lang/SecurityManager"), accessFlags := 74, slot := 7, constantValue := 0 }, { name := "notSupportedJnuEncoding", type := (.object "java/lang/String"), accessFlags := 10, slot := 8, constantValue := 0 }, { name := "cons", type := (.object "java/io/Console"), accessFlags := 74, slot := 9, constantValue := 0 }, { name := "initialErrStream", type := (.object "java/io/PrintStream"), accessFlags := 74, slot := 10, constantValue := 0 }, { name := "props", type := (.object "java/util/Properties"), accessFlags := 10, slot := 11, constantValue := 0 }, { name := "lineSeparator", type := (.object "java/lang/String"), accessFlags := 10, slot := 12, constantValue := 0 }, { name := "bootLayer", type := (.object "java/lang/ModuleLayer"), accessFlags := 8, slot := 13, constantValue := 0 }]
  methods := #[k12m0, k12m1]
  instanceTypes := #[]
  staticTypes := #[(.object "java/io/InputStream"), (.object "java/io/PrintStream"), (.object "java/io/PrintStream"), (.object "java/io/InputStream"), .int, .int, .int, (.object "java/lang/SecurityManager"), (.object "java/lang/String"), (.object "java/io/Console"), (.object "java/io/PrintStream"), (.object "java/util/Properties"), (.object "java/lang/String"), (.object "java/lang/ModuleLayer")]
  resolved := Array.replicate 834 none
  statics := none }

def pool13 : Array CpInfo := pool [(1, u "java/lang/Cloneable"), (0, .class_ 1), (0, u "java/lang/Object"), (0, .class_ 3)] 3

/-- java/lang/Cloneable -/
def k13 : Class := { plain "java/lang/Cloneable" (some 0) with
  accessFlags := 1537
  interfaces := #[]
  cf := some (fileOf pool13 2 #[] #[] 1537 4 #[] #[])
  fields := #[]
  methods := #[]
  instanceTypes := #[]
  staticTypes := #[]
  resolved := Array.replicate 8 none
  statics := none }

/-- the primitive byte -/
def k14 : Class := { plain "byte" none with kind := .primitive 'B', accessFlags := 0x411 }
/-- [B -/
def k15 : Class := { plain "[B" (some 0) with kind := .array 14 .byte, interfaces := #[13, 4], accessFlags := 1041 }

/-- the primitive int -/
def k16 : Class := { plain "int" none with kind := .primitive 'I', accessFlags := 0x411 }
/-- [I -/
def k17 : Class := { plain "[I" (some 0) with kind := .array 16 .int, interfaces := #[13, 4], accessFlags := 1041 }

/-- the primitive long -/
def k18 : Class := { plain "long" none with kind := .primitive 'J', accessFlags := 0x411 }
/-- [J -/
def k19 : Class := { plain "[J" (some 0) with kind := .array 18 .long, interfaces := #[13, 4], accessFlags := 1041 }

def heap : Heap := #[]
def classes : Array Class := #[k0, k1, k2, k3, k4, k5, k6, k7, k8, k9, k10, k11, k12, k13, k14, k15, k16, k17, k18, k19]
def interned : List (Array UInt16 × Addr) := []
def slotsUsed : Nat := 0
def theMethod : MethodId := ⟨1, 2⟩
def args0 : Array Value := #[.int 5, .int 70, .int 3]
def aboutOver (below : List Frame) : State where
  vm := { classes := classes, interned := interned.toArray }
  heap := heap
  slotsUsed := slotsUsed
  threads := #[{ frames := .invoking theMethod args0 :: below }]
def below0 : List Frame := [.native { method := ⟨0, 0⟩, args := #[] }]
def about1 : State := aboutOver below0
def p0 : Program := .bare "" "" ""
def e0 : Env := launch0.env 0 0 0
theorem w_frames : about1.frames = Frame.invoking theMethod args0 :: below0 := rfl
set_option maxRecDepth 65536 in
theorem w_args : argsFit about1.vm theMethod args0 = true := by decide +kernel
set_option maxRecDepth 65536 in
theorem w_heap : heapFits about1 = true := by decide +kernel
set_option maxRecDepth 65536 in
theorem w_runnable : about1.curStatus? = some .runnable := by decide +kernel
set_option maxRecDepth 65536 in
theorem w_alone : about1.alone = true := by decide +kernel
set_option maxRecDepth 65536 in
theorem w_named : about1.methodNamed? x = some theMethod := by decide +kernel
set_option maxRecDepth 65536 in
theorem w_hears : about1.hears theMethod below0 = true := by decide +kernel
set_option maxRecDepth 65536 in
theorem w_ripe : about1.ripe theMethod args0 below0 = true := by decide +kernel
theorem w_running : about1.status = .running := rfl
set_option maxRecDepth 65536 in
theorem w_room : about1.hasRoom e0.platform room_1 = true :=
  launch0.hasRoom_least _ room_1 (by decide +kernel) (by decide +kernel) (by decide +kernel) (by decide +kernel) (by decide +kernel) (by decide +kernel)
theorem allAtoms_all (ts : List Jvm.Cond) (a : Array Jvm.Value) (st : Jvm.State) : (allAtoms ts).before a st = ts.all (fun c => c.before a st) := by
  induction ts with
  | nil => rfl
  | cons c t ih =>
    show (Jvm.Cond.and c (allAtoms t)).before a st = _
    rw [Jvm.Cond.before_and, ih, List.all_cons]
def words1 : List Jvm.Cond := Jvm.Cond.code x code maxLocals ret :: tables_1
/-- a 'code' word, met by the world's own term for the bytes: nothing is compared byte by byte -/
theorem code_word {y : MethodName} {bytes : ByteArray} {mx : Nat} {rt : Option FieldType} {a : Array Value} {s : State} {m : MethodId} {meth : Method} {c : Code} (h1 : s.methodNamed? y = some m) (h2 : s.vm.method? m = some meth) (h3 : meth.code = some c) (h4 : c.code = bytes)
    (h5 : (c.maxLocals == mx && c.exceptionTable.isEmpty && decide (c.maxStack ≤ mostOperands) && decide (meth.sig.returnType = rt) && !meth.locks && decide (parseMethodDescriptor y.desc = some meth.sig)) = true) : (Jvm.Cond.code y bytes mx rt).before a s = true := by
  simp only [Bool.and_eq_true, beq_iff_eq, Bool.not_eq_true', decide_eq_true_eq] at h5
  obtain ⟨⟨⟨⟨⟨g1, g2⟩, g3⟩, g4⟩, g5⟩, g6⟩ := h5
  simp [Cond.before, Cond.holds, Cond.value, h1, h2, h3, h4, g1, g2, g3, g4, g5, g6]
def isCode : Jvm.Cond → Bool
  | .code _ _ _ _ => true
  | _ => false
theorem all_split {L : List Jvm.Cond} {P : Jvm.Cond → Bool} (h1 : L.all (fun c => isCode c || P c) = true) (h2 : ∀ c ∈ L.filter isCode, P c = true) : L.all P = true := by
  refine List.all_eq_true.mpr fun c hc => ?_
  have h := List.all_eq_true.mp h1 c hc
  rcases Bool.eq_false_or_eq_true (isCode c) with hi | hi
  · exact h2 c (List.mem_filter.mpr ⟨hc, hi⟩)
  · simpa [hi] using h
set_option maxRecDepth 65536 in
theorem w_c0 : (Jvm.Cond.code x code maxLocals ret).before args0 about1 = true := code_word (m := ⟨1, 2⟩) (meth := k1m2) (c := k1c2) (by decide +kernel) rfl rfl rfl (by decide +kernel)
set_option maxRecDepth 65536 in
theorem w_c1 : (Jvm.Cond.code ({ cls := "com/example/diligent_tableau/diligenttableau/tableau/Worklist", name := "<init>", desc := "()V" } : Jvm.MethodName) prog_64_method_1_code (1 : Nat) (Option.none : Option Jvm.ClassFile.FieldType)).before args0 about1 = true := code_word (m := ⟨2, 0⟩) (meth := k2m0) (c := k2c0) (by decide +kernel) rfl rfl rfl (by decide +kernel)
set_option maxRecDepth 65536 in
theorem w_c2 : (Jvm.Cond.code ({ cls := "java/lang/Object", name := "<init>", desc := "()V" } : Jvm.MethodName) object_method_1_code (1 : Nat) (Option.none : Option Jvm.ClassFile.FieldType)).before args0 about1 = true := code_word (m := ⟨0, 0⟩) (meth := k0m0) (c := k0c0) (by decide +kernel) rfl rfl rfl (by decide +kernel)
set_option maxRecDepth 65536 in
theorem w_c3 : (Jvm.Cond.code ({ cls := "com/example/diligent_tableau/diligenttableau/tableau/Worklist", name := "add", desc := "(I)V" } : Jvm.MethodName) prog_64_method_2_code (3 : Nat) (Option.none : Option Jvm.ClassFile.FieldType)).before args0 about1 = true := code_word (m := ⟨2, 1⟩) (meth := k2m1) (c := k2c1) (by decide +kernel) rfl rfl rfl (by decide +kernel)
set_option maxRecDepth 65536 in
theorem w_c4 : (Jvm.Cond.code ({ cls := "java/lang/Math", name := "min", desc := "(II)I" } : Jvm.MethodName) jdk_29_method_69_code (2 : Nat) (Option.some Jvm.ClassFile.FieldType.int)).before args0 about1 = true := code_word (m := ⟨3, 2⟩) (meth := k3m2) (c := k3c2) (by decide +kernel) rfl rfl rfl (by decide +kernel)
set_option maxRecDepth 65536 in
theorem w_c5 : (Jvm.Cond.code ({ cls := "com/example/diligent_tableau/diligenttableau/tableau/Worklist", name := "remove", desc := "(I)V" } : Jvm.MethodName) prog_64_method_4_code (3 : Nat) (Option.none : Option Jvm.ClassFile.FieldType)).before args0 about1 = true := code_word (m := ⟨2, 2⟩) (meth := k2m2) (c := k2c2) (by decide +kernel) rfl rfl rfl (by decide +kernel)
set_option maxRecDepth 65536 in
theorem w_c6 : (Jvm.Cond.code ({ cls := "com/example/diligent_tableau/diligenttableau/tableau/Worklist", name := "next", desc := "(I)I" } : Jvm.MethodName) prog_64_method_7_code (5 : Nat) (Option.some Jvm.ClassFile.FieldType.int)).before args0 about1 = true := code_word (m := ⟨2, 3⟩) (meth := k2m3) (c := k2c3) (by decide +kernel) rfl rfl rfl (by decide +kernel)
set_option maxRecDepth 65536 in
theorem w_c7 : (Jvm.Cond.code ({ cls := "java/lang/Long", name := "numberOfTrailingZeros", desc := "(J)I" } : Jvm.MethodName) jdk_35_method_49_code (3 : Nat) (Option.some Jvm.ClassFile.FieldType.int)).before args0 about1 = true := code_word (m := ⟨9, 0⟩) (meth := k9m0) (c := k9c0) (by decide +kernel) rfl rfl rfl (by decide +kernel)
set_option maxRecDepth 65536 in
theorem w_c8 : (Jvm.Cond.code ({ cls := "java/lang/Integer", name := "numberOfTrailingZeros", desc := "(I)I" } : Jvm.MethodName) jdk_33_method_48_code (2 : Nat) (Option.some Jvm.ClassFile.FieldType.int)).before args0 about1 = true := code_word (m := ⟨10, 0⟩) (meth := k10m0) (c := k10c0) (by decide +kernel) rfl rfl rfl (by decide +kernel)
set_option maxRecDepth 65536 in
theorem w_c9 : (Jvm.Cond.code ({ cls := "com/example/diligent_tableau/diligenttableau/tableau/WorklistRemovePinLaw", name := "least", desc := "(IIZIZ)I" } : Jvm.MethodName) method_2_code (6 : Nat) (Option.some Jvm.ClassFile.FieldType.int)).before args0 about1 = true := code_word (m := ⟨1, 1⟩) (meth := k1m1) (c := k1c1) (by decide +kernel) rfl rfl rfl (by decide +kernel)
set_option maxRecDepth 65536 in
theorem w_c10 : (Jvm.Cond.code ({ cls := "java/lang/Math", name := "max", desc := "(II)I" } : Jvm.MethodName) jdk_29_method_65_code (2 : Nat) (Option.some Jvm.ClassFile.FieldType.int)).before args0 about1 = true := code_word (m := ⟨3, 1⟩) (meth := k3m1) (c := k3c1) (by decide +kernel) rfl rfl rfl (by decide +kernel)
set_option maxRecDepth 65536 in
theorem w_c11 : (Jvm.Cond.code ({ cls := "java/util/Arrays", name := "copyOf", desc := "([JI)[J" } : Jvm.MethodName) jdk_65_method_124_code (3 : Nat) (Option.some (Jvm.ClassFile.FieldType.array Jvm.ClassFile.FieldType.long))).before args0 about1 = true := code_word (m := ⟨11, 1⟩) (meth := k11m1) (c := k11c1) (by decide +kernel) rfl rfl rfl (by decide +kernel)
def codes1 : List Jvm.Cond := [Jvm.Cond.code x code maxLocals ret, Jvm.Cond.code ({ cls := "com/example/diligent_tableau/diligenttableau/tableau/Worklist", name := "<init>", desc := "()V" } : Jvm.MethodName) prog_64_method_1_code (1 : Nat) (Option.none : Option Jvm.ClassFile.FieldType), Jvm.Cond.code ({ cls := "java/lang/Object", name := "<init>", desc := "()V" } : Jvm.MethodName) object_method_1_code (1 : Nat) (Option.none : Option Jvm.ClassFile.FieldType), Jvm.Cond.code ({ cls := "com/example/diligent_tableau/diligenttableau/tableau/Worklist", name := "add", desc := "(I)V" } : Jvm.MethodName) prog_64_method_2_code (3 : Nat) (Option.none : Option Jvm.ClassFile.FieldType), Jvm.Cond.code ({ cls := "java/lang/Math", name := "min", desc := "(II)I" } : Jvm.MethodName) jdk_29_method_69_code (2 : Nat) (Option.some Jvm.ClassFile.FieldType.int), Jvm.Cond.code ({ cls := "com/example/diligent_tableau/diligenttableau/tableau/Worklist", name := "remove", desc := "(I)V" } : Jvm.MethodName) prog_64_method_4_code (3 : Nat) (Option.none : Option Jvm.ClassFile.FieldType), Jvm.Cond.code ({ cls := "com/example/diligent_tableau/diligenttableau/tableau/Worklist", name := "next", desc := "(I)I" } : Jvm.MethodName) prog_64_method_7_code (5 : Nat) (Option.some Jvm.ClassFile.FieldType.int), Jvm.Cond.code ({ cls := "java/lang/Long", name := "numberOfTrailingZeros", desc := "(J)I" } : Jvm.MethodName) jdk_35_method_49_code (3 : Nat) (Option.some Jvm.ClassFile.FieldType.int), Jvm.Cond.code ({ cls := "java/lang/Integer", name := "numberOfTrailingZeros", desc := "(I)I" } : Jvm.MethodName) jdk_33_method_48_code (2 : Nat) (Option.some Jvm.ClassFile.FieldType.int), Jvm.Cond.code ({ cls := "com/example/diligent_tableau/diligenttableau/tableau/WorklistRemovePinLaw", name := "least", desc := "(IIZIZ)I" } : Jvm.MethodName) method_2_code (6 : Nat) (Option.some Jvm.ClassFile.FieldType.int), Jvm.Cond.code ({ cls := "java/lang/Math", name := "max", desc := "(II)I" } : Jvm.MethodName) jdk_29_method_65_code (2 : Nat) (Option.some Jvm.ClassFile.FieldType.int), Jvm.Cond.code ({ cls := "java/util/Arrays", name := "copyOf", desc := "([JI)[J" } : Jvm.MethodName) jdk_65_method_124_code (3 : Nat) (Option.some (Jvm.ClassFile.FieldType.array Jvm.ClassFile.FieldType.long))]
set_option maxRecDepth 65536 in
theorem codes_eq : words1.filter isCode = codes1 := rfl
theorem w_codes : ∀ c ∈ words1.filter isCode, c.before args0 about1 = true := by
  rw [codes_eq]
  intro c hc
  simp only [codes1, List.mem_cons, List.not_mem_nil, or_false] at hc
  rcases hc with rfl | rfl | rfl | rfl | rfl | rfl | rfl | rfl | rfl | rfl | rfl | rfl
  · exact w_c0
  · exact w_c1
  · exact w_c2
  · exact w_c3
  · exact w_c4
  · exact w_c5
  · exact w_c6
  · exact w_c7
  · exact w_c8
  · exact w_c9
  · exact w_c10
  · exact w_c11
set_option maxRecDepth 65536 in
theorem w_t1 : (words1.take 24).all (fun c => isCode c || c.before args0 about1) = true := by decide +kernel
set_option maxRecDepth 65536 in
theorem w_t2 : ((words1.drop 24).take 24).all (fun c => isCode c || c.before args0 about1) = true := by decide +kernel
set_option maxRecDepth 65536 in
theorem w_t3 : ((words1.drop 24).drop 24).all (fun c => isCode c || c.before args0 about1) = true := by decide +kernel
theorem w_tables : (allAtoms (Jvm.Cond.code x code maxLocals ret :: tables_1)).before args0 about1 = true := by
  rw [allAtoms_all]
  show words1.all (fun c => c.before args0 about1) = true
  refine all_split ?_ w_codes
  rw [← List.take_append_drop 24 words1, List.all_append, w_t1, ← List.take_append_drop 24 (words1.drop 24), List.all_append, w_t2, w_t3]
  rfl
set_option maxRecDepth 65536 in
theorem w_case : (Jvm.Cond.and given_1 narrow_1).before args0 about1 = true := by decide +kernel
theorem w_applies : (headSpec (Jvm.Cond.code x code maxLocals ret :: tables_1) room_1).applies x e0.platform about1 = true :=
  (Spec.applies_iff w_frames).mpr ⟨w_running, w_runnable, w_alone, w_named, w_hears, w_ripe, w_room, w_tables⟩
theorem atStart : AtStart classFile x code maxLocals ret World_1 tables_1 room_1 Calls_1 rest_1 Pre_1 launch0 p0 e0 about1 theMethod args0 below0 :=
  ⟨lists_1, trivial, launch0.admits_env _ _ _, launch0.least_env, fairChoices_fair.cas, fairChoices_fair.clock, w_frames, w_args, w_heap, w_applies, trivial, trivial, w_case⟩
end start1
theorem witness_1 : WitnessClaimed_1 := ⟨start1.p0, start1.e0, start1.about1, start1.theMethod, start1.args0, start1.below0, start1.atStart⟩
end Jvm.Pilot.@@N@@
