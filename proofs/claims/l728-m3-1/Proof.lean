import JvmDerived
import JvmDerived.Pilot.@@N@@Statement
import JvmDerived.Pilot.@@N@@Code
set_option linter.unusedVariables false
set_option linter.unusedSimpArgs false
namespace Jvm.RoadKit
open Sem ClassFile Op Lib Jvm.Stand Jvm.Free Jvm.LawKit
section New
variable {p : Program} {l : Launch} {e : Env} {R : Room} {s : State} {m : MethodId} {args : Array Value} {below : List Frame} {meth : Method} {c : Code} {T : State} {locs : List Loc} {cells slots : Nat}
theorem retI (X : Stand p l e R s m args below meth c T locs cells slots) (hx : p.tables.exec = Jvm.exec) {pc : Nat} {Ls : Array Slot} {z : Int32} {rest : List Value} (hret : meth.sig.returnType = some .int) (hd : decode c.code pc = .ok (.ireturn, 1)) {fs : List Frame}
    (hl : ∀ (f : JFrame) (acts : List Action), f.method = m → f.locked = none → f.entered = [] → (doReturn e (T.setTop f) acts (some (.int z))).1 = T.setFrames fs) : Steps p.tables e below (T.setTop (mkF m pc Ls (.int z :: rest))) (T.setFrames fs) := by
  have hm' : T.vm.method? m = some meth := X.method'
  have hn : narrow .int (.int z) = .int z := rfl
  show Steps p.tables e below (T.setTop { method := m, pc := pc, locals := Ls, stack := _ :: rest, locked := none }) _
  jvm_step X.here [X.here.top, hx, hd, hm', hret, hn]
  first | (intro acts; rw [hl _ acts rfl rfl rfl]) | rw [hl _ _ rfl rfl rfl]
  exact Steps.refl _
/-- from the state A the body comes to its end, and Q holds there -/
def own_G (tb : Tables) (e : Env) (below : List Frame) (Q : Outcome → State → Prop) (A : State) : Prop := ∃ s₂ o, Steps tb e below A s₂ ∧ s₂.status = .running ∧ Ended s₂ below o ∧ Q o s₂
theorem own_fs {tb : Tables} {Q : Outcome → State → Prop} {A B : State} (h : Steps tb e below A B) (g : own_G tb e below Q B) : own_G tb e below Q A := by
  obtain ⟨s₂, o, h1, r⟩ := g
  exact ⟨s₂, o, h.trans h1, r⟩
/-- what a body's contract says of its end -/
def own_P (s : State) (QQ : Option Value → Heap → List Loc → Prop) (rc rs : Nat) (o : Outcome) (U : State) : Prop := ∃ v L, o = .returned v ∧ QQ v U.heap L ∧ FrameEnd s o U L rc rs
variable {QQ : Option Value → Heap → List Loc → Prop} {rc rs : Nat} {h : Heap}
theorem own_start {tb : Tables} {g g' : JFrame} (q : g = g') (k : own_G tb e below (own_P s QQ rc rs) (T.setTop g')) : ∃ s₂ o, Steps tb e below (T.setTop g) s₂ ∧ s₂.status = .running ∧ Ended s₂ below o ∧ ∃ v L, o = .returned v ∧ QQ v s₂.heap L ∧ FrameEnd s o s₂ L rc rs := q ▸ k
theorem own_retI (X : Stand p l e R s m args below meth c T locs cells slots) (hx : p.tables.exec = Jvm.exec) {pc : Nat} {Ls : Array Slot} {z : Int32} {rest : List Value} (hret : meth.sig.returnType = some .int) (hlk : meth.locks = false) (hd : decode c.code pc = .ok (.ireturn, 1)) (hc : cells ≤ rc) (hs : slots ≤ rs) (eT : T.heap = h) (hQ : QQ (some (.int z)) h locs) :
    own_G p.tables e below (own_P s QQ rc rs) (T.setTop (mkF m pc Ls (.int z :: rest))) := by
  obtain ⟨fs, hr, hrun, hended, hW, hsame⟩ := X.leave (v := some (.int z)) (fun h => by rw [hret] at h; cases h) hlk
  exact ⟨_, _, retI X hx hret hd hr, hrun, hended, _, _, rfl, (by show QQ _ T.heap _; rw [eT]; exact hQ), ⟨_, rfl⟩, hW, hsame.mono hc hs⟩
theorem own_retN (X : Stand p l e R s m args below meth c T locs cells slots) (hx : p.tables.exec = Jvm.exec) {pc : Nat} {Ls : Array Slot} {z : Int32} {t : FieldType} {rest : List Value} (hret : meth.sig.returnType = some t) (hlk : meth.locks = false) (ht : t = .boolean ∨ t = .byte ∨ t = .char ∨ t = .short) (hd : decode c.code pc = .ok (.ireturn, 1)) (hc : cells ≤ rc) (hs : slots ≤ rs) (eT : T.heap = h) (hQ : QQ (some (.int (nar t z))) h locs) :
    own_G p.tables e below (own_P s QQ rc rs) (T.setTop (mkF m pc Ls (.int z :: rest))) := by
  obtain ⟨fs, hr, hrun, hended, hW, hsame⟩ := X.leave (v := some (.int (nar t z))) (fun h => by rw [hret] at h; cases h) hlk
  exact ⟨_, _, retN X hx hret ht hd hr, hrun, hended, _, _, rfl, (by show QQ _ T.heap _; rw [eT]; exact hQ), ⟨_, rfl⟩, hW, hsame.mono hc hs⟩
theorem own_retJ (X : Stand p l e R s m args below meth c T locs cells slots) (hx : p.tables.exec = Jvm.exec) {pc : Nat} {Ls : Array Slot} {z : Int64} {rest : List Value} (hret : meth.sig.returnType = some .long) (hlk : meth.locks = false) (hd : decode c.code pc = .ok (.lreturn, 1)) (hc : cells ≤ rc) (hs : slots ≤ rs) (eT : T.heap = h) (hQ : QQ (some (.long z)) h locs) :
    own_G p.tables e below (own_P s QQ rc rs) (T.setTop (mkF m pc Ls (.long z :: rest))) := by
  obtain ⟨fs, hr, hrun, hended, hW, hsame⟩ := X.leave (v := some (.long z)) (fun h => by rw [hret] at h; cases h) hlk
  exact ⟨_, _, retOut X hx hret rfl (Or.inr (Or.inl ⟨rfl, rfl, z, rfl⟩)) hd hr, hrun, hended, _, _, rfl, (by show QQ _ T.heap _; rw [eT]; exact hQ), ⟨_, rfl⟩, hW, hsame.mono hc hs⟩
theorem own_narR {t : FieldType} {w : Value} (hw : w.isRef = true) : narrow t w = w := by rcases ref_cases hw with rfl | ⟨a, rfl⟩ <;> cases t <;> rfl
theorem own_fitR {t : FieldType} {w : Value} (hw : w.isRef = true) (ht : t.isReference = true := by rfl) : fits t w = true := by rcases ref_cases hw with rfl | ⟨a, rfl⟩ <;> cases t <;> first | rfl | cases ht
theorem own_retA (X : Stand p l e R s m args below meth c T locs cells slots) (hx : p.tables.exec = Jvm.exec) {pc : Nat} {Ls : Array Slot} {w : Value} {t : FieldType} {rest : List Value} (hret : meth.sig.returnType = some t) (hlk : meth.locks = false) (ht : t.isReference = true) (hw : w.isRef = true) (hd : decode c.code pc = .ok (.areturn, 1)) (hc : cells ≤ rc) (hs : slots ≤ rs) (eT : T.heap = h) (hQ : QQ (some w) h locs) :
    own_G p.tables e below (own_P s QQ rc rs) (T.setTop (mkF m pc Ls (w :: rest))) := by
  obtain ⟨fs, hr, hrun, hended, hW, hsame⟩ := X.leave (v := some w) (fun h => by rw [hret] at h; cases h) hlk
  exact ⟨_, _, retOut X hx hret (own_narR hw) (Or.inr (Or.inr (Or.inr (Or.inr ⟨rfl, ht, hw⟩)))) hd hr, hrun, hended, _, _, rfl, (by show QQ _ T.heap _; rw [eT]; exact hQ), ⟨_, rfl⟩, hW, hsame.mono hc hs⟩
theorem own_retV (X : Stand p l e R s m args below meth c T locs cells slots) (hx : p.tables.exec = Jvm.exec) {pc : Nat} {Ls : Array Slot} (hret : meth.sig.returnType = none) (hlk : meth.locks = false) (hd : decode c.code pc = .ok (.return_, 1)) (hc : cells ≤ rc) (hs : slots ≤ rs) (eT : T.heap = h) (hQ : QQ none h locs) :
    own_G p.tables e below (own_P s QQ rc rs) (T.setTop (mkF m pc Ls [])) := by
  obtain ⟨fs, hr, hrun, hended, hW, hsame⟩ := X.leave (v := none) (fun _ => rfl) hlk
  exact ⟨_, _, X.returnOut hx hret hd hr, hrun, hended, _, _, rfl, (by show QQ _ T.heap _; rw [eT]; exact hQ), ⟨_, rfl⟩, hW, hsame.mono hc hs⟩
theorem own_nar0 : nar .boolean (0 : Int32) = (0 : Int32) := rfl
theorem own_nar1 : nar .boolean (1 : Int32) = (1 : Int32) := rfl
theorem own_nar1s : some (Value.int (nar .boolean (1 : Int32))) = some (Value.int (1 : Int32)) := rfl
end New
end Jvm.RoadKit
namespace Jvm.Pilot.@@N@@
open Jvm Jvm.ClassFile Sem Op Lib Jvm.Free Jvm.Stand Jvm.LawKit Jvm.RoadKit Bundle Jvm.Pilot.@@N@@.Jvm.D
theorem own_pn0 : plainName "java/lang/Number" = true := by first | (simp [plainName, overriddenIn]; done) | decide +kernel
theorem own_d15_0 : decode jdk_18_method_1_code 0 = .ok (.aload_n 0, 1) := by decide +kernel
theorem own_d15_1 : decode jdk_18_method_1_code 1 = .ok (.invokespecial 1, 3) := by decide +kernel
theorem own_d15_4 : decode jdk_18_method_1_code 4 = .ok (.return_, 1) := by decide +kernel
theorem own_pn1 : plainName "java/lang/Long" = true := by first | (simp [plainName, overriddenIn]; done) | decide +kernel
theorem own_d14_0 : decode jdk_35_method_26_code 0 = .ok (.aload_n 0, 1) := by decide +kernel
theorem own_d14_1 : decode jdk_35_method_26_code 1 = .ok (.invokespecial 270, 3) := by decide +kernel
theorem own_pd0 : parseMethodDescriptor "()V" = some ⟨[], none⟩ := by decide +kernel
theorem own_d14_4 : decode jdk_35_method_26_code 4 = .ok (.aload_n 0, 1) := by decide +kernel
theorem own_d14_5 : decode jdk_35_method_26_code 5 = .ok (.lload_n 1, 1) := by decide +kernel
theorem own_d14_6 : decode jdk_35_method_26_code 6 = .ok (.putfield 273, 3) := by decide +kernel
theorem own_d14_9 : decode jdk_35_method_26_code 9 = .ok (.return_, 1) := by decide +kernel
theorem own_d8_0 : decode jdk_35_method_24_code 0 = .ok (.sipush 128, 3) := by decide +kernel
theorem own_d8_3 : decode jdk_35_method_24_code 3 = .ok (.istore_n 2, 1) := by decide +kernel
theorem own_d8_4 : decode jdk_35_method_24_code 4 = .ok (.lload_n 0, 1) := by decide +kernel
theorem own_d8_5 : decode jdk_35_method_24_code 5 = .ok (.ldc2_w 230, 3) := by decide +kernel
theorem own_d8_8 : decode jdk_35_method_24_code 8 = .ok (.lcmp, 1) := by decide +kernel
theorem own_d8_9 : decode jdk_35_method_24_code 9 = .ok (.ifCond .lt 22, 3) := by decide +kernel
theorem own_d8_31 : decode jdk_35_method_24_code 31 = .ok (.new 1, 3) := by decide +kernel
theorem own_d8_34 : decode jdk_35_method_24_code 34 = .ok (.dup, 1) := by decide +kernel
theorem own_d8_35 : decode jdk_35_method_24_code 35 = .ok (.lload_n 0, 1) := by decide +kernel
theorem own_d8_36 : decode jdk_35_method_24_code 36 = .ok (.invokespecial 240, 3) := by decide +kernel
theorem own_pd1 : parseMethodDescriptor "(J)V" = some ⟨[.long], none⟩ := by decide +kernel
theorem own_d8_39 : decode jdk_35_method_24_code 39 = .ok (.areturn, 1) := by decide +kernel
theorem own_d8_12 : decode jdk_35_method_24_code 12 = .ok (.lload_n 0, 1) := by decide +kernel
theorem own_d8_13 : decode jdk_35_method_24_code 13 = .ok (.ldc2_w 232, 3) := by decide +kernel
theorem own_d8_16 : decode jdk_35_method_24_code 16 = .ok (.lcmp, 1) := by decide +kernel
theorem own_d8_17 : decode jdk_35_method_24_code 17 = .ok (.ifCond .gt 14, 3) := by decide +kernel
theorem own_d8_20 : decode jdk_35_method_24_code 20 = .ok (.getstatic 234, 3) := by decide +kernel
theorem own_d8_23 : decode jdk_35_method_24_code 23 = .ok (.lload_n 0, 1) := by decide +kernel
theorem own_d8_24 : decode jdk_35_method_24_code 24 = .ok (.l2i, 1) := by decide +kernel
theorem own_d8_25 : decode jdk_35_method_24_code 25 = .ok (.sipush 128, 3) := by decide +kernel
theorem own_d8_28 : decode jdk_35_method_24_code 28 = .ok (.iadd, 1) := by decide +kernel
theorem own_d8_29 : decode jdk_35_method_24_code 29 = .ok (.aaload, 1) := by decide +kernel
theorem own_d8_30 : decode jdk_35_method_24_code 30 = .ok (.areturn, 1) := by decide +kernel
theorem own_pn2 : plainName "java/util/AbstractCollection" = true := by first | (simp [plainName, overriddenIn]; done) | decide +kernel
theorem own_d3_0 : decode jdk_22_method_1_code 0 = .ok (.aload_n 0, 1) := by decide +kernel
theorem own_d3_1 : decode jdk_22_method_1_code 1 = .ok (.invokespecial 1, 3) := by decide +kernel
theorem own_d3_4 : decode jdk_22_method_1_code 4 = .ok (.return_, 1) := by decide +kernel
theorem own_pn3 : plainName "java/util/AbstractList" = true := by first | (simp [plainName, overriddenIn]; done) | decide +kernel
theorem own_d2_0 : decode jdk_39_method_1_code 0 = .ok (.aload_n 0, 1) := by decide +kernel
theorem own_d2_1 : decode jdk_39_method_1_code 1 = .ok (.invokespecial 1, 3) := by decide +kernel
theorem own_d2_4 : decode jdk_39_method_1_code 4 = .ok (.aload_n 0, 1) := by decide +kernel
theorem own_d2_5 : decode jdk_39_method_1_code 5 = .ok (.iconst 0, 1) := by decide +kernel
theorem own_d2_6 : decode jdk_39_method_1_code 6 = .ok (.putfield 7, 3) := by decide +kernel
theorem own_d2_9 : decode jdk_39_method_1_code 9 = .ok (.return_, 1) := by decide +kernel
theorem own_pn4 : plainName "java/util/ArrayList" = true := by first | (simp [plainName, overriddenIn]; done) | decide +kernel
theorem own_d1_0 : decode jdk_38_method_2_code 0 = .ok (.aload_n 0, 1) := by decide +kernel
theorem own_d1_1 : decode jdk_38_method_2_code 1 = .ok (.invokespecial 1, 3) := by decide +kernel
theorem own_d1_4 : decode jdk_38_method_2_code 4 = .ok (.aload_n 0, 1) := by decide +kernel
theorem own_d1_5 : decode jdk_38_method_2_code 5 = .ok (.getstatic 39, 3) := by decide +kernel
theorem own_d1_8 : decode jdk_38_method_2_code 8 = .ok (.putfield 9, 3) := by decide +kernel
theorem own_d1_11 : decode jdk_38_method_2_code 11 = .ok (.return_, 1) := by decide +kernel
theorem own_d13_0 : decode jdk_29_method_65_code 0 = .ok (.iload_n 0, 1) := by decide +kernel
theorem own_d13_1 : decode jdk_29_method_65_code 1 = .ok (.iload_n 1, 1) := by decide +kernel
theorem own_d13_2 : decode jdk_29_method_65_code 2 = .ok (.if_icmp .lt 7, 3) := by decide +kernel
theorem own_d13_9 : decode jdk_29_method_65_code 9 = .ok (.iload_n 1, 1) := by decide +kernel
theorem own_d13_10 : decode jdk_29_method_65_code 10 = .ok (.ireturn, 1) := by decide +kernel
theorem own_d13_5 : decode jdk_29_method_65_code 5 = .ok (.iload_n 0, 1) := by decide +kernel
theorem own_d13_6 : decode jdk_29_method_65_code 6 = .ok (.goto 4, 3) := by decide +kernel
theorem own_d12_0 : decode jdk_38_method_6_code 0 = .ok (.aload_n 0, 1) := by decide +kernel
theorem own_d12_1 : decode jdk_38_method_6_code 1 = .ok (.getfield 9, 3) := by decide +kernel
theorem own_d12_4 : decode jdk_38_method_6_code 4 = .ok (.arraylength, 1) := by decide +kernel
theorem own_d12_5 : decode jdk_38_method_6_code 5 = .ok (.istore_n 2, 1) := by decide +kernel
theorem own_d12_6 : decode jdk_38_method_6_code 6 = .ok (.iload_n 2, 1) := by decide +kernel
theorem own_d12_7 : decode jdk_38_method_6_code 7 = .ok (.ifCond .gt 13, 3) := by decide +kernel
theorem own_d12_10 : decode jdk_38_method_6_code 10 = .ok (.aload_n 0, 1) := by decide +kernel
theorem own_d12_11 : decode jdk_38_method_6_code 11 = .ok (.getfield 9, 3) := by decide +kernel
theorem own_d12_14 : decode jdk_38_method_6_code 14 = .ok (.getstatic 39, 3) := by decide +kernel
theorem own_d12_17 : decode jdk_38_method_6_code 17 = .ok (.if_acmp .eq 28, 3) := by decide +kernel
theorem own_d12_45 : decode jdk_38_method_6_code 45 = .ok (.aload_n 0, 1) := by decide +kernel
theorem own_d12_46 : decode jdk_38_method_6_code 46 = .ok (.bipush 10, 2) := by decide +kernel
theorem own_d12_48 : decode jdk_38_method_6_code 48 = .ok (.iload_n 1, 1) := by decide +kernel
theorem own_d12_49 : decode jdk_38_method_6_code 49 = .ok (.invokestatic 79, 3) := by decide +kernel
theorem own_pd2 : parseMethodDescriptor "(II)I" = some ⟨[.int, .int], some .int⟩ := by decide +kernel
theorem own_d12_52 : decode jdk_38_method_6_code 52 = .ok (.anewarray 7, 3) := by decide +kernel
theorem own_d12_55 : decode jdk_38_method_6_code 55 = .ok (.dup_x1, 1) := by decide +kernel
theorem own_d12_56 : decode jdk_38_method_6_code 56 = .ok (.putfield 9, 3) := by decide +kernel
theorem own_d12_59 : decode jdk_38_method_6_code 59 = .ok (.areturn, 1) := by decide +kernel
theorem own_d11_0 : decode jdk_38_method_7_code 0 = .ok (.aload_n 0, 1) := by decide +kernel
theorem own_d11_1 : decode jdk_38_method_7_code 1 = .ok (.aload_n 0, 1) := by decide +kernel
theorem own_d11_2 : decode jdk_38_method_7_code 2 = .ok (.getfield 48, 3) := by decide +kernel
theorem own_d11_5 : decode jdk_38_method_7_code 5 = .ok (.iconst 1, 1) := by decide +kernel
theorem own_d11_6 : decode jdk_38_method_7_code 6 = .ok (.iadd, 1) := by decide +kernel
theorem own_d11_7 : decode jdk_38_method_7_code 7 = .ok (.invokevirtual 69, 3) := by decide +kernel
theorem own_pd3 : parseMethodDescriptor "(I)[Ljava/lang/Object;" = some ⟨[.int], some (.array (.object "java/lang/Object"))⟩ := by decide +kernel
theorem own_d11_10 : decode jdk_38_method_7_code 10 = .ok (.areturn, 1) := by decide +kernel
theorem own_d10_0 : decode jdk_38_method_24_code 0 = .ok (.iload_n 3, 1) := by decide +kernel
theorem own_d10_1 : decode jdk_38_method_24_code 1 = .ok (.aload_n 2, 1) := by decide +kernel
theorem own_d10_2 : decode jdk_38_method_24_code 2 = .ok (.arraylength, 1) := by decide +kernel
theorem own_d10_3 : decode jdk_38_method_24_code 3 = .ok (.if_icmp .ne 8, 3) := by decide +kernel
theorem own_d10_6 : decode jdk_38_method_24_code 6 = .ok (.aload_n 0, 1) := by decide +kernel
theorem own_d10_7 : decode jdk_38_method_24_code 7 = .ok (.invokevirtual 129, 3) := by decide +kernel
theorem own_pd4 : parseMethodDescriptor "()[Ljava/lang/Object;" = some ⟨[], some (.array (.object "java/lang/Object"))⟩ := by decide +kernel
theorem own_d10_10 : decode jdk_38_method_24_code 10 = .ok (.astore_n 2, 1) := by decide +kernel
theorem own_d10_11 : decode jdk_38_method_24_code 11 = .ok (.aload_n 2, 1) := by decide +kernel
theorem own_d10_12 : decode jdk_38_method_24_code 12 = .ok (.iload_n 3, 1) := by decide +kernel
theorem own_d10_13 : decode jdk_38_method_24_code 13 = .ok (.aload_n 1, 1) := by decide +kernel
theorem own_d10_14 : decode jdk_38_method_24_code 14 = .ok (.aastore, 1) := by decide +kernel
theorem own_d10_15 : decode jdk_38_method_24_code 15 = .ok (.aload_n 0, 1) := by decide +kernel
theorem own_d10_16 : decode jdk_38_method_24_code 16 = .ok (.iload_n 3, 1) := by decide +kernel
theorem own_d10_17 : decode jdk_38_method_24_code 17 = .ok (.iconst 1, 1) := by decide +kernel
theorem own_d10_18 : decode jdk_38_method_24_code 18 = .ok (.iadd, 1) := by decide +kernel
theorem own_d10_19 : decode jdk_38_method_24_code 19 = .ok (.putfield 48, 3) := by decide +kernel
theorem own_d10_22 : decode jdk_38_method_24_code 22 = .ok (.return_, 1) := by decide +kernel
theorem own_d9_0 : decode jdk_38_method_25_code 0 = .ok (.aload_n 0, 1) := by decide +kernel
theorem own_d9_1 : decode jdk_38_method_25_code 1 = .ok (.dup, 1) := by decide +kernel
theorem own_d9_2 : decode jdk_38_method_25_code 2 = .ok (.getfield 63, 3) := by decide +kernel
theorem own_d9_5 : decode jdk_38_method_25_code 5 = .ok (.iconst 1, 1) := by decide +kernel
theorem own_d9_6 : decode jdk_38_method_25_code 6 = .ok (.iadd, 1) := by decide +kernel
theorem own_d9_7 : decode jdk_38_method_25_code 7 = .ok (.putfield 63, 3) := by decide +kernel
theorem own_d9_10 : decode jdk_38_method_25_code 10 = .ok (.aload_n 0, 1) := by decide +kernel
theorem own_d9_11 : decode jdk_38_method_25_code 11 = .ok (.aload_n 1, 1) := by decide +kernel
theorem own_d9_12 : decode jdk_38_method_25_code 12 = .ok (.aload_n 0, 1) := by decide +kernel
theorem own_d9_13 : decode jdk_38_method_25_code 13 = .ok (.getfield 9, 3) := by decide +kernel
theorem own_d9_16 : decode jdk_38_method_25_code 16 = .ok (.aload_n 0, 1) := by decide +kernel
theorem own_d9_17 : decode jdk_38_method_25_code 17 = .ok (.getfield 48, 3) := by decide +kernel
theorem own_d9_20 : decode jdk_38_method_25_code 20 = .ok (.invokevirtual 131, 3) := by decide +kernel
theorem own_pd5 : parseMethodDescriptor "(Ljava/lang/Object;[Ljava/lang/Object;I)V" = some ⟨[(.object "java/lang/Object"), (.array (.object "java/lang/Object")), .int], none⟩ := by decide +kernel
theorem own_d9_23 : decode jdk_38_method_25_code 23 = .ok (.iconst 1, 1) := by decide +kernel
theorem own_d9_24 : decode jdk_38_method_25_code 24 = .ok (.ireturn, 1) := by decide +kernel
theorem own_pn5 : plainName "java/lang/Record" = true := by first | (simp [plainName, overriddenIn]; done) | decide +kernel
theorem own_d6_0 : decode jdk_30_method_1_code 0 = .ok (.aload_n 0, 1) := by decide +kernel
theorem own_d6_1 : decode jdk_30_method_1_code 1 = .ok (.invokespecial 1, 3) := by decide +kernel
theorem own_d6_4 : decode jdk_30_method_1_code 4 = .ok (.return_, 1) := by decide +kernel
theorem own_pn6 : plainName "com/example/cast3/cast3/Inbox$Run" = true := by first | (simp [plainName, overriddenIn]; done) | decide +kernel
theorem own_d5_0 : decode prog_6_method_1_code 0 = .ok (.aload_n 0, 1) := by decide +kernel
theorem own_d5_1 : decode prog_6_method_1_code 1 = .ok (.invokespecial 1, 3) := by decide +kernel
theorem own_d5_4 : decode prog_6_method_1_code 4 = .ok (.aload_n 0, 1) := by decide +kernel
theorem own_d5_5 : decode prog_6_method_1_code 5 = .ok (.lload_n 1, 1) := by decide +kernel
theorem own_d5_6 : decode prog_6_method_1_code 6 = .ok (.putfield 7, 3) := by decide +kernel
theorem own_d5_9 : decode prog_6_method_1_code 9 = .ok (.aload_n 0, 1) := by decide +kernel
theorem own_d5_10 : decode prog_6_method_1_code 10 = .ok (.lload_n 3, 1) := by decide +kernel
theorem own_d5_11 : decode prog_6_method_1_code 11 = .ok (.putfield 13, 3) := by decide +kernel
theorem own_d5_14 : decode prog_6_method_1_code 14 = .ok (.aload_n 0, 1) := by decide +kernel
theorem own_d5_15 : decode prog_6_method_1_code 15 = .ok (.lload 5, 2) := by decide +kernel
theorem own_d5_17 : decode prog_6_method_1_code 17 = .ok (.putfield 16, 3) := by decide +kernel
theorem own_d5_20 : decode prog_6_method_1_code 20 = .ok (.aload_n 0, 1) := by decide +kernel
theorem own_d5_21 : decode prog_6_method_1_code 21 = .ok (.lload 7, 2) := by decide +kernel
theorem own_d5_23 : decode prog_6_method_1_code 23 = .ok (.putfield 19, 3) := by decide +kernel
theorem own_d5_26 : decode prog_6_method_1_code 26 = .ok (.aload_n 0, 1) := by decide +kernel
theorem own_d5_27 : decode prog_6_method_1_code 27 = .ok (.lload 9, 2) := by decide +kernel
theorem own_d5_29 : decode prog_6_method_1_code 29 = .ok (.putfield 22, 3) := by decide +kernel
theorem own_d5_32 : decode prog_6_method_1_code 32 = .ok (.aload_n 0, 1) := by decide +kernel
theorem own_d5_33 : decode prog_6_method_1_code 33 = .ok (.aload 11, 2) := by decide +kernel
theorem own_d5_35 : decode prog_6_method_1_code 35 = .ok (.putfield 25, 3) := by decide +kernel
theorem own_d5_38 : decode prog_6_method_1_code 38 = .ok (.return_, 1) := by decide +kernel
theorem own_d7_0 : decode prog_6_method_2_code 0 = .ok (.aload_n 0, 1) := by decide +kernel
theorem own_d7_1 : decode prog_6_method_2_code 1 = .ok (.getfield 22, 3) := by decide +kernel
theorem own_d7_4 : decode prog_6_method_2_code 4 = .ok (.ldc2_w 31, 3) := by decide +kernel
theorem own_d7_7 : decode prog_6_method_2_code 7 = .ok (.lcmp, 1) := by decide +kernel
theorem own_d7_8 : decode prog_6_method_2_code 8 = .ok (.ifCond .ne 7, 3) := by decide +kernel
theorem own_d7_11 : decode prog_6_method_2_code 11 = .ok (.iconst 1, 1) := by decide +kernel
theorem own_d7_12 : decode prog_6_method_2_code 12 = .ok (.goto 4, 3) := by decide +kernel
theorem own_d7_16 : decode prog_6_method_2_code 16 = .ok (.ireturn, 1) := by decide +kernel
theorem own_d7_15 : decode prog_6_method_2_code 15 = .ok (.iconst 0, 1) := by decide +kernel
theorem own_pn7 : plainName "com/example/cast3/cast3/RunLastPinLaw" = true := by first | (simp [plainName, overriddenIn]; done) | decide +kernel
theorem own_pd6 : parseMethodDescriptor "(JJJJJLjava/util/List;)V" = some ⟨[.long, .long, .long, .long, .long, (.object "java/util/List")], none⟩ := by decide +kernel
theorem own_pd7 : parseMethodDescriptor "()Z" = some ⟨[], some .boolean⟩ := by decide +kernel
theorem own_pd8 : parseMethodDescriptor "(J)Ljava/lang/Long;" = some ⟨[.long], some (.object "java/lang/Long")⟩ := by decide +kernel
theorem own_pd9 : parseMethodDescriptor "(Ljava/lang/Object;)Z" = some ⟨[(.object "java/lang/Object")], some .boolean⟩ := by decide +kernel
def own_last (q : Int64) : Int32 := if q = (9223372036854775807 : Int64) then (1 : Int32) else (0 : Int32)

theorem own_len31 {args : Array Value} {first s : State} {o : Option Outcome} {idx : List Nat} {t : Term} {v : Value} {a : Addr} {cell : Cell} (ht : t.eval args first o idx s = some (.ref a)) (hc : s.arrayAt? a = some cell) (h : (Term.length t).eval args first o idx s = some v) : cell.slots.size < 2 ^ 31 := by
  by_cases q : cell.slots.size < 2147483648
  · exact q
  · exfalso
    simp [Term.eval, ht, hc, q] at h
def own_bv (j : Int32) : Value := .long ((j - (128 : Int32)).toInt64)
theorem own_boxAt {Z : State} {h0 : Heap} {n0 : Nat} {cb : Addr} {cc : Cell} {q1 : Int64} (B : Bxs Z cb cc "java/lang/Long" "J" (256 : Int32) own_bv) (O : Old Z n0 h0) (h1 : ¬ (q1 < (-128 : Int64))) (h2 : ¬ ((127 : Int64) < q1)) :
    ¬ (((q1.toInt32) + (128 : Int32)) < 0 ∨ cc.slots.size ≤ ((q1.toInt32) + (128 : Int32)).toNatClampNeg) ∧ ∃ a : Addr, cc.slots[((q1.toInt32) + (128 : Int32)).toNatClampNeg]? = some (.ref a) ∧ Exa Z h0 a "java/lang/Long" ∧ Fld Z h0 a "java/lang/Long" "value" "J" (.long q1) := by
  rw [Int64.lt_iff_toInt_lt] at h1 h2
  rw [show (-128 : Int64).toInt = -128 from by decide] at h1
  rw [show (127 : Int64).toInt = 127 from by decide] at h2
  have c1 := c_l2i q1
  have c2 := rng32 q1.toInt32
  have c3 := c_iadd q1.toInt32 128
  rw [show (128 : Int32).toInt = 128 from by decide] at c3
  have c4 := rng32 (q1.toInt32 + 128)
  have hj : ¬ (((q1.toInt32) + (128 : Int32)) < 0 ∨ cc.slots.size ≤ ((q1.toInt32) + (128 : Int32)).toNatClampNeg) := by
    have hs := B.2.1
    rw [show (256 : Int32).toNatClampNeg = 256 from by decide] at hs
    intro h
    rcases h with h | h
    · rw [Int32.lt_iff_toInt_lt, show (0 : Int32).toInt = 0 from by decide] at h; omega
    · have : (((q1.toInt32) + (128 : Int32)).toNatClampNeg : Int) = ((q1.toInt32) + (128 : Int32)).toInt := (nat_of (by rw [Int32.lt_iff_toInt_lt, show (0 : Int32).toInt = 0 from by decide]; omega)).symm
      omega
  obtain ⟨b, e1, e2, e3⟩ := B.2.2.2 _ hj
  refine ⟨hj, b, e1, Exa.ext O.2 e2, ?_⟩
  have q : own_bv ((q1.toInt32) + (128 : Int32)) = .long q1 := by
    show Value.long ((((q1.toInt32) + (128 : Int32)) - (128 : Int32)).toInt64) = .long q1
    congr 1
    apply Int64.toInt_inj.mp
    rw [Int32.toInt_toInt64]
    have c5 := c_isub (q1.toInt32 + 128) 128
    rw [show (128 : Int32).toInt = 128 from by decide] at c5
    have c6 := rng32 (q1.toInt32 + 128 - 128)
    omega
  rw [← q]
  exact Fld.ext O.2 e3

theorem own_i_Number_ef (m : MethodId) (x0 : Addr) : entryFrame m #[(.ref x0)] 1 = mkF m 0 #[.val (.ref x0)] [] := by first | (simp [entryFrame, mkF, argsToLocals, Value.category]; done) | rfl
def own_i_Number_Q (Z : State) (a1 : Addr) (h0 : Heap) (n0 : Nat) (v : Option Value) (h : Heap) (L : List Loc) : Prop := (v = none ∧ Fr n0 L ∧ h = h0)
set_option maxRecDepth 65536 in
set_option maxHeartbeats 40000000 in
theorem own_i_Number (l : Launch) (Z : State) (a0 : Array Value) (hw : ∀ d ∈ tables_1, d.before a0 Z = true) (ws : List Jvm.Cond) (a1 : Addr) (h0 : Heap) (n0 : Nat) (Z0 : n0 ≤ h0.size)  :
    MetFree l (⟨"java/lang/Number", "<init>", "()V"⟩ : MethodName) (head1 (Jvm.Cond.code (⟨"java/lang/Number", "<init>", "()V"⟩ : MethodName) jdk_18_method_1_code 1 none :: ws) ({ frames := 1, cells := 0, slots := 0, locals := 12 } : Room)) (fun a U => a = #[(.ref a1)] ∧ Z.Warmed39 U.vm ∧ U.heap = h0) (fun _ _ _ _ _ => True) (fun _ U o U' => ∃ v L, o = .returned v ∧ own_i_Number_Q Z a1 h0 n0 v U'.heap L ∧ FrameEnd U o U' L ({ frames := 1, cells := 0, slots := 0, locals := 12 } : Room).cells ({ frames := 1, cells := 0, slots := 0, locals := 12 } : Room).slots) := by
  refine MetFree.of_bodySF (plainFor_of_name own_pn0) hisR ?_
  intro p e s m args below meth c s₁ Bd hml0 hP hK
  obtain ⟨rfl, hZ, hh⟩ := hP
  have hx := Bd.exec
  have hby := Bd.bytes
  have hlk : meth.locks = false := BodyLoose.notSynchronized Bd
  have hml : c.maxLocals = 1 := hml0
  have hown : s.vm.findClass "java/lang/Number" = some m.cls := findClass_of_methodNamed Bd.named
  have hnm := (name_of_methodNamed Bd.named Bd.method).1
  have X0 : Stand p l e ({ frames := 1, cells := 0, slots := 0, locals := 12 } : Room) s m #[(.ref a1)] below meth c s₁ [] 0 0 := Stand.of_body Bd
  have e0 : s₁.heap = h0 := by rw [← hh, Bd.state]; rfl
  have N0 := Fr.nil n0
  refine own_start (QQ := own_i_Number_Q Z a1 h0 n0) (rc := ({ frames := 1, cells := 0, slots := 0, locals := 12 } : Room).cells) (rs := ({ frames := 1, cells := 0, slots := 0, locals := 12 } : Room).slots) (own_i_Number_ef m a1 ) ?_
  show own_G p.tables e below _ (s₁.setTop (mkF m 0 #[.val (.ref a1)] []))
  refine own_fs (XS.aloadN X0.here hx rfl (hb hby own_d15_0) rfl rfl (Steps.refl _)) ?_
  show own_G p.tables e below _ (s₁.setTop (mkF m 1 #[.val (.ref a1)] [(.ref a1)]))
  obtain ⟨T1, X1, e1, st1⟩ := initO X0 hx hZ hown (hw _ (List.mem_of_getElem? (i := 109) rfl)) (hw _ (List.mem_of_getElem? (i := 20) rfl)) (hw _ (List.mem_of_getElem? (i := 21) rfl)) e0 (g := (mkF m 1 #[.val (.ref a1)] [(.ref a1)])) rfl (by rw [hml]; rfl) rfl (hb hby own_d15_1) (by decide) (W := 0) (by show 2 * 0 + _ ≤ _; exact Nat.le_of_eq rfl) (by decide)
  refine own_fs (st1 _ (Steps.refl _)) ?_
  show own_G p.tables e below _ (T1.setTop (mkF m 4 #[.val (.ref a1)] []))
  exact own_retV X1 hx Bd.returns hlk (hb hby own_d15_4) (by decide) (by decide) e1 ⟨rfl, N0, rfl⟩
theorem own_i_Long_ef (m : MethodId) (x0 : Addr) (x1 : Int64) : entryFrame m #[(.ref x0), (.long x1)] 3 = mkF m 0 #[.val (.ref x0), .val (.long x1), .second] [] := by first | (simp [entryFrame, mkF, argsToLocals, Value.category]; done) | rfl
def own_i_Long_Q (Z : State) (a1 : Addr) (q1 : Int64) (u1 : Int64) (h0 : Heap) (n0 : Nat) (v : Option Value) (h : Heap) (L : List Loc) : Prop := (v = none ∧ Fr n0 L ∧ Keep h0 h [a1] ∧ (Fld Z h a1 "java/lang/Long" "value" "J" (.long q1)))
set_option maxRecDepth 65536 in
set_option maxHeartbeats 40000000 in
theorem own_i_Long (l : Launch) (Z : State) (a0 : Array Value) (hw : ∀ d ∈ tables_1, d.before a0 Z = true) (ws : List Jvm.Cond) (a1 : Addr) (q1 : Int64) (u1 : Int64) (h0 : Heap) (n0 : Nat) (Z0 : n0 ≤ h0.size) (hE_a1 : Exa Z h0 a1 "java/lang/Long") (hF_value_a1 : Fld Z h0 a1 "java/lang/Long" "value" "J" (.long u1)) (ge_a1 : n0 ≤ a1) :
    MetFree l (⟨"java/lang/Long", "<init>", "(J)V"⟩ : MethodName) (head1 (Jvm.Cond.code (⟨"java/lang/Long", "<init>", "(J)V"⟩ : MethodName) jdk_35_method_26_code 3 none :: ws) ({ frames := 2, cells := 0, slots := 0, locals := 24 } : Room)) (fun a U => a = #[(.ref a1), (.long q1)] ∧ Z.Warmed39 U.vm ∧ U.heap = h0) (fun _ _ _ _ _ => True) (fun _ U o U' => ∃ v L, o = .returned v ∧ own_i_Long_Q Z a1 q1 u1 h0 n0 v U'.heap L ∧ FrameEnd U o U' L ({ frames := 2, cells := 0, slots := 0, locals := 24 } : Room).cells ({ frames := 2, cells := 0, slots := 0, locals := 24 } : Room).slots) := by
  refine MetFree.of_bodySF (plainFor_of_name own_pn1) hisR ?_
  intro p e s m args below meth c s₁ Bd hml0 hP hK
  obtain ⟨rfl, hZ, hh⟩ := hP
  have hx := Bd.exec
  have hby := Bd.bytes
  have hlk : meth.locks = false := BodyLoose.notSynchronized Bd
  have hml : c.maxLocals = 3 := hml0
  have hown : s.vm.findClass "java/lang/Long" = some m.cls := findClass_of_methodNamed Bd.named
  have hnm := (name_of_methodNamed Bd.named Bd.method).1
  have X0 : Stand p l e ({ frames := 2, cells := 0, slots := 0, locals := 24 } : Room) s m #[(.ref a1), (.long q1)] below meth c s₁ [] 0 0 := Stand.of_body Bd
  have e0 : s₁.heap = h0 := by rw [← hh, Bd.state]; rfl
  have N0 := Fr.nil n0
  refine own_start (QQ := own_i_Long_Q Z a1 q1 u1 h0 n0) (rc := ({ frames := 2, cells := 0, slots := 0, locals := 24 } : Room).cells) (rs := ({ frames := 2, cells := 0, slots := 0, locals := 24 } : Room).slots) (own_i_Long_ef m a1 q1 ) ?_
  show own_G p.tables e below _ (s₁.setTop (mkF m 0 #[.val (.ref a1), .val (.long q1), .second] []))
  refine own_fs (XS.aloadN X0.here hx rfl (hb hby own_d14_0) rfl rfl (Steps.refl _)) ?_
  show own_G p.tables e below _ (s₁.setTop (mkF m 1 #[.val (.ref a1), .val (.long q1), .second] [(.ref a1)]))
  have Zs3 : n0 ≤ h0.size := Z0
  obtain ⟨_, _, ⟨T2, L2, k2, n2⟩, -, X2, ⟨Lc2, hQ2, l2, y2, z2⟩, st2⟩ := X0.specialBack hx (y := (⟨"java/lang/Number", "<init>", "()V"⟩ : MethodName)) rfl hown (mvT hZ (hw _ (List.mem_of_getElem? (i := 103) rfl))) (mvT hZ (hw _ (List.mem_of_getElem? (i := 104) rfl))) (mvT hZ (hw _ (List.mem_of_getElem? (i := 108) rfl))) (by decide) (backOf (W := 0) (own_i_Number l Z a0 hw [] a1 h0 n0 Zs3 ) hZ (hw _ (List.mem_of_getElem? (i := 108) rfl)) (hw _ (List.mem_of_getElem? (i := 107) rfl)) (by decide) (by decide)) (g := (mkF m 1 #[.val (.ref a1), .val (.long q1), .second] [(.ref a1)])) rfl (by rw [hml]; rfl) (Steps.refl _) (a := a1) (argsL := []) (rest := []) (lenOf own_pd0 rfl) rfl (by show 2 * 0 + _ ≤ _; exact Nat.le_of_eq rfl) (hb hby own_d14_1) (fun _ _ => ⟨rfl, e0, (by decide : 0 + 0 ≤ _), (by decide : 0 + 0 ≤ _)⟩)
  dsimp only [Pt.U, Pt.locs, Pt.cells, Pt.slots] at X2 l2 y2 z2 st2 hQ2
  subst l2 y2 z2
  obtain ⟨rfl, Nq2, e2⟩ := hQ2
  have N2 := Fr.app N0 Nq2
  refine own_fs st2 ?_
  show own_G p.tables e below _ (T2.setTop (mkF m 4 #[.val (.ref a1), .val (.long q1), .second] []))
  refine own_fs (XS.aloadN X2.here hx rfl (hb hby own_d14_4) rfl rfl (Steps.refl _)) ?_
  show own_G p.tables e below _ (T2.setTop (mkF m 5 #[.val (.ref a1), .val (.long q1), .second] [(.ref a1)]))
  refine own_fs (XS.lloadN X2.here hx rfl (hb hby own_d14_5) rfl (Steps.refl _)) ?_
  show own_G p.tables e below _ (T2.setTop (mkF m 6 #[.val (.ref a1), .val (.long q1), .second] [(.long q1), (.ref a1)]))
  obtain ⟨T4, h4, X4, e4, W4, st4⟩ := putF X2 hx hZ hown (host := "") (Or.inl (hw _ (List.mem_of_getElem? (i := 110) rfl))) Via.refl e2 hF_value_a1 hE_a1 (Or.inr ⟨(hw _ (List.mem_of_getElem? (i := 111) rfl)), rfl, hnm⟩) (hw _ (List.mem_of_getElem? (i := 98) rfl)) (ty := .long) (by decide) rfl rfl (g := (mkF m 6 #[.val (.ref a1), .val (.long q1), .second] [(.long q1), (.ref a1)])) rfl rfl (hb hby own_d14_6)
  refine own_fs (st4 _ (Steps.refl _)) ?_
  have Fw4 := Fld.same W4 hF_value_a1
  have N4 := Fr.snoc X4 N2 ge_a1
  show own_G p.tables e below _ (T4.setTop (mkF m 9 #[.val (.ref a1), .val (.long q1), .second] []))
  exact own_retV X4 hx Bd.returns hlk (hb hby own_d14_9) (by decide) (by decide) e4 ⟨rfl, N4, ((Keep.refl _ _).wr W4 (Or.inl (List.mem_of_getElem? (i := 0) rfl))), Fw4⟩
theorem own_valueOf_ef (m : MethodId) (x0 : Int64) : entryFrame m #[(.long x0)] 3 = mkF m 0 #[.val (.long x0), .second, .unset] [] := by first | (simp [entryFrame, mkF, argsToLocals, Value.category]; done) | rfl
def own_valueOf_Q (Z : State) (q1 : Int64) (cb : Addr) (cc : Cell) (h0 : Heap) (n0 : Nat) (v : Option Value) (h : Heap) (L : List Loc) : Prop := ∃ ar : Addr, (v = some (.ref ar) ∧ Fr n0 L ∧ Keep h0 h [] ∧ (Exa Z h ar "java/lang/Long") ∧ (Fld Z h ar "java/lang/Long" "value" "J" (.long q1)) ∧ (ar < h.size))
set_option maxRecDepth 65536 in
set_option maxHeartbeats 40000000 in
theorem own_valueOf (l : Launch) (Z : State) (a0 : Array Value) (hw : ∀ d ∈ tables_1, d.before a0 Z = true) (ws : List Jvm.Cond) (q1 : Int64) (cb : Addr) (cc : Cell) (h0 : Heap) (n0 : Nat) (Z0 : n0 ≤ h0.size) (hSta : Sta Z Z.heap "java/lang/Long$LongCache" "cache" "[Ljava/lang/Long;" (.ref cb)) (hBx : Bxs Z cb cc "java/lang/Long" "J" (256 : Int32) own_bv) (hOld : Old Z n0 h0) :
    MetFree l (⟨"java/lang/Long", "valueOf", "(J)Ljava/lang/Long;"⟩ : MethodName) (head1 (Jvm.Cond.code (⟨"java/lang/Long", "valueOf", "(J)Ljava/lang/Long;"⟩ : MethodName) jdk_35_method_24_code 3 (some (.object "java/lang/Long")) :: ws) ({ frames := 3, cells := 1, slots := 1, locals := 39 } : Room)) (fun a U => a = #[(.long q1)] ∧ Z.Warmed39 U.vm ∧ U.heap = h0) (fun _ _ _ _ _ => True) (fun _ U o U' => ∃ v L, o = .returned v ∧ own_valueOf_Q Z q1 cb cc h0 n0 v U'.heap L ∧ FrameEnd U o U' L ({ frames := 3, cells := 1, slots := 1, locals := 39 } : Room).cells ({ frames := 3, cells := 1, slots := 1, locals := 39 } : Room).slots) := by
  refine MetFree.of_bodySF (plainFor_of_name own_pn1) hisR ?_
  intro p e s m args below meth c s₁ Bd hml0 hP hK
  obtain ⟨rfl, hZ, hh⟩ := hP
  have hx := Bd.exec
  have hby := Bd.bytes
  have hlk : meth.locks = false := BodyLoose.notSynchronized Bd
  have hml : c.maxLocals = 3 := hml0
  have hown : s.vm.findClass "java/lang/Long" = some m.cls := findClass_of_methodNamed Bd.named
  have hnm := (name_of_methodNamed Bd.named Bd.method).1
  have X0 : Stand p l e ({ frames := 3, cells := 1, slots := 1, locals := 39 } : Room) s m #[(.long q1)] below meth c s₁ [] 0 0 := Stand.of_body Bd
  have e0 : s₁.heap = h0 := by rw [← hh, Bd.state]; rfl
  have N0 := Fr.nil n0
  refine own_start (QQ := own_valueOf_Q Z q1 cb cc h0 n0) (rc := ({ frames := 3, cells := 1, slots := 1, locals := 39 } : Room).cells) (rs := ({ frames := 3, cells := 1, slots := 1, locals := 39 } : Room).slots) (own_valueOf_ef m q1 ) ?_
  show own_G p.tables e below _ (s₁.setTop (mkF m 0 #[.val (.long q1), .second, .unset] []))
  refine own_fs (XS.sipush X0.here hx rfl (hb hby own_d8_0) (Steps.refl _)) ?_
  show own_G p.tables e below _ (s₁.setTop (mkF m 3 #[.val (.long q1), .second, .unset] [(.int (128 : Int32))]))
  refine own_fs (XS.istoreN X0.here hx rfl (hb hby own_d8_3) rfl (l' := #[.val (.long q1), .second, .val (.int (128 : Int32))]) rfl (Steps.refl _)) ?_
  show own_G p.tables e below _ (s₁.setTop (mkF m 4 #[.val (.long q1), .second, .val (.int (128 : Int32))] []))
  refine own_fs (XS.lloadN X0.here hx rfl (hb hby own_d8_4) rfl (Steps.refl _)) ?_
  show own_G p.tables e below _ (s₁.setTop (mkF m 5 #[.val (.long q1), .second, .val (.int (128 : Int32))] [(.long q1)]))
  refine own_fs (X0.ldc2Long hx hown (mvT hZ (hw _ (List.mem_of_getElem? (i := 62) rfl))) (g := (mkF m 5 #[.val (.long q1), .second, .val (.int (128 : Int32))] [(.long q1)])) rfl (hb hby own_d8_5) _ (Steps.refl _)) ?_
  show own_G p.tables e below _ (s₁.setTop (mkF m 8 #[.val (.long q1), .second, .val (.int (128 : Int32))] [(.long (-128 : Int64)), (.long q1)]))
  refine own_fs (XT.lcmp X0.here hx rfl (hb hby own_d8_8) rfl (Steps.refl _)) ?_
  show own_G p.tables e below _ (s₁.setTop (mkF m 9 #[.val (.long q1), .second, .val (.int (128 : Int32))] [(.int (XT.cmpL q1 (-128 : Int64)))]))
  by_cases hc9 : q1 < (-128 : Int64)
  · refine own_fs (XS.ifYes X0.here hx rfl (pc0 := 9) (pc' := 31) rfl (hb hby own_d8_9) rfl (XT.ll_lt_t hc9) (by decide) (by decide) (Steps.refl _)) ?_
    show own_G p.tables e below _ (s₁.setTop (mkF m 31 #[.val (.long q1), .second, .val (.int (128 : Int32))] []))
    obtain ⟨T1, h1, X1, e1, E1, A1, D1, -, st1⟩ := newO X0 hx hZ hown (hw _ (List.mem_of_getElem? (i := 97) rfl)) (hw _ (List.mem_of_getElem? (i := 98) rfl)) (hw _ (List.mem_of_getElem? (i := 60) rfl)) e0 (g := (mkF m 31 #[.val (.long q1), .second, .val (.int (128 : Int32))] [])) rfl (hb hby own_d8_31) (by decide) (by decide)
    obtain ⟨b1, g1⟩ : ∃ z, z = h0.size := ⟨_, rfl⟩
    rw [← g1] at A1 D1 st1
    have ge_b1 : n0 ≤ b1 := Nat.le_trans Z0 (Nat.le_of_eq g1.symm)
    have gz_b1 : h0.size ≤ b1 := Nat.le_trans (Nat.le_refl _) (Nat.le_of_eq g1.symm)
    have F_value_b1 : Fld Z h1 b1 "java/lang/Long" "value" "J" (.long (0 : Int64)) := D1 (Or.inr (hw _ (List.mem_of_getElem? (i := 111) rfl))) (ty := .long) (by decide)
    refine own_fs (st1 _ (Steps.refl _)) ?_
    show own_G p.tables e below _ (T1.setTop (mkF m 34 #[.val (.long q1), .second, .val (.int (128 : Int32))] [(.ref b1)]))
    refine own_fs (XS.dup X1.here hx rfl (hb hby own_d8_34) rfl rfl (Steps.refl _)) ?_
    show own_G p.tables e below _ (T1.setTop (mkF m 35 #[.val (.long q1), .second, .val (.int (128 : Int32))] [(.ref b1), (.ref b1)]))
    refine own_fs (XS.lloadN X1.here hx rfl (hb hby own_d8_35) rfl (Steps.refl _)) ?_
    show own_G p.tables e below _ (T1.setTop (mkF m 36 #[.val (.long q1), .second, .val (.int (128 : Int32))] [(.long q1), (.ref b1), (.ref b1)]))
    have Zs4 : n0 ≤ h1.size := (Nat.le_trans Z0 E1.1)
    obtain ⟨_, _, ⟨T3, L3, k3, n3⟩, -, X3, ⟨Lc3, hQ3, l3, y3, z3⟩, st3⟩ := X1.specialBack hx (y := (⟨"java/lang/Long", "<init>", "(J)V"⟩ : MethodName)) rfl hown (mvT hZ (hw _ (List.mem_of_getElem? (i := 99) rfl))) (mvT hZ (hw _ (List.mem_of_getElem? (i := 100) rfl))) (mvT hZ (hw _ (List.mem_of_getElem? (i := 102) rfl))) (by decide) (backOf (W := 1) (own_i_Long l Z a0 hw [] b1 q1 (0 : Int64) h1 n0 Zs4 A1 F_value_b1 ge_b1) hZ (hw _ (List.mem_of_getElem? (i := 102) rfl)) (hw _ (List.mem_of_getElem? (i := 60) rfl)) (by decide) (by decide)) (g := (mkF m 36 #[.val (.long q1), .second, .val (.int (128 : Int32))] [(.long q1), (.ref b1), (.ref b1)])) rfl (by rw [hml]; rfl) (Steps.refl _) (a := b1) (argsL := [(.long q1)]) (rest := [(.ref b1)]) (lenOf own_pd1 rfl) rfl (by show 2 * 0 + _ ≤ _; exact Nat.le_of_eq rfl) (hb hby own_d8_36) (fun _ _ => ⟨rfl, e1, (by decide : 1 + 0 ≤ _), (by decide : 1 + 0 ≤ _)⟩)
    dsimp only [Pt.U, Pt.locs, Pt.cells, Pt.slots] at X3 l3 y3 z3 st3 hQ3
    subst l3 y3 z3
    obtain ⟨h3, e3⟩ : ∃ h, T3.heap = h := ⟨_, rfl⟩
    rw [e3] at hQ3
    obtain ⟨rfl, Nq3, K3, P2_0⟩ := hQ3
    have N3 := Fr.app N0 Nq3
    refine own_fs st3 ?_
    show own_G p.tables e below _ (T3.setTop (mkF m 39 #[.val (.long q1), .second, .val (.int (128 : Int32))] [(.ref b1)]))
    exact own_retA X3 hx (t := (.object "java/lang/Long")) Bd.returns hlk rfl rfl (hb hby own_d8_39) (by decide) (by decide) e3 ⟨b1, rfl, N3, (((Keep.refl _ _).ext E1).trans K3 (allS (Or.inr gz_b1) all0)), (A1.keep K3), P2_0, (Exa.lt (A1.keep K3))⟩
  · refine own_fs (XS.ifNo X0.here hx rfl (hb hby own_d8_9) rfl (XT.ll_lt_f hc9) (Steps.refl _)) ?_
    show own_G p.tables e below _ (s₁.setTop (mkF m 12 #[.val (.long q1), .second, .val (.int (128 : Int32))] []))
    refine own_fs (XS.lloadN X0.here hx rfl (hb hby own_d8_12) rfl (Steps.refl _)) ?_
    show own_G p.tables e below _ (s₁.setTop (mkF m 13 #[.val (.long q1), .second, .val (.int (128 : Int32))] [(.long q1)]))
    refine own_fs (X0.ldc2Long hx hown (mvT hZ (hw _ (List.mem_of_getElem? (i := 63) rfl))) (g := (mkF m 13 #[.val (.long q1), .second, .val (.int (128 : Int32))] [(.long q1)])) rfl (hb hby own_d8_13) _ (Steps.refl _)) ?_
    show own_G p.tables e below _ (s₁.setTop (mkF m 16 #[.val (.long q1), .second, .val (.int (128 : Int32))] [(.long (127 : Int64)), (.long q1)]))
    refine own_fs (XT.lcmp X0.here hx rfl (hb hby own_d8_16) rfl (Steps.refl _)) ?_
    show own_G p.tables e below _ (s₁.setTop (mkF m 17 #[.val (.long q1), .second, .val (.int (128 : Int32))] [(.int (XT.cmpL q1 (127 : Int64)))]))
    by_cases hc17 : (127 : Int64) < q1
    · refine own_fs (XS.ifYes X0.here hx rfl (pc0 := 17) (pc' := 31) rfl (hb hby own_d8_17) rfl (XT.ll_gt_t hc17) (by decide) (by decide) (Steps.refl _)) ?_
      show own_G p.tables e below _ (s₁.setTop (mkF m 31 #[.val (.long q1), .second, .val (.int (128 : Int32))] []))
      obtain ⟨T5, h5, X5, e5, E5, A5, D5, -, st5⟩ := newO X0 hx hZ hown (hw _ (List.mem_of_getElem? (i := 97) rfl)) (hw _ (List.mem_of_getElem? (i := 98) rfl)) (hw _ (List.mem_of_getElem? (i := 60) rfl)) e0 (g := (mkF m 31 #[.val (.long q1), .second, .val (.int (128 : Int32))] [])) rfl (hb hby own_d8_31) (by decide) (by decide)
      obtain ⟨b5, g5⟩ : ∃ z, z = h0.size := ⟨_, rfl⟩
      rw [← g5] at A5 D5 st5
      have ge_b5 : n0 ≤ b5 := Nat.le_trans Z0 (Nat.le_of_eq g5.symm)
      have gz_b5 : h0.size ≤ b5 := Nat.le_trans (Nat.le_refl _) (Nat.le_of_eq g5.symm)
      have F_value_b5 : Fld Z h5 b5 "java/lang/Long" "value" "J" (.long (0 : Int64)) := D5 (Or.inr (hw _ (List.mem_of_getElem? (i := 111) rfl))) (ty := .long) (by decide)
      refine own_fs (st5 _ (Steps.refl _)) ?_
      show own_G p.tables e below _ (T5.setTop (mkF m 34 #[.val (.long q1), .second, .val (.int (128 : Int32))] [(.ref b5)]))
      refine own_fs (XS.dup X5.here hx rfl (hb hby own_d8_34) rfl rfl (Steps.refl _)) ?_
      show own_G p.tables e below _ (T5.setTop (mkF m 35 #[.val (.long q1), .second, .val (.int (128 : Int32))] [(.ref b5), (.ref b5)]))
      refine own_fs (XS.lloadN X5.here hx rfl (hb hby own_d8_35) rfl (Steps.refl _)) ?_
      show own_G p.tables e below _ (T5.setTop (mkF m 36 #[.val (.long q1), .second, .val (.int (128 : Int32))] [(.long q1), (.ref b5), (.ref b5)]))
      have Zs8 : n0 ≤ h5.size := (Nat.le_trans Z0 E5.1)
      obtain ⟨_, _, ⟨T7, L7, k7, n7⟩, -, X7, ⟨Lc7, hQ7, l7, y7, z7⟩, st7⟩ := X5.specialBack hx (y := (⟨"java/lang/Long", "<init>", "(J)V"⟩ : MethodName)) rfl hown (mvT hZ (hw _ (List.mem_of_getElem? (i := 99) rfl))) (mvT hZ (hw _ (List.mem_of_getElem? (i := 100) rfl))) (mvT hZ (hw _ (List.mem_of_getElem? (i := 102) rfl))) (by decide) (backOf (W := 1) (own_i_Long l Z a0 hw [] b5 q1 (0 : Int64) h5 n0 Zs8 A5 F_value_b5 ge_b5) hZ (hw _ (List.mem_of_getElem? (i := 102) rfl)) (hw _ (List.mem_of_getElem? (i := 60) rfl)) (by decide) (by decide)) (g := (mkF m 36 #[.val (.long q1), .second, .val (.int (128 : Int32))] [(.long q1), (.ref b5), (.ref b5)])) rfl (by rw [hml]; rfl) (Steps.refl _) (a := b5) (argsL := [(.long q1)]) (rest := [(.ref b5)]) (lenOf own_pd1 rfl) rfl (by show 2 * 0 + _ ≤ _; exact Nat.le_of_eq rfl) (hb hby own_d8_36) (fun _ _ => ⟨rfl, e5, (by decide : 1 + 0 ≤ _), (by decide : 1 + 0 ≤ _)⟩)
      dsimp only [Pt.U, Pt.locs, Pt.cells, Pt.slots] at X7 l7 y7 z7 st7 hQ7
      subst l7 y7 z7
      obtain ⟨h7, e7⟩ : ∃ h, T7.heap = h := ⟨_, rfl⟩
      rw [e7] at hQ7
      obtain ⟨rfl, Nq7, K7, P6_0⟩ := hQ7
      have N7 := Fr.app N0 Nq7
      refine own_fs st7 ?_
      show own_G p.tables e below _ (T7.setTop (mkF m 39 #[.val (.long q1), .second, .val (.int (128 : Int32))] [(.ref b5)]))
      exact own_retA X7 hx (t := (.object "java/lang/Long")) Bd.returns hlk rfl rfl (hb hby own_d8_39) (by decide) (by decide) e7 ⟨b5, rfl, N7, (((Keep.refl _ _).ext E5).trans K7 (allS (Or.inr gz_b5) all0)), (A5.keep K7), P6_0, (Exa.lt (A5.keep K7))⟩
    · refine own_fs (XS.ifNo X0.here hx rfl (hb hby own_d8_17) rfl (XT.ll_gt_f hc17) (Steps.refl _)) ?_
      obtain ⟨hin, ar, hat, hEx, hFl⟩ := own_boxAt hBx hOld hc9 hc17
      show own_G p.tables e below _ (s₁.setTop (mkF m 20 #[.val (.long q1), .second, .val (.int (128 : Int32))] []))
      obtain ⟨T9, X9, e9, st9⟩ := getS2 X0 hx hZ hown (host := "") (Or.inl (hw _ (List.mem_of_getElem? (i := 64) rfl))) Via.refl e0 (Sta.ext hOld.2 hSta) (g := (mkF m 20 #[.val (.long q1), .second, .val (.int (128 : Int32))] [])) rfl (hb hby own_d8_20)
      refine own_fs (st9 _ (Steps.refl _)) ?_
      show own_G p.tables e below _ (T9.setTop (mkF m 23 #[.val (.long q1), .second, .val (.int (128 : Int32))] [(.ref cb)]))
      refine own_fs (XS.lloadN X9.here hx rfl (hb hby own_d8_23) rfl (Steps.refl _)) ?_
      show own_G p.tables e below _ (T9.setTop (mkF m 24 #[.val (.long q1), .second, .val (.int (128 : Int32))] [(.long q1), (.ref cb)]))
      refine own_fs (XS.l2i X9.here hx rfl (hb hby own_d8_24) rfl (Steps.refl _)) ?_
      show own_G p.tables e below _ (T9.setTop (mkF m 25 #[.val (.long q1), .second, .val (.int (128 : Int32))] [(.int (q1.toInt32)), (.ref cb)]))
      refine own_fs (XS.sipush X9.here hx rfl (hb hby own_d8_25) (Steps.refl _)) ?_
      show own_G p.tables e below _ (T9.setTop (mkF m 28 #[.val (.long q1), .second, .val (.int (128 : Int32))] [(.int (128 : Int32)), (.int (q1.toInt32)), (.ref cb)]))
      refine own_fs (XS.iadd X9.here hx rfl (hb hby own_d8_28) rfl (Steps.refl _)) ?_
      show own_G p.tables e below _ (T9.setTop (mkF m 29 #[.val (.long q1), .second, .val (.int (128 : Int32))] [(.int ((q1.toInt32) + (128 : Int32))), (.ref cb)]))
      refine own_fs (X9.aaload hx (j := ((q1.toInt32) + (128 : Int32))) (v := (.ref ar)) (by rw [e9]; exact (Arr.ext hOld.2 hBx.1).1) (State.isArrayOf_alike hZ.alike (Arr.ext hOld.2 hBx.1).2.1) rfl (Arr.ext hOld.2 hBx.1).2.2 hin hat (g := (mkF m 29 #[.val (.long q1), .second, .val (.int (128 : Int32))] [(.int ((q1.toInt32) + (128 : Int32))), (.ref cb)])) rfl rfl (hb hby own_d8_29) _ (Steps.refl _)) ?_
      show own_G p.tables e below _ (T9.setTop (mkF m 30 #[.val (.long q1), .second, .val (.int (128 : Int32))] [(.ref ar)]))
      exact own_retA X9 hx (t := (.object "java/lang/Long")) Bd.returns hlk rfl rfl (hb hby own_d8_30) (by decide) (by decide) e9 ⟨ar, rfl, N0, (Keep.refl _ _), hEx, hFl, (Exa.lt hEx)⟩
def own_Def (Z : State) (db : Addr) (dc : Cell) : Prop := Sta Z Z.heap "java/util/ArrayList" "DEFAULTCAPACITY_EMPTY_ELEMENTDATA" "[Ljava/lang/Object;" (.ref db) ∧ Arr Z Z.heap db dc (.object "java/lang/Object") ∧ dc.slots.size = 0
theorem own_defV {Z : State} {h : Heap} {n0 : Nat} {db : Addr} {dc : Cell} (D : own_Def Z db dc) (O : Old Z n0 h) : Arv Z h db dc.cls (.object "java/lang/Object") (0 : Int32) [] .null :=
  ⟨dc, Arr.ext O.2 D.2.1, rfl, D.2.2, by decide, fun k hk => absurd hk (by rw [D.2.2]; omega), fun k hk => absurd hk (by rw [D.2.2]; omega)⟩
theorem own_zero {n : Nat} (h : n < 2 ^ 31) (e : n.toInt32 = 0) : n = 0 := by
  have := congrArg Int32.toInt e
  rw [show (0 : Int32).toInt = 0 from by decide, len_toInt h] at this
  omega
def own_mx (a b : Int32) : Int32 := if a < b then b else a

theorem own_i_AbstractCollection_ef (m : MethodId) (x0 : Addr) : entryFrame m #[(.ref x0)] 1 = mkF m 0 #[.val (.ref x0)] [] := by first | (simp [entryFrame, mkF, argsToLocals, Value.category]; done) | rfl
def own_i_AbstractCollection_Q (Z : State) (a1 : Addr) (h0 : Heap) (n0 : Nat) (v : Option Value) (h : Heap) (L : List Loc) : Prop := (v = none ∧ Fr n0 L ∧ h = h0)
set_option maxRecDepth 65536 in
set_option maxHeartbeats 40000000 in
theorem own_i_AbstractCollection (l : Launch) (Z : State) (a0 : Array Value) (hw : ∀ d ∈ tables_1, d.before a0 Z = true) (ws : List Jvm.Cond) (a1 : Addr) (h0 : Heap) (n0 : Nat) (Z0 : n0 ≤ h0.size)  :
    MetFree l (⟨"java/util/AbstractCollection", "<init>", "()V"⟩ : MethodName) (head1 (Jvm.Cond.code (⟨"java/util/AbstractCollection", "<init>", "()V"⟩ : MethodName) jdk_22_method_1_code 1 none :: ws) ({ frames := 1, cells := 0, slots := 0, locals := 12 } : Room)) (fun a U => a = #[(.ref a1)] ∧ Z.Warmed39 U.vm ∧ U.heap = h0) (fun _ _ _ _ _ => True) (fun _ U o U' => ∃ v L, o = .returned v ∧ own_i_AbstractCollection_Q Z a1 h0 n0 v U'.heap L ∧ FrameEnd U o U' L ({ frames := 1, cells := 0, slots := 0, locals := 12 } : Room).cells ({ frames := 1, cells := 0, slots := 0, locals := 12 } : Room).slots) := by
  refine MetFree.of_bodySF (plainFor_of_name own_pn2) hisR ?_
  intro p e s m args below meth c s₁ Bd hml0 hP hK
  obtain ⟨rfl, hZ, hh⟩ := hP
  have hx := Bd.exec
  have hby := Bd.bytes
  have hlk : meth.locks = false := BodyLoose.notSynchronized Bd
  have hml : c.maxLocals = 1 := hml0
  have hown : s.vm.findClass "java/util/AbstractCollection" = some m.cls := findClass_of_methodNamed Bd.named
  have hnm := (name_of_methodNamed Bd.named Bd.method).1
  have X0 : Stand p l e ({ frames := 1, cells := 0, slots := 0, locals := 12 } : Room) s m #[(.ref a1)] below meth c s₁ [] 0 0 := Stand.of_body Bd
  have e0 : s₁.heap = h0 := by rw [← hh, Bd.state]; rfl
  have N0 := Fr.nil n0
  refine own_start (QQ := own_i_AbstractCollection_Q Z a1 h0 n0) (rc := ({ frames := 1, cells := 0, slots := 0, locals := 12 } : Room).cells) (rs := ({ frames := 1, cells := 0, slots := 0, locals := 12 } : Room).slots) (own_i_AbstractCollection_ef m a1 ) ?_
  show own_G p.tables e below _ (s₁.setTop (mkF m 0 #[.val (.ref a1)] []))
  refine own_fs (XS.aloadN X0.here hx rfl (hb hby own_d3_0) rfl rfl (Steps.refl _)) ?_
  show own_G p.tables e below _ (s₁.setTop (mkF m 1 #[.val (.ref a1)] [(.ref a1)]))
  obtain ⟨T1, X1, e1, st1⟩ := initO X0 hx hZ hown (hw _ (List.mem_of_getElem? (i := 19) rfl)) (hw _ (List.mem_of_getElem? (i := 20) rfl)) (hw _ (List.mem_of_getElem? (i := 21) rfl)) e0 (g := (mkF m 1 #[.val (.ref a1)] [(.ref a1)])) rfl (by rw [hml]; rfl) rfl (hb hby own_d3_1) (by decide) (W := 0) (by show 2 * 0 + _ ≤ _; exact Nat.le_of_eq rfl) (by decide)
  refine own_fs (st1 _ (Steps.refl _)) ?_
  show own_G p.tables e below _ (T1.setTop (mkF m 4 #[.val (.ref a1)] []))
  exact own_retV X1 hx Bd.returns hlk (hb hby own_d3_4) (by decide) (by decide) e1 ⟨rfl, N0, rfl⟩
theorem own_i_AbstractList_ef (m : MethodId) (x0 : Addr) : entryFrame m #[(.ref x0)] 1 = mkF m 0 #[.val (.ref x0)] [] := by first | (simp [entryFrame, mkF, argsToLocals, Value.category]; done) | rfl
def own_i_AbstractList_Q (Z : State) (a1 : Addr) (u1 : Int32) (u2 : Value) (u3 : Int32) (h0 : Heap) (n0 : Nat) (v : Option Value) (h : Heap) (L : List Loc) : Prop := (v = none ∧ Fr n0 L ∧ Keep h0 h [a1] ∧ (Fld Z h a1 "java/util/AbstractList" "modCount" "I" (.int (0 : Int32))) ∧ (Fld Z h a1 "java/util/ArrayList" "elementData" "[Ljava/lang/Object;" u2) ∧ (Fld Z h a1 "java/util/ArrayList" "size" "I" (.int u3)))
set_option maxRecDepth 65536 in
set_option maxHeartbeats 40000000 in
theorem own_i_AbstractList (l : Launch) (Z : State) (a0 : Array Value) (hw : ∀ d ∈ tables_1, d.before a0 Z = true) (ws : List Jvm.Cond) (a1 : Addr) (u1 : Int32) (u2 : Value) (u3 : Int32) (h0 : Heap) (n0 : Nat) (Z0 : n0 ≤ h0.size) (hE_a1 : Exa Z h0 a1 "java/util/ArrayList") (hF_modCount_a1 : Fld Z h0 a1 "java/util/AbstractList" "modCount" "I" (.int u1)) (hF_elementData_a1 : Fld Z h0 a1 "java/util/ArrayList" "elementData" "[Ljava/lang/Object;" u2) (hF_size_a1 : Fld Z h0 a1 "java/util/ArrayList" "size" "I" (.int u3)) (ge_a1 : n0 ≤ a1) :
    MetFree l (⟨"java/util/AbstractList", "<init>", "()V"⟩ : MethodName) (head1 (Jvm.Cond.code (⟨"java/util/AbstractList", "<init>", "()V"⟩ : MethodName) jdk_39_method_1_code 1 none :: ws) ({ frames := 2, cells := 0, slots := 0, locals := 24 } : Room)) (fun a U => a = #[(.ref a1)] ∧ Z.Warmed39 U.vm ∧ U.heap = h0) (fun _ _ _ _ _ => True) (fun _ U o U' => ∃ v L, o = .returned v ∧ own_i_AbstractList_Q Z a1 u1 u2 u3 h0 n0 v U'.heap L ∧ FrameEnd U o U' L ({ frames := 2, cells := 0, slots := 0, locals := 24 } : Room).cells ({ frames := 2, cells := 0, slots := 0, locals := 24 } : Room).slots) := by
  refine MetFree.of_bodySF (plainFor_of_name own_pn3) hisR ?_
  intro p e s m args below meth c s₁ Bd hml0 hP hK
  obtain ⟨rfl, hZ, hh⟩ := hP
  have hx := Bd.exec
  have hby := Bd.bytes
  have hlk : meth.locks = false := BodyLoose.notSynchronized Bd
  have hml : c.maxLocals = 1 := hml0
  have hown : s.vm.findClass "java/util/AbstractList" = some m.cls := findClass_of_methodNamed Bd.named
  have hnm := (name_of_methodNamed Bd.named Bd.method).1
  have X0 : Stand p l e ({ frames := 2, cells := 0, slots := 0, locals := 24 } : Room) s m #[(.ref a1)] below meth c s₁ [] 0 0 := Stand.of_body Bd
  have e0 : s₁.heap = h0 := by rw [← hh, Bd.state]; rfl
  have N0 := Fr.nil n0
  refine own_start (QQ := own_i_AbstractList_Q Z a1 u1 u2 u3 h0 n0) (rc := ({ frames := 2, cells := 0, slots := 0, locals := 24 } : Room).cells) (rs := ({ frames := 2, cells := 0, slots := 0, locals := 24 } : Room).slots) (own_i_AbstractList_ef m a1 ) ?_
  show own_G p.tables e below _ (s₁.setTop (mkF m 0 #[.val (.ref a1)] []))
  refine own_fs (XS.aloadN X0.here hx rfl (hb hby own_d2_0) rfl rfl (Steps.refl _)) ?_
  show own_G p.tables e below _ (s₁.setTop (mkF m 1 #[.val (.ref a1)] [(.ref a1)]))
  have Zs3 : n0 ≤ h0.size := Z0
  obtain ⟨_, _, ⟨T2, L2, k2, n2⟩, -, X2, ⟨Lc2, hQ2, l2, y2, z2⟩, st2⟩ := X0.specialBack hx (y := (⟨"java/util/AbstractCollection", "<init>", "()V"⟩ : MethodName)) rfl hown (mvT hZ (hw _ (List.mem_of_getElem? (i := 13) rfl))) (mvT hZ (hw _ (List.mem_of_getElem? (i := 14) rfl))) (mvT hZ (hw _ (List.mem_of_getElem? (i := 18) rfl))) (by decide) (backOf (W := 0) (own_i_AbstractCollection l Z a0 hw [] a1 h0 n0 Zs3 ) hZ (hw _ (List.mem_of_getElem? (i := 18) rfl)) (hw _ (List.mem_of_getElem? (i := 17) rfl)) (by decide) (by decide)) (g := (mkF m 1 #[.val (.ref a1)] [(.ref a1)])) rfl (by rw [hml]; rfl) (Steps.refl _) (a := a1) (argsL := []) (rest := []) (lenOf own_pd0 rfl) rfl (by show 2 * 0 + _ ≤ _; exact Nat.le_of_eq rfl) (hb hby own_d2_1) (fun _ _ => ⟨rfl, e0, (by decide : 0 + 0 ≤ _), (by decide : 0 + 0 ≤ _)⟩)
  dsimp only [Pt.U, Pt.locs, Pt.cells, Pt.slots] at X2 l2 y2 z2 st2 hQ2
  subst l2 y2 z2
  obtain ⟨rfl, Nq2, e2⟩ := hQ2
  have N2 := Fr.app N0 Nq2
  refine own_fs st2 ?_
  show own_G p.tables e below _ (T2.setTop (mkF m 4 #[.val (.ref a1)] []))
  refine own_fs (XS.aloadN X2.here hx rfl (hb hby own_d2_4) rfl rfl (Steps.refl _)) ?_
  show own_G p.tables e below _ (T2.setTop (mkF m 5 #[.val (.ref a1)] [(.ref a1)]))
  refine own_fs (XS.iconst X2.here hx rfl (hb hby own_d2_5) (Steps.refl _)) ?_
  show own_G p.tables e below _ (T2.setTop (mkF m 6 #[.val (.ref a1)] [(.int (0 : Int32)), (.ref a1)]))
  obtain ⟨T4, h4, X4, e4, W4, st4⟩ := putF X2 hx hZ hown (host := "") (Or.inl (hw _ (List.mem_of_getElem? (i := 22) rfl))) Via.refl e2 hF_modCount_a1 hE_a1 (Or.inl (hw _ (List.mem_of_getElem? (i := 23) rfl))) (hw _ (List.mem_of_getElem? (i := 2) rfl)) (ty := .int) (by decide) rfl rfl (g := (mkF m 6 #[.val (.ref a1)] [(.int (0 : Int32)), (.ref a1)])) rfl rfl (hb hby own_d2_6)
  refine own_fs (st4 _ (Steps.refl _)) ?_
  have Fw4 := Fld.same W4 hF_modCount_a1
  have N4 := Fr.snoc X4 N2 ge_a1
  show own_G p.tables e below _ (T4.setTop (mkF m 9 #[.val (.ref a1)] []))
  exact own_retV X4 hx Bd.returns hlk (hb hby own_d2_9) (by decide) (by decide) e4 ⟨rfl, N4, ((Keep.refl _ _).wr W4 (Or.inl (List.mem_of_getElem? (i := 0) rfl))), Fw4, (Fld.other W4 hF_elementData_a1 (Or.inr (slot_ne (Or.inl (hw _ (List.mem_of_getElem? (i := 26) rfl))) (Or.inl (hw _ (List.mem_of_getElem? (i := 23) rfl))) (by decide) (t := (.array (.object "java/lang/Object"))) (t' := .int) (by decide) (by decide)))), (Fld.other W4 hF_size_a1 (Or.inr (slot_ne (Or.inl (hw _ (List.mem_of_getElem? (i := 74) rfl))) (Or.inl (hw _ (List.mem_of_getElem? (i := 23) rfl))) (by decide) (t := .int) (t' := .int) (by decide) (by decide))))⟩
theorem own_i_ArrayList_ef (m : MethodId) (x0 : Addr) : entryFrame m #[(.ref x0)] 1 = mkF m 0 #[.val (.ref x0)] [] := by first | (simp [entryFrame, mkF, argsToLocals, Value.category]; done) | rfl
def own_i_ArrayList_Q (Z : State) (a1 : Addr) (u1 : Int32) (u2 : Value) (u3 : Int32) (db : Addr) (dc : Cell) (h0 : Heap) (n0 : Nat) (v : Option Value) (h : Heap) (L : List Loc) : Prop := (v = none ∧ Fr n0 L ∧ Keep h0 h [a1] ∧ (Fld Z h a1 "java/util/AbstractList" "modCount" "I" (.int (0 : Int32))) ∧ (Fld Z h a1 "java/util/ArrayList" "elementData" "[Ljava/lang/Object;" (.ref db)) ∧ (Fld Z h a1 "java/util/ArrayList" "size" "I" (.int u3)))
set_option maxRecDepth 65536 in
set_option maxHeartbeats 40000000 in
theorem own_i_ArrayList (l : Launch) (Z : State) (a0 : Array Value) (hw : ∀ d ∈ tables_1, d.before a0 Z = true) (ws : List Jvm.Cond) (a1 : Addr) (u1 : Int32) (u2 : Value) (u3 : Int32) (db : Addr) (dc : Cell) (h0 : Heap) (n0 : Nat) (Z0 : n0 ≤ h0.size) (hE_a1 : Exa Z h0 a1 "java/util/ArrayList") (hF_modCount_a1 : Fld Z h0 a1 "java/util/AbstractList" "modCount" "I" (.int u1)) (hF_elementData_a1 : Fld Z h0 a1 "java/util/ArrayList" "elementData" "[Ljava/lang/Object;" u2) (hF_size_a1 : Fld Z h0 a1 "java/util/ArrayList" "size" "I" (.int u3)) (ge_a1 : n0 ≤ a1) (hDef : own_Def Z db dc) (hOld : Old Z n0 h0) :
    MetFree l (⟨"java/util/ArrayList", "<init>", "()V"⟩ : MethodName) (head1 (Jvm.Cond.code (⟨"java/util/ArrayList", "<init>", "()V"⟩ : MethodName) jdk_38_method_2_code 1 none :: ws) ({ frames := 3, cells := 0, slots := 0, locals := 36 } : Room)) (fun a U => a = #[(.ref a1)] ∧ Z.Warmed39 U.vm ∧ U.heap = h0) (fun _ _ _ _ _ => True) (fun _ U o U' => ∃ v L, o = .returned v ∧ own_i_ArrayList_Q Z a1 u1 u2 u3 db dc h0 n0 v U'.heap L ∧ FrameEnd U o U' L ({ frames := 3, cells := 0, slots := 0, locals := 36 } : Room).cells ({ frames := 3, cells := 0, slots := 0, locals := 36 } : Room).slots) := by
  refine MetFree.of_bodySF (plainFor_of_name own_pn4) hisR ?_
  intro p e s m args below meth c s₁ Bd hml0 hP hK
  obtain ⟨rfl, hZ, hh⟩ := hP
  have hx := Bd.exec
  have hby := Bd.bytes
  have hlk : meth.locks = false := BodyLoose.notSynchronized Bd
  have hml : c.maxLocals = 1 := hml0
  have hown : s.vm.findClass "java/util/ArrayList" = some m.cls := findClass_of_methodNamed Bd.named
  have hnm := (name_of_methodNamed Bd.named Bd.method).1
  have X0 : Stand p l e ({ frames := 3, cells := 0, slots := 0, locals := 36 } : Room) s m #[(.ref a1)] below meth c s₁ [] 0 0 := Stand.of_body Bd
  have e0 : s₁.heap = h0 := by rw [← hh, Bd.state]; rfl
  have N0 := Fr.nil n0
  refine own_start (QQ := own_i_ArrayList_Q Z a1 u1 u2 u3 db dc h0 n0) (rc := ({ frames := 3, cells := 0, slots := 0, locals := 36 } : Room).cells) (rs := ({ frames := 3, cells := 0, slots := 0, locals := 36 } : Room).slots) (own_i_ArrayList_ef m a1 ) ?_
  show own_G p.tables e below _ (s₁.setTop (mkF m 0 #[.val (.ref a1)] []))
  refine own_fs (XS.aloadN X0.here hx rfl (hb hby own_d1_0) rfl rfl (Steps.refl _)) ?_
  show own_G p.tables e below _ (s₁.setTop (mkF m 1 #[.val (.ref a1)] [(.ref a1)]))
  have Zs3 : n0 ≤ h0.size := Z0
  obtain ⟨_, _, ⟨T2, L2, k2, n2⟩, -, X2, ⟨Lc2, hQ2, l2, y2, z2⟩, st2⟩ := X0.specialBack hx (y := (⟨"java/util/AbstractList", "<init>", "()V"⟩ : MethodName)) rfl hown (mvT hZ (hw _ (List.mem_of_getElem? (i := 7) rfl))) (mvT hZ (hw _ (List.mem_of_getElem? (i := 8) rfl))) (mvT hZ (hw _ (List.mem_of_getElem? (i := 12) rfl))) (by decide) (backOf (W := 0) (own_i_AbstractList l Z a0 hw [] a1 u1 u2 u3 h0 n0 Zs3 hE_a1 hF_modCount_a1 hF_elementData_a1 hF_size_a1 ge_a1) hZ (hw _ (List.mem_of_getElem? (i := 12) rfl)) (hw _ (List.mem_of_getElem? (i := 11) rfl)) (by decide) (by decide)) (g := (mkF m 1 #[.val (.ref a1)] [(.ref a1)])) rfl (by rw [hml]; rfl) (Steps.refl _) (a := a1) (argsL := []) (rest := []) (lenOf own_pd0 rfl) rfl (by show 2 * 0 + _ ≤ _; exact Nat.le_of_eq rfl) (hb hby own_d1_1) (fun _ _ => ⟨rfl, e0, (by decide : 0 + 0 ≤ _), (by decide : 0 + 0 ≤ _)⟩)
  dsimp only [Pt.U, Pt.locs, Pt.cells, Pt.slots] at X2 l2 y2 z2 st2 hQ2
  subst l2 y2 z2
  obtain ⟨h2, e2⟩ : ∃ h, T2.heap = h := ⟨_, rfl⟩
  rw [e2] at hQ2
  obtain ⟨rfl, Nq2, K2, P1_0, P1_1, P1_2⟩ := hQ2
  have N2 := Fr.app N0 Nq2
  refine own_fs st2 ?_
  show own_G p.tables e below _ (T2.setTop (mkF m 4 #[.val (.ref a1)] []))
  refine own_fs (XS.aloadN X2.here hx rfl (hb hby own_d1_4) rfl rfl (Steps.refl _)) ?_
  show own_G p.tables e below _ (T2.setTop (mkF m 5 #[.val (.ref a1)] [(.ref a1)]))
  obtain ⟨T4, X4, e4, st4⟩ := getS2 X2 hx hZ hown (host := "") (Or.inl (hw _ (List.mem_of_getElem? (i := 24) rfl))) Via.refl e2 (Sta.ext (Old.keep hOld K2 (allS ge_a1 all0)).2 hDef.1) (g := (mkF m 5 #[.val (.ref a1)] [(.ref a1)])) rfl (hb hby own_d1_5)
  refine own_fs (st4 _ (Steps.refl _)) ?_
  show own_G p.tables e below _ (T4.setTop (mkF m 8 #[.val (.ref a1)] [(.ref db), (.ref a1)]))
  obtain ⟨T5, h5, X5, e5, W5, st5⟩ := putF X4 hx hZ hown (host := "") (Or.inl (hw _ (List.mem_of_getElem? (i := 25) rfl))) Via.refl e4 P1_1 (hE_a1.keep K2) (Or.inl (hw _ (List.mem_of_getElem? (i := 26) rfl))) (hw _ (List.mem_of_getElem? (i := 2) rfl)) (ty := (.array (.object "java/lang/Object"))) (by decide) rfl rfl (g := (mkF m 8 #[.val (.ref a1)] [(.ref db), (.ref a1)])) rfl rfl (hb hby own_d1_8)
  refine own_fs (st5 _ (Steps.refl _)) ?_
  have Fw5 := Fld.same W5 P1_1
  have N5 := Fr.snoc X5 N2 ge_a1
  show own_G p.tables e below _ (T5.setTop (mkF m 11 #[.val (.ref a1)] []))
  exact own_retV X5 hx Bd.returns hlk (hb hby own_d1_11) (by decide) (by decide) e5 ⟨rfl, N5, (((Keep.refl _ _).trans K2 (allS (Or.inl (List.mem_of_getElem? (i := 0) rfl)) all0)).wr W5 (Or.inl (List.mem_of_getElem? (i := 0) rfl))), (Fld.other W5 P1_0 (Or.inr (slot_ne (Or.inl (hw _ (List.mem_of_getElem? (i := 23) rfl))) (Or.inl (hw _ (List.mem_of_getElem? (i := 26) rfl))) (by decide) (t := .int) (t' := (.array (.object "java/lang/Object"))) (by decide) (by decide)))), Fw5, (Fld.other W5 P1_2 (Or.inr (slot_ne (Or.inl (hw _ (List.mem_of_getElem? (i := 74) rfl))) (Or.inl (hw _ (List.mem_of_getElem? (i := 26) rfl))) (by decide) (t := .int) (t' := (.array (.object "java/lang/Object"))) (by decide) (by decide))))⟩
theorem own_max_ef (m : MethodId) (x0 : Int32) (x1 : Int32) : entryFrame m #[(.int x0), (.int x1)] 2 = mkF m 0 #[.val (.int x0), .val (.int x1)] [] := by first | (simp [entryFrame, mkF, argsToLocals, Value.category]; done) | rfl
def own_max_Q (Z : State) (p1 : Int32) (p2 : Int32) (h0 : Heap) (n0 : Nat) (v : Option Value) (h : Heap) (L : List Loc) : Prop := (v = some (.int (own_mx p1 p2)) ∧ Fr n0 L ∧ h = h0)
set_option maxRecDepth 65536 in
set_option maxHeartbeats 40000000 in
theorem own_max (l : Launch) (Z : State) (a0 : Array Value) (hw : ∀ d ∈ tables_1, d.before a0 Z = true) (ws : List Jvm.Cond) (p1 : Int32) (p2 : Int32) (h0 : Heap) (n0 : Nat) (Z0 : n0 ≤ h0.size)  :
    MetFree l (⟨"java/lang/Math", "max", "(II)I"⟩ : MethodName) (head1 (Jvm.Cond.code (⟨"java/lang/Math", "max", "(II)I"⟩ : MethodName) jdk_29_method_65_code 2 (some .int) :: ws) ({ frames := 0, cells := 0, slots := 0, locals := 0 } : Room)) (fun a U => a = #[(.int p1), (.int p2)] ∧ Z.Warmed39 U.vm ∧ U.heap = h0) (fun _ _ _ _ _ => True) (fun _ U o U' => ∃ v L, o = .returned v ∧ own_max_Q Z p1 p2 h0 n0 v U'.heap L ∧ FrameEnd U o U' L ({ frames := 0, cells := 0, slots := 0, locals := 0 } : Room).cells ({ frames := 0, cells := 0, slots := 0, locals := 0 } : Room).slots) := by
  refine MetFree.of_bodySF (Jvm.Free.JP.mathPlain rfl (by decide +kernel)) hisR ?_
  intro p e s m args below meth c s₁ Bd hml0 hP hK
  obtain ⟨rfl, hZ, hh⟩ := hP
  have hx := Bd.exec
  have hby := Bd.bytes
  have hlk : meth.locks = false := BodyLoose.notSynchronized Bd
  have hml : c.maxLocals = 2 := hml0
  have hown : s.vm.findClass "java/lang/Math" = some m.cls := findClass_of_methodNamed Bd.named
  have hnm := (name_of_methodNamed Bd.named Bd.method).1
  have X0 : Stand p l e ({ frames := 0, cells := 0, slots := 0, locals := 0 } : Room) s m #[(.int p1), (.int p2)] below meth c s₁ [] 0 0 := Stand.of_body Bd
  have e0 : s₁.heap = h0 := by rw [← hh, Bd.state]; rfl
  have N0 := Fr.nil n0
  refine own_start (QQ := own_max_Q Z p1 p2 h0 n0) (rc := ({ frames := 0, cells := 0, slots := 0, locals := 0 } : Room).cells) (rs := ({ frames := 0, cells := 0, slots := 0, locals := 0 } : Room).slots) (own_max_ef m p1 p2 ) ?_
  show own_G p.tables e below _ (s₁.setTop (mkF m 0 #[.val (.int p1), .val (.int p2)] []))
  refine own_fs (XS.iloadN X0.here hx rfl (hb hby own_d13_0) rfl (Steps.refl _)) ?_
  show own_G p.tables e below _ (s₁.setTop (mkF m 1 #[.val (.int p1), .val (.int p2)] [(.int p1)]))
  refine own_fs (XS.iloadN X0.here hx rfl (hb hby own_d13_1) rfl (Steps.refl _)) ?_
  show own_G p.tables e below _ (s₁.setTop (mkF m 2 #[.val (.int p1), .val (.int p2)] [(.int p2), (.int p1)]))
  by_cases hc2 : p1 < p2
  · refine own_fs (XS.icmpYes X0.here hx rfl (pc0 := 2) (pc' := 9) rfl (hb hby own_d13_2) rfl (XT.ii_lt_t hc2) (by decide) (by decide) (Steps.refl _)) ?_
    show own_G p.tables e below _ (s₁.setTop (mkF m 9 #[.val (.int p1), .val (.int p2)] []))
    refine own_fs (XS.iloadN X0.here hx rfl (hb hby own_d13_9) rfl (Steps.refl _)) ?_
    show own_G p.tables e below _ (s₁.setTop (mkF m 10 #[.val (.int p1), .val (.int p2)] [(.int p2)]))
    exact own_retI X0 hx Bd.returns hlk (hb hby own_d13_10) (by decide) (by decide) e0 ⟨(by simp only [own_mx, if_pos hc2]), N0, rfl⟩
  · refine own_fs (XS.icmpNo X0.here hx rfl (hb hby own_d13_2) rfl (XT.ii_lt_f hc2) (Steps.refl _)) ?_
    show own_G p.tables e below _ (s₁.setTop (mkF m 5 #[.val (.int p1), .val (.int p2)] []))
    refine own_fs (XS.iloadN X0.here hx rfl (hb hby own_d13_5) rfl (Steps.refl _)) ?_
    show own_G p.tables e below _ (s₁.setTop (mkF m 6 #[.val (.int p1), .val (.int p2)] [(.int p1)]))
    refine own_fs (XS.goto X0.here hx rfl (pc0 := 6) (pc' := 10) rfl (hb hby own_d13_6) (by decide) (by decide) (Steps.refl _)) ?_
    show own_G p.tables e below _ (s₁.setTop (mkF m 10 #[.val (.int p1), .val (.int p2)] [(.int p1)]))
    exact own_retI X0 hx Bd.returns hlk (hb hby own_d13_10) (by decide) (by decide) e0 ⟨(by simp only [own_mx, if_neg hc2]), N0, rfl⟩
theorem own_grow1_ef (m : MethodId) (x0 : Addr) (x1 : Int32) : entryFrame m #[(.ref x0), (.int x1)] 4 = mkF m 0 #[.val (.ref x0), .val (.int x1), .unset, .unset] [] := by first | (simp [entryFrame, mkF, argsToLocals, Value.category]; done) | rfl
def own_grow1_Q (Z : State) (a1 : Addr) (u1 : Int32) (db : Addr) (dc : Cell) (h0 : Heap) (n0 : Nat) (v : Option Value) (h : Heap) (L : List Loc) : Prop := ∃ br : Addr, ∃ kr : ClassId, (v = some (.ref br) ∧ Fr n0 L ∧ Keep h0 h [a1] ∧ (Fld Z h a1 "java/util/AbstractList" "modCount" "I" (.int u1)) ∧ (Fld Z h a1 "java/util/ArrayList" "elementData" "[Ljava/lang/Object;" (.ref br)) ∧ (Fld Z h a1 "java/util/ArrayList" "size" "I" (.int (0 : Int32))) ∧ (h0.size ≤ br) ∧ (Arv Z h br kr (.object "java/lang/Object") (10 : Int32) [.null, .null, .null, .null, .null, .null, .null, .null, .null, .null] .null) ∧ (Ovr Z kr "java/lang/Object"))
set_option maxRecDepth 65536 in
set_option maxHeartbeats 40000000 in
theorem own_grow1 (l : Launch) (Z : State) (a0 : Array Value) (hw : ∀ d ∈ tables_1, d.before a0 Z = true) (ws : List Jvm.Cond) (a1 : Addr) (u1 : Int32) (db : Addr) (dc : Cell) (h0 : Heap) (n0 : Nat) (Z0 : n0 ≤ h0.size) (hE_a1 : Exa Z h0 a1 "java/util/ArrayList") (hF_modCount_a1 : Fld Z h0 a1 "java/util/AbstractList" "modCount" "I" (.int u1)) (hF_elementData_a1 : Fld Z h0 a1 "java/util/ArrayList" "elementData" "[Ljava/lang/Object;" (.ref db)) (hF_size_a1 : Fld Z h0 a1 "java/util/ArrayList" "size" "I" (.int (0 : Int32))) (ge_a1 : n0 ≤ a1) (hDef : own_Def Z db dc) (hOld : Old Z n0 h0) :
    MetFree l (⟨"java/util/ArrayList", "grow", "(I)[Ljava/lang/Object;"⟩ : MethodName) (head1 (Jvm.Cond.code (⟨"java/util/ArrayList", "grow", "(I)[Ljava/lang/Object;"⟩ : MethodName) jdk_38_method_6_code 4 (some (.array (.object "java/lang/Object"))) :: ws) ({ frames := 1, cells := 1, slots := 10, locals := 14 } : Room)) (fun a U => a = #[(.ref a1), (.int (1 : Int32))] ∧ Z.Warmed39 U.vm ∧ U.heap = h0) (fun _ _ _ _ _ => True) (fun _ U o U' => ∃ v L, o = .returned v ∧ own_grow1_Q Z a1 u1 db dc h0 n0 v U'.heap L ∧ FrameEnd U o U' L ({ frames := 1, cells := 1, slots := 10, locals := 14 } : Room).cells ({ frames := 1, cells := 1, slots := 10, locals := 14 } : Room).slots) := by
  refine MetFree.of_bodySF (plainFor_of_name own_pn4) hisR ?_
  intro p e s m args below meth c s₁ Bd hml0 hP hK
  obtain ⟨rfl, hZ, hh⟩ := hP
  have hx := Bd.exec
  have hby := Bd.bytes
  have hlk : meth.locks = false := BodyLoose.notSynchronized Bd
  have hml : c.maxLocals = 4 := hml0
  have hown : s.vm.findClass "java/util/ArrayList" = some m.cls := findClass_of_methodNamed Bd.named
  have hnm := (name_of_methodNamed Bd.named Bd.method).1
  have X0 : Stand p l e ({ frames := 1, cells := 1, slots := 10, locals := 14 } : Room) s m #[(.ref a1), (.int (1 : Int32))] below meth c s₁ [] 0 0 := Stand.of_body Bd
  have e0 : s₁.heap = h0 := by rw [← hh, Bd.state]; rfl
  have N0 := Fr.nil n0
  refine own_start (QQ := own_grow1_Q Z a1 u1 db dc h0 n0) (rc := ({ frames := 1, cells := 1, slots := 10, locals := 14 } : Room).cells) (rs := ({ frames := 1, cells := 1, slots := 10, locals := 14 } : Room).slots) (own_grow1_ef m a1 (1 : Int32) ) ?_
  show own_G p.tables e below _ (s₁.setTop (mkF m 0 #[.val (.ref a1), .val (.int (1 : Int32)), .unset, .unset] []))
  refine own_fs (XS.aloadN X0.here hx rfl (hb hby own_d12_0) rfl rfl (Steps.refl _)) ?_
  show own_G p.tables e below _ (s₁.setTop (mkF m 1 #[.val (.ref a1), .val (.int (1 : Int32)), .unset, .unset] [(.ref a1)]))
  obtain ⟨T1, X1, e1, st1⟩ := getF X0 hx hZ hown (host := "") (Or.inl (hw _ (List.mem_of_getElem? (i := 25) rfl))) Via.refl e0 hF_elementData_a1 (g := (mkF m 1 #[.val (.ref a1), .val (.int (1 : Int32)), .unset, .unset] [(.ref a1)])) rfl rfl (hb hby own_d12_1)
  refine own_fs (st1 _ (Steps.refl _)) ?_
  show own_G p.tables e below _ (T1.setTop (mkF m 4 #[.val (.ref a1), .val (.int (1 : Int32)), .unset, .unset] [(.ref db)]))
  obtain ⟨cl2, Ar2, -, S2, O2, -, -⟩ := (own_defV hDef hOld)
  have sl2 := X1.arraylength hx (by rw [e1]; exact Ar2.1) (State.isArrayOf_alike hZ.alike Ar2.2.1) (g := (mkF m 4 #[.val (.ref a1), .val (.int (1 : Int32)), .unset, .unset] [(.ref db)])) rfl rfl (hb hby own_d12_4) _ (Steps.refl _)
  rw [len_of S2 O2] at sl2
  refine own_fs sl2 ?_
  show own_G p.tables e below _ (T1.setTop (mkF m 5 #[.val (.ref a1), .val (.int (1 : Int32)), .unset, .unset] [(.int (0 : Int32))]))
  refine own_fs (XS.istoreN X1.here hx rfl (hb hby own_d12_5) rfl (l' := #[.val (.ref a1), .val (.int (1 : Int32)), .val (.int (0 : Int32)), .unset]) rfl (Steps.refl _)) ?_
  show own_G p.tables e below _ (T1.setTop (mkF m 6 #[.val (.ref a1), .val (.int (1 : Int32)), .val (.int (0 : Int32)), .unset] []))
  refine own_fs (XS.iloadN X1.here hx rfl (hb hby own_d12_6) rfl (Steps.refl _)) ?_
  show own_G p.tables e below _ (T1.setTop (mkF m 7 #[.val (.ref a1), .val (.int (1 : Int32)), .val (.int (0 : Int32)), .unset] [(.int (0 : Int32))]))
  refine own_fs (XS.ifNo X1.here hx rfl (hb hby own_d12_7) rfl (XT.i0_gt_f (by decide : ¬ ((0 : Int32) < (0 : Int32)))) (Steps.refl _)) ?_
  show own_G p.tables e below _ (T1.setTop (mkF m 10 #[.val (.ref a1), .val (.int (1 : Int32)), .val (.int (0 : Int32)), .unset] []))
  refine own_fs (XS.aloadN X1.here hx rfl (hb hby own_d12_10) rfl rfl (Steps.refl _)) ?_
  show own_G p.tables e below _ (T1.setTop (mkF m 11 #[.val (.ref a1), .val (.int (1 : Int32)), .val (.int (0 : Int32)), .unset] [(.ref a1)]))
  obtain ⟨T3, X3, e3, st3⟩ := getF X1 hx hZ hown (host := "") (Or.inl (hw _ (List.mem_of_getElem? (i := 25) rfl))) Via.refl e1 hF_elementData_a1 (g := (mkF m 11 #[.val (.ref a1), .val (.int (1 : Int32)), .val (.int (0 : Int32)), .unset] [(.ref a1)])) rfl rfl (hb hby own_d12_11)
  refine own_fs (st3 _ (Steps.refl _)) ?_
  show own_G p.tables e below _ (T3.setTop (mkF m 14 #[.val (.ref a1), .val (.int (1 : Int32)), .val (.int (0 : Int32)), .unset] [(.ref db)]))
  obtain ⟨T4, X4, e4, st4⟩ := getS2 X3 hx hZ hown (host := "") (Or.inl (hw _ (List.mem_of_getElem? (i := 24) rfl))) Via.refl e3 (Sta.ext hOld.2 hDef.1) (g := (mkF m 14 #[.val (.ref a1), .val (.int (1 : Int32)), .val (.int (0 : Int32)), .unset] [(.ref db)])) rfl (hb hby own_d12_14)
  refine own_fs (st4 _ (Steps.refl _)) ?_
  show own_G p.tables e below _ (T4.setTop (mkF m 17 #[.val (.ref a1), .val (.int (1 : Int32)), .val (.int (0 : Int32)), .unset] [(.ref db), (.ref db)]))
  refine own_fs (Jvm.RoadKit.acmp (g := (mkF m 17 #[.val (.ref a1), .val (.int (1 : Int32)), .val (.int (0 : Int32)), .unset] [(.ref db), (.ref db)])) X4 hx rfl rfl rfl (pc0 := 17) (pc' := 45) (same := true) rfl (hb hby own_d12_17) rfl (decide_eq_true (congrArg Value.ref rfl)) (by decide) (by decide) (Steps.refl _)) ?_
  show own_G p.tables e below _ (T4.setTop (mkF m 45 #[.val (.ref a1), .val (.int (1 : Int32)), .val (.int (0 : Int32)), .unset] []))
  refine own_fs (XS.aloadN X4.here hx rfl (hb hby own_d12_45) rfl rfl (Steps.refl _)) ?_
  show own_G p.tables e below _ (T4.setTop (mkF m 46 #[.val (.ref a1), .val (.int (1 : Int32)), .val (.int (0 : Int32)), .unset] [(.ref a1)]))
  refine own_fs (XS.bipush X4.here hx rfl (hb hby own_d12_46) (Steps.refl _)) ?_
  show own_G p.tables e below _ (T4.setTop (mkF m 48 #[.val (.ref a1), .val (.int (1 : Int32)), .val (.int (0 : Int32)), .unset] [(.int (10 : Int32)), (.ref a1)]))
  refine own_fs (XS.iloadN X4.here hx rfl (hb hby own_d12_48) rfl (Steps.refl _)) ?_
  show own_G p.tables e below _ (T4.setTop (mkF m 49 #[.val (.ref a1), .val (.int (1 : Int32)), .val (.int (0 : Int32)), .unset] [(.int (1 : Int32)), (.int (10 : Int32)), (.ref a1)]))
  have Zs7 : n0 ≤ h0.size := Z0
  obtain ⟨_, _, ⟨T6, L6, k6, n6⟩, -, X6, ⟨Lc6, hQ6, l6, y6, z6⟩, st6⟩ := Jvm.LawKit.callS X4 hx (y := (⟨"java/lang/Math", "max", "(II)I"⟩ : MethodName)) hown (mvT hZ (hw _ (List.mem_of_getElem? (i := 90) rfl))) (mvT hZ (hw _ (List.mem_of_getElem? (i := 91) rfl))) (mvT hZ (hw _ (List.mem_of_getElem? (i := 92) rfl))) (mvT hZ (hw _ (List.mem_of_getElem? (i := 93) rfl))) (by decide) (backOf (W := 1) (own_max l Z a0 hw [] (10 : Int32) (1 : Int32) h0 n0 Zs7 ) hZ (hw _ (List.mem_of_getElem? (i := 93) rfl)) (hw _ (List.mem_of_getElem? (i := 92) rfl)) (by decide) (by decide)) (g := (mkF m 49 #[.val (.ref a1), .val (.int (1 : Int32)), .val (.int (0 : Int32)), .unset] [(.int (1 : Int32)), (.int (10 : Int32)), (.ref a1)])) rfl (by rw [hml]; rfl) (argsL := [(.int (10 : Int32)), (.int (1 : Int32))]) (rest := [(.ref a1)]) (lenOf own_pd2 rfl) rfl (by show 2 * 0 + _ ≤ _; exact Nat.le_of_eq rfl) (hb hby own_d12_49) (fun _ _ => ⟨rfl, e4, (by decide : 0 + 0 ≤ _), (by decide : 0 + 0 ≤ _)⟩)
  dsimp only [Pt.U, Pt.locs, Pt.cells, Pt.slots] at X6 l6 y6 z6 st6 hQ6
  subst l6 y6 z6
  obtain ⟨rfl, Nq6, e6⟩ := hQ6
  have N6 := Fr.app N0 Nq6
  refine own_fs (st6 _ (Steps.refl _)) ?_
  show own_G p.tables e below _ (T6.setTop (mkF m 52 #[.val (.ref a1), .val (.int (1 : Int32)), .val (.int (0 : Int32)), .unset] [(.int (own_mx (10 : Int32) (1 : Int32))), (.ref a1)]))
  rw [show own_mx (10 : Int32) (1 : Int32) = (10 : Int32) from by decide]
  show own_G p.tables e below _ (T6.setTop (mkF m 52 #[.val (.ref a1), .val (.int (1 : Int32)), .val (.int (0 : Int32)), .unset] [(.int (10 : Int32)), (.ref a1)]))
  obtain ⟨T8, h8, k8, X8, e8, E8, A8, O8, st8⟩ := newR X6 hx hZ hown (hw _ (List.mem_of_getElem? (i := 94) rfl)) (hw _ (List.mem_of_getElem? (i := 95) rfl)) e6 (g := (mkF m 52 #[.val (.ref a1), .val (.int (1 : Int32)), .val (.int (0 : Int32)), .unset] [(.int (10 : Int32)), (.ref a1)])) rfl (hb hby own_d12_52) rfl (by decide) (cap := 10) (by decide) (by decide) (by decide) (by decide)
  obtain ⟨b8, g8⟩ : ∃ z, z = h0.size := ⟨_, rfl⟩
  rw [← g8] at A8 st8
  have ge_b8 : n0 ≤ b8 := Nat.le_trans Z0 (Nat.le_of_eq g8.symm)
  have gz_b8 : h0.size ≤ b8 := Nat.le_trans (Nat.le_refl _) (Nat.le_of_eq g8.symm)
  have V_b8 : Arv Z h8 b8 k8 (.object "java/lang/Object") (10 : Int32) [.null, .null, .null, .null, .null, .null, .null, .null, .null, .null] .null := (Arv.new A8 (by decide)).pad (pad_rep [] .null 10)
  refine own_fs (st8 _ (Steps.refl _)) ?_
  show own_G p.tables e below _ (T8.setTop (mkF m 55 #[.val (.ref a1), .val (.int (1 : Int32)), .val (.int (0 : Int32)), .unset] [(.ref b8), (.ref a1)]))
  refine own_fs (XS.dupX1 X8.here hx rfl (hb hby own_d12_55) rfl rfl rfl (Steps.refl _)) ?_
  show own_G p.tables e below _ (T8.setTop (mkF m 56 #[.val (.ref a1), .val (.int (1 : Int32)), .val (.int (0 : Int32)), .unset] [(.ref b8), (.ref a1), (.ref b8)]))
  obtain ⟨T9, h9, X9, e9, W9, st9⟩ := putF X8 hx hZ hown (host := "") (Or.inl (hw _ (List.mem_of_getElem? (i := 25) rfl))) Via.refl e8 (Fld.ext E8 hF_elementData_a1) (Exa.ext E8 hE_a1) (Or.inl (hw _ (List.mem_of_getElem? (i := 26) rfl))) (hw _ (List.mem_of_getElem? (i := 2) rfl)) (ty := (.array (.object "java/lang/Object"))) (by decide) rfl rfl (g := (mkF m 56 #[.val (.ref a1), .val (.int (1 : Int32)), .val (.int (0 : Int32)), .unset] [(.ref b8), (.ref a1), (.ref b8)])) rfl rfl (hb hby own_d12_56)
  refine own_fs (st9 _ (Steps.refl _)) ?_
  have Fw9 := Fld.same W9 (Fld.ext E8 hF_elementData_a1)
  have N9 := Fr.snoc X9 N6 ge_a1
  show own_G p.tables e below _ (T9.setTop (mkF m 59 #[.val (.ref a1), .val (.int (1 : Int32)), .val (.int (0 : Int32)), .unset] [(.ref b8)]))
  exact own_retA X9 hx (t := (.array (.object "java/lang/Object"))) Bd.returns hlk rfl rfl (hb hby own_d12_59) (by decide) (by decide) e9 ⟨b8, k8, rfl, N9, (((Keep.refl _ _).ext E8).wr W9 (Or.inl (List.mem_of_getElem? (i := 0) rfl))), (Fld.other W9 (Fld.ext E8 hF_modCount_a1) (Or.inr (slot_ne (Or.inl (hw _ (List.mem_of_getElem? (i := 23) rfl))) (Or.inl (hw _ (List.mem_of_getElem? (i := 26) rfl))) (by decide) (t := .int) (t' := (.array (.object "java/lang/Object"))) (by decide) (by decide)))), Fw9, (Fld.other W9 (Fld.ext E8 hF_size_a1) (Or.inr (slot_ne (Or.inl (hw _ (List.mem_of_getElem? (i := 74) rfl))) (Or.inl (hw _ (List.mem_of_getElem? (i := 26) rfl))) (by decide) (t := .int) (t' := (.array (.object "java/lang/Object"))) (by decide) (by decide)))), gz_b8, (V_b8.other W9 (Ne.symm (Nat.ne_of_lt (Nat.lt_of_lt_of_le (Exa.lt hE_a1) (Nat.le_of_eq g8.symm))))), O8⟩
theorem own_grow0_ef (m : MethodId) (x0 : Addr) : entryFrame m #[(.ref x0)] 1 = mkF m 0 #[.val (.ref x0)] [] := by first | (simp [entryFrame, mkF, argsToLocals, Value.category]; done) | rfl
def own_grow0_Q (Z : State) (a1 : Addr) (u1 : Int32) (db : Addr) (dc : Cell) (h0 : Heap) (n0 : Nat) (v : Option Value) (h : Heap) (L : List Loc) : Prop := ∃ br : Addr, ∃ kr : ClassId, (v = some (.ref br) ∧ Fr n0 L ∧ Keep h0 h [a1] ∧ (Fld Z h a1 "java/util/AbstractList" "modCount" "I" (.int u1)) ∧ (Fld Z h a1 "java/util/ArrayList" "elementData" "[Ljava/lang/Object;" (.ref br)) ∧ (Fld Z h a1 "java/util/ArrayList" "size" "I" (.int (0 : Int32))) ∧ (h0.size ≤ br) ∧ (Arv Z h br kr (.object "java/lang/Object") (10 : Int32) [.null, .null, .null, .null, .null, .null, .null, .null, .null, .null] .null) ∧ (Ovr Z kr "java/lang/Object"))
set_option maxRecDepth 65536 in
set_option maxHeartbeats 40000000 in
theorem own_grow0 (l : Launch) (Z : State) (a0 : Array Value) (hw : ∀ d ∈ tables_1, d.before a0 Z = true) (ws : List Jvm.Cond) (a1 : Addr) (u1 : Int32) (db : Addr) (dc : Cell) (h0 : Heap) (n0 : Nat) (Z0 : n0 ≤ h0.size) (hE_a1 : Exa Z h0 a1 "java/util/ArrayList") (hF_modCount_a1 : Fld Z h0 a1 "java/util/AbstractList" "modCount" "I" (.int u1)) (hF_elementData_a1 : Fld Z h0 a1 "java/util/ArrayList" "elementData" "[Ljava/lang/Object;" (.ref db)) (hF_size_a1 : Fld Z h0 a1 "java/util/ArrayList" "size" "I" (.int (0 : Int32))) (ge_a1 : n0 ≤ a1) (hDef : own_Def Z db dc) (hOld : Old Z n0 h0) :
    MetFree l (⟨"java/util/ArrayList", "grow", "()[Ljava/lang/Object;"⟩ : MethodName) (head1 (Jvm.Cond.code (⟨"java/util/ArrayList", "grow", "()[Ljava/lang/Object;"⟩ : MethodName) jdk_38_method_7_code 1 (some (.array (.object "java/lang/Object"))) :: ws) ({ frames := 2, cells := 1, slots := 10, locals := 29 } : Room)) (fun a U => a = #[(.ref a1)] ∧ Z.Warmed39 U.vm ∧ U.heap = h0) (fun _ _ _ _ _ => True) (fun _ U o U' => ∃ v L, o = .returned v ∧ own_grow0_Q Z a1 u1 db dc h0 n0 v U'.heap L ∧ FrameEnd U o U' L ({ frames := 2, cells := 1, slots := 10, locals := 29 } : Room).cells ({ frames := 2, cells := 1, slots := 10, locals := 29 } : Room).slots) := by
  refine MetFree.of_bodySF (plainFor_of_name own_pn4) hisR ?_
  intro p e s m args below meth c s₁ Bd hml0 hP hK
  obtain ⟨rfl, hZ, hh⟩ := hP
  have hx := Bd.exec
  have hby := Bd.bytes
  have hlk : meth.locks = false := BodyLoose.notSynchronized Bd
  have hml : c.maxLocals = 1 := hml0
  have hown : s.vm.findClass "java/util/ArrayList" = some m.cls := findClass_of_methodNamed Bd.named
  have hnm := (name_of_methodNamed Bd.named Bd.method).1
  have X0 : Stand p l e ({ frames := 2, cells := 1, slots := 10, locals := 29 } : Room) s m #[(.ref a1)] below meth c s₁ [] 0 0 := Stand.of_body Bd
  have e0 : s₁.heap = h0 := by rw [← hh, Bd.state]; rfl
  have N0 := Fr.nil n0
  refine own_start (QQ := own_grow0_Q Z a1 u1 db dc h0 n0) (rc := ({ frames := 2, cells := 1, slots := 10, locals := 29 } : Room).cells) (rs := ({ frames := 2, cells := 1, slots := 10, locals := 29 } : Room).slots) (own_grow0_ef m a1 ) ?_
  show own_G p.tables e below _ (s₁.setTop (mkF m 0 #[.val (.ref a1)] []))
  refine own_fs (XS.aloadN X0.here hx rfl (hb hby own_d11_0) rfl rfl (Steps.refl _)) ?_
  show own_G p.tables e below _ (s₁.setTop (mkF m 1 #[.val (.ref a1)] [(.ref a1)]))
  refine own_fs (XS.aloadN X0.here hx rfl (hb hby own_d11_1) rfl rfl (Steps.refl _)) ?_
  show own_G p.tables e below _ (s₁.setTop (mkF m 2 #[.val (.ref a1)] [(.ref a1), (.ref a1)]))
  obtain ⟨T1, X1, e1, st1⟩ := getF X0 hx hZ hown (host := "") (Or.inl (hw _ (List.mem_of_getElem? (i := 73) rfl))) Via.refl e0 hF_size_a1 (g := (mkF m 2 #[.val (.ref a1)] [(.ref a1), (.ref a1)])) rfl rfl (hb hby own_d11_2)
  refine own_fs (st1 _ (Steps.refl _)) ?_
  show own_G p.tables e below _ (T1.setTop (mkF m 5 #[.val (.ref a1)] [(.int (0 : Int32)), (.ref a1)]))
  refine own_fs (XS.iconst X1.here hx rfl (hb hby own_d11_5) (Steps.refl _)) ?_
  show own_G p.tables e below _ (T1.setTop (mkF m 6 #[.val (.ref a1)] [(.int (1 : Int32)), (.int (0 : Int32)), (.ref a1)]))
  refine own_fs (XS.iadd X1.here hx rfl (hb hby own_d11_6) rfl (Steps.refl _)) ?_
  show own_G p.tables e below _ (T1.setTop (mkF m 7 #[.val (.ref a1)] [(.int (1 : Int32)), (.ref a1)]))
  have Zs5 : n0 ≤ h0.size := Z0
  obtain ⟨cq4, q4, q4'⟩ := Exa.cell hE_a1
  obtain ⟨_, _, ⟨T4, L4, k4, n4⟩, -, X4, ⟨Lc4, hQ4, l4, y4, z4⟩, st4⟩ := X1.privateBack hx (y := (⟨"java/util/ArrayList", "grow", "(I)[Ljava/lang/Object;"⟩ : MethodName)) hown (mvT hZ (hw _ (List.mem_of_getElem? (i := 85) rfl))) (mvT hZ (hw _ (List.mem_of_getElem? (i := 86) rfl))) (mvT hZ (hw _ (List.mem_of_getElem? (i := 88) rfl))) (Cond.privateMethod_at (mvP hZ (hw _ (List.mem_of_getElem? (i := 87) rfl)) (args := #[]))) (mvT hZ (hw _ (List.mem_of_getElem? (i := 89) rfl))) (by decide) (backOf (W := 0) (own_grow1 l Z a0 hw [] a1 u1 db dc h0 n0 Zs5 hE_a1 hF_modCount_a1 hF_elementData_a1 hF_size_a1 ge_a1 hDef hOld) hZ (hw _ (List.mem_of_getElem? (i := 89) rfl)) (hw _ (List.mem_of_getElem? (i := 3) rfl)) (by decide) (by decide)) (g := (mkF m 7 #[.val (.ref a1)] [(.int (1 : Int32)), (.ref a1)])) rfl (by rw [hml]; rfl) (Steps.refl _) (a := a1) (by rw [e1]; exact q4) q4' (argsL := [(.int (1 : Int32))]) (rest := []) (lenOf own_pd3 rfl) rfl (by show 2 * 0 + _ ≤ _; exact Nat.le_of_eq rfl) (hb hby own_d11_7) (fun _ _ => ⟨rfl, e1, (by decide : 0 + 1 ≤ _), (by decide : 0 + 10 ≤ _)⟩)
  dsimp only [Pt.U, Pt.locs, Pt.cells, Pt.slots] at X4 l4 y4 z4 st4 hQ4
  subst l4 y4 z4
  obtain ⟨h4, e4⟩ : ∃ h, T4.heap = h := ⟨_, rfl⟩
  rw [e4] at hQ4
  obtain ⟨br2, kr2, rfl, Nq4, K4, P3_0, P3_1, P3_2, P3_3, P3_4, P3_5⟩ := hQ4
  have N4 := Fr.app N0 Nq4
  have ge_br2 : n0 ≤ br2 := Nat.le_trans Z0 P3_3
  have gz_br2 : h0.size ≤ br2 := Nat.le_trans (Nat.le_refl _) P3_3
  refine own_fs st4 ?_
  show own_G p.tables e below _ (T4.setTop (mkF m 10 #[.val (.ref a1)] [(.ref br2)]))
  exact own_retA X4 hx (t := (.array (.object "java/lang/Object"))) Bd.returns hlk rfl rfl (hb hby own_d11_10) (by decide) (by decide) e4 ⟨br2, kr2, rfl, N4, ((Keep.refl _ _).trans K4 (allS (Or.inl (List.mem_of_getElem? (i := 0) rfl)) all0)), P3_0, P3_1, P3_2, gz_br2, P3_4, P3_5⟩
theorem own_addh0_ef (m : MethodId) (x0 : Addr) (x1 : Addr) (x2 : Addr) (x3 : Int32) : entryFrame m #[(.ref x0), (.ref x1), (.ref x2), (.int x3)] 4 = mkF m 0 #[.val (.ref x0), .val (.ref x1), .val (.ref x2), .val (.int x3)] [] := by first | (simp [entryFrame, mkF, argsToLocals, Value.category]; done) | rfl
def own_addh0_Q (Z : State) (a1 : Addr) (el0 : Addr) (u1 : Int32) (db : Addr) (dc : Cell) (h0 : Heap) (n0 : Nat) (v : Option Value) (h : Heap) (L : List Loc) : Prop := ∃ br : Addr, ∃ kr : ClassId, (v = none ∧ Fr n0 L ∧ Keep h0 h [a1] ∧ (Fld Z h a1 "java/util/AbstractList" "modCount" "I" (.int u1)) ∧ (Fld Z h a1 "java/util/ArrayList" "elementData" "[Ljava/lang/Object;" (.ref br)) ∧ (Fld Z h a1 "java/util/ArrayList" "size" "I" (.int (1 : Int32))) ∧ (h0.size ≤ br) ∧ (Arv Z h br kr (.object "java/lang/Object") (10 : Int32) [(.ref el0), .null, .null, .null, .null, .null, .null, .null, .null, .null] .null) ∧ (Ovr Z kr "java/lang/Object"))
set_option maxRecDepth 65536 in
set_option maxHeartbeats 40000000 in
theorem own_addh0 (l : Launch) (Z : State) (a0 : Array Value) (hw : ∀ d ∈ tables_1, d.before a0 Z = true) (ws : List Jvm.Cond) (a1 : Addr) (el0 : Addr) (u1 : Int32) (db : Addr) (dc : Cell) (h0 : Heap) (n0 : Nat) (Z0 : n0 ≤ h0.size) (hE_a1 : Exa Z h0 a1 "java/util/ArrayList") (hF_modCount_a1 : Fld Z h0 a1 "java/util/AbstractList" "modCount" "I" (.int u1)) (hF_elementData_a1 : Fld Z h0 a1 "java/util/ArrayList" "elementData" "[Ljava/lang/Object;" (.ref db)) (hF_size_a1 : Fld Z h0 a1 "java/util/ArrayList" "size" "I" (.int (0 : Int32))) (ge_a1 : n0 ≤ a1) (hDef : own_Def Z db dc) (hOld : Old Z n0 h0) (hE_el0 : Exa Z h0 el0 "java/lang/Long") :
    MetFree l (⟨"java/util/ArrayList", "add", "(Ljava/lang/Object;[Ljava/lang/Object;I)V"⟩ : MethodName) (head1 (Jvm.Cond.code (⟨"java/util/ArrayList", "add", "(Ljava/lang/Object;[Ljava/lang/Object;I)V"⟩ : MethodName) jdk_38_method_24_code 4 none :: ws) ({ frames := 3, cells := 1, slots := 10, locals := 41 } : Room)) (fun a U => a = #[(.ref a1), (.ref el0), (.ref db), (.int (0 : Int32))] ∧ Z.Warmed39 U.vm ∧ U.heap = h0) (fun _ _ _ _ _ => True) (fun _ U o U' => ∃ v L, o = .returned v ∧ own_addh0_Q Z a1 el0 u1 db dc h0 n0 v U'.heap L ∧ FrameEnd U o U' L ({ frames := 3, cells := 1, slots := 10, locals := 41 } : Room).cells ({ frames := 3, cells := 1, slots := 10, locals := 41 } : Room).slots) := by
  refine MetFree.of_bodySF (plainFor_of_name own_pn4) hisR ?_
  intro p e s m args below meth c s₁ Bd hml0 hP hK
  obtain ⟨rfl, hZ, hh⟩ := hP
  have hx := Bd.exec
  have hby := Bd.bytes
  have hlk : meth.locks = false := BodyLoose.notSynchronized Bd
  have hml : c.maxLocals = 4 := hml0
  have hown : s.vm.findClass "java/util/ArrayList" = some m.cls := findClass_of_methodNamed Bd.named
  have hnm := (name_of_methodNamed Bd.named Bd.method).1
  have X0 : Stand p l e ({ frames := 3, cells := 1, slots := 10, locals := 41 } : Room) s m #[(.ref a1), (.ref el0), (.ref db), (.int (0 : Int32))] below meth c s₁ [] 0 0 := Stand.of_body Bd
  have e0 : s₁.heap = h0 := by rw [← hh, Bd.state]; rfl
  have N0 := Fr.nil n0
  refine own_start (QQ := own_addh0_Q Z a1 el0 u1 db dc h0 n0) (rc := ({ frames := 3, cells := 1, slots := 10, locals := 41 } : Room).cells) (rs := ({ frames := 3, cells := 1, slots := 10, locals := 41 } : Room).slots) (own_addh0_ef m a1 el0 db (0 : Int32) ) ?_
  show own_G p.tables e below _ (s₁.setTop (mkF m 0 #[.val (.ref a1), .val (.ref el0), .val (.ref db), .val (.int (0 : Int32))] []))
  refine own_fs (XS.iloadN X0.here hx rfl (hb hby own_d10_0) rfl (Steps.refl _)) ?_
  show own_G p.tables e below _ (s₁.setTop (mkF m 1 #[.val (.ref a1), .val (.ref el0), .val (.ref db), .val (.int (0 : Int32))] [(.int (0 : Int32))]))
  refine own_fs (XS.aloadN X0.here hx rfl (hb hby own_d10_1) rfl rfl (Steps.refl _)) ?_
  show own_G p.tables e below _ (s₁.setTop (mkF m 2 #[.val (.ref a1), .val (.ref el0), .val (.ref db), .val (.int (0 : Int32))] [(.ref db), (.int (0 : Int32))]))
  obtain ⟨cl1, Ar1, -, S1, O1, -, -⟩ := (own_defV hDef hOld)
  have sl1 := X0.arraylength hx (by rw [e0]; exact Ar1.1) (State.isArrayOf_alike hZ.alike Ar1.2.1) (g := (mkF m 2 #[.val (.ref a1), .val (.ref el0), .val (.ref db), .val (.int (0 : Int32))] [(.ref db), (.int (0 : Int32))])) rfl rfl (hb hby own_d10_2) _ (Steps.refl _)
  rw [len_of S1 O1] at sl1
  refine own_fs sl1 ?_
  show own_G p.tables e below _ (s₁.setTop (mkF m 3 #[.val (.ref a1), .val (.ref el0), .val (.ref db), .val (.int (0 : Int32))] [(.int (0 : Int32)), (.int (0 : Int32))]))
  refine own_fs (XS.icmpNo X0.here hx rfl (hb hby own_d10_3) rfl (XT.ii_ne_f (by decide : (0 : Int32) = (0 : Int32))) (Steps.refl _)) ?_
  show own_G p.tables e below _ (s₁.setTop (mkF m 6 #[.val (.ref a1), .val (.ref el0), .val (.ref db), .val (.int (0 : Int32))] []))
  refine own_fs (XS.aloadN X0.here hx rfl (hb hby own_d10_6) rfl rfl (Steps.refl _)) ?_
  show own_G p.tables e below _ (s₁.setTop (mkF m 7 #[.val (.ref a1), .val (.ref el0), .val (.ref db), .val (.int (0 : Int32))] [(.ref a1)]))
  have Zs5 : n0 ≤ h0.size := Z0
  obtain ⟨cq4, q4, q4'⟩ := Exa.cell hE_a1
  obtain ⟨_, _, ⟨T4, L4, k4, n4⟩, -, X4, ⟨Lc4, hQ4, l4, y4, z4⟩, st4⟩ := X0.privateBack hx (y := (⟨"java/util/ArrayList", "grow", "()[Ljava/lang/Object;"⟩ : MethodName)) hown (mvT hZ (hw _ (List.mem_of_getElem? (i := 80) rfl))) (mvT hZ (hw _ (List.mem_of_getElem? (i := 81) rfl))) (mvT hZ (hw _ (List.mem_of_getElem? (i := 83) rfl))) (Cond.privateMethod_at (mvP hZ (hw _ (List.mem_of_getElem? (i := 82) rfl)) (args := #[]))) (mvT hZ (hw _ (List.mem_of_getElem? (i := 84) rfl))) (by decide) (backOf (W := 0) (own_grow0 l Z a0 hw [] a1 u1 db dc h0 n0 Zs5 hE_a1 hF_modCount_a1 hF_elementData_a1 hF_size_a1 ge_a1 hDef hOld) hZ (hw _ (List.mem_of_getElem? (i := 84) rfl)) (hw _ (List.mem_of_getElem? (i := 3) rfl)) (by decide) (by decide)) (g := (mkF m 7 #[.val (.ref a1), .val (.ref el0), .val (.ref db), .val (.int (0 : Int32))] [(.ref a1)])) rfl (by rw [hml]; rfl) (Steps.refl _) (a := a1) (by rw [e0]; exact q4) q4' (argsL := []) (rest := []) (lenOf own_pd4 rfl) rfl (by show 2 * 0 + _ ≤ _; exact Nat.le_of_eq rfl) (hb hby own_d10_7) (fun _ _ => ⟨rfl, e0, (by decide : 0 + 1 ≤ _), (by decide : 0 + 10 ≤ _)⟩)
  dsimp only [Pt.U, Pt.locs, Pt.cells, Pt.slots] at X4 l4 y4 z4 st4 hQ4
  subst l4 y4 z4
  obtain ⟨h4, e4⟩ : ∃ h, T4.heap = h := ⟨_, rfl⟩
  rw [e4] at hQ4
  obtain ⟨br2, kr2, rfl, Nq4, K4, P3_0, P3_1, P3_2, P3_3, P3_4, P3_5⟩ := hQ4
  have N4 := Fr.app N0 Nq4
  have ge_br2 : n0 ≤ br2 := Nat.le_trans Z0 P3_3
  have gz_br2 : h0.size ≤ br2 := Nat.le_trans (Nat.le_refl _) P3_3
  refine own_fs st4 ?_
  show own_G p.tables e below _ (T4.setTop (mkF m 10 #[.val (.ref a1), .val (.ref el0), .val (.ref db), .val (.int (0 : Int32))] [(.ref br2)]))
  refine own_fs (XS.astoreN X4.here hx rfl (hb hby own_d10_10) rfl rfl (l' := #[.val (.ref a1), .val (.ref el0), .val (.ref br2), .val (.int (0 : Int32))]) rfl (Steps.refl _)) ?_
  show own_G p.tables e below _ (T4.setTop (mkF m 11 #[.val (.ref a1), .val (.ref el0), .val (.ref br2), .val (.int (0 : Int32))] []))
  refine own_fs (XS.aloadN X4.here hx rfl (hb hby own_d10_11) rfl rfl (Steps.refl _)) ?_
  show own_G p.tables e below _ (T4.setTop (mkF m 12 #[.val (.ref a1), .val (.ref el0), .val (.ref br2), .val (.int (0 : Int32))] [(.ref br2)]))
  refine own_fs (XS.iloadN X4.here hx rfl (hb hby own_d10_12) rfl (Steps.refl _)) ?_
  show own_G p.tables e below _ (T4.setTop (mkF m 13 #[.val (.ref a1), .val (.ref el0), .val (.ref br2), .val (.int (0 : Int32))] [(.int (0 : Int32)), (.ref br2)]))
  refine own_fs (XS.aloadN X4.here hx rfl (hb hby own_d10_13) rfl rfl (Steps.refl _)) ?_
  show own_G p.tables e below _ (T4.setTop (mkF m 14 #[.val (.ref a1), .val (.ref el0), .val (.ref br2), .val (.int (0 : Int32))] [(.ref el0), (.int (0 : Int32)), (.ref br2)]))
  obtain ⟨cl6, Ar6, q6, S6, O6, H6, G6⟩ := P3_4
  obtain ⟨T7, h7, X7, e7, W7, st7⟩ := stR X4 hx hZ e4 Ar6 (j := (0 : Int32)) (inb_of S6 ⟨by decide, by decide⟩) rfl (Sto.ofV Ar6 q6 P3_5 (Ins.of_exa (hE_el0.keep K4) (hw _ (List.mem_of_getElem? (i := 96) rfl)))) (g := (mkF m 14 #[.val (.ref a1), .val (.ref el0), .val (.ref br2), .val (.int (0 : Int32))] [(.ref el0), (.int (0 : Int32)), (.ref br2)])) rfl rfl (hb hby own_d10_14)
  refine own_fs (st7 _ (Steps.refl _)) ?_
  have V7 : Arv Z h7 br2 kr2 (.object "java/lang/Object") (10 : Int32) [(.ref el0), .null, .null, .null, .null, .null, .null, .null, .null, .null] .null := Arv.set Ar6 q6 S6 O6 H6 G6 rfl W7 0 rfl (Nat.le_of_ble_eq_true rfl)
  have N7 := Fr.snoc X7 N4 ge_br2
  show own_G p.tables e below _ (T7.setTop (mkF m 15 #[.val (.ref a1), .val (.ref el0), .val (.ref br2), .val (.int (0 : Int32))] []))
  refine own_fs (XS.aloadN X7.here hx rfl (hb hby own_d10_15) rfl rfl (Steps.refl _)) ?_
  show own_G p.tables e below _ (T7.setTop (mkF m 16 #[.val (.ref a1), .val (.ref el0), .val (.ref br2), .val (.int (0 : Int32))] [(.ref a1)]))
  refine own_fs (XS.iloadN X7.here hx rfl (hb hby own_d10_16) rfl (Steps.refl _)) ?_
  show own_G p.tables e below _ (T7.setTop (mkF m 17 #[.val (.ref a1), .val (.ref el0), .val (.ref br2), .val (.int (0 : Int32))] [(.int (0 : Int32)), (.ref a1)]))
  refine own_fs (XS.iconst X7.here hx rfl (hb hby own_d10_17) (Steps.refl _)) ?_
  show own_G p.tables e below _ (T7.setTop (mkF m 18 #[.val (.ref a1), .val (.ref el0), .val (.ref br2), .val (.int (0 : Int32))] [(.int (1 : Int32)), (.int (0 : Int32)), (.ref a1)]))
  refine own_fs (XS.iadd X7.here hx rfl (hb hby own_d10_18) rfl (Steps.refl _)) ?_
  show own_G p.tables e below _ (T7.setTop (mkF m 19 #[.val (.ref a1), .val (.ref el0), .val (.ref br2), .val (.int (0 : Int32))] [(.int (1 : Int32)), (.ref a1)]))
  obtain ⟨T8, h8, X8, e8, W8, st8⟩ := putF X7 hx hZ hown (host := "") (Or.inl (hw _ (List.mem_of_getElem? (i := 73) rfl))) Via.refl e7 (Fld.other W7 P3_2 (Or.inl (Nat.ne_of_lt (Nat.lt_of_lt_of_le (Exa.lt hE_a1) P3_3)))) (Exa.wr W7 (hE_a1.keep K4)) (Or.inl (hw _ (List.mem_of_getElem? (i := 74) rfl))) (hw _ (List.mem_of_getElem? (i := 2) rfl)) (ty := .int) (by decide) rfl rfl (g := (mkF m 19 #[.val (.ref a1), .val (.ref el0), .val (.ref br2), .val (.int (0 : Int32))] [(.int (1 : Int32)), (.ref a1)])) rfl rfl (hb hby own_d10_19)
  refine own_fs (st8 _ (Steps.refl _)) ?_
  have Fw8 := Fld.same W8 (Fld.other W7 P3_2 (Or.inl (Nat.ne_of_lt (Nat.lt_of_lt_of_le (Exa.lt hE_a1) P3_3))))
  have N8 := Fr.snoc X8 N7 ge_a1
  show own_G p.tables e below _ (T8.setTop (mkF m 22 #[.val (.ref a1), .val (.ref el0), .val (.ref br2), .val (.int (0 : Int32))] []))
  exact own_retV X8 hx Bd.returns hlk (hb hby own_d10_22) (by decide) (by decide) e8 ⟨br2, kr2, rfl, N8, ((((Keep.refl _ _).trans K4 (allS (Or.inl (List.mem_of_getElem? (i := 0) rfl)) all0)).wr W7 (Or.inr gz_br2)).wr W8 (Or.inl (List.mem_of_getElem? (i := 0) rfl))), (Fld.other W8 (Fld.other W7 P3_0 (Or.inl (Nat.ne_of_lt (Nat.lt_of_lt_of_le (Exa.lt hE_a1) P3_3)))) (Or.inr (slot_ne (Or.inl (hw _ (List.mem_of_getElem? (i := 23) rfl))) (Or.inl (hw _ (List.mem_of_getElem? (i := 74) rfl))) (by decide) (t := .int) (t' := .int) (by decide) (by decide)))), (Fld.other W8 (Fld.other W7 P3_1 (Or.inl (Nat.ne_of_lt (Nat.lt_of_lt_of_le (Exa.lt hE_a1) P3_3)))) (Or.inr (slot_ne (Or.inl (hw _ (List.mem_of_getElem? (i := 26) rfl))) (Or.inl (hw _ (List.mem_of_getElem? (i := 74) rfl))) (by decide) (t := (.array (.object "java/lang/Object"))) (t' := .int) (by decide) (by decide)))), Fw8, gz_br2, (V7.other W8 (Ne.symm (Nat.ne_of_lt (Nat.lt_of_lt_of_le (Exa.lt hE_a1) P3_3)))), P3_5⟩
theorem own_add0_ef (m : MethodId) (x0 : Addr) (x1 : Addr) : entryFrame m #[(.ref x0), (.ref x1)] 2 = mkF m 0 #[.val (.ref x0), .val (.ref x1)] [] := by first | (simp [entryFrame, mkF, argsToLocals, Value.category]; done) | rfl
def own_add0_Q (Z : State) (a1 : Addr) (el0 : Addr) (u1 : Int32) (db : Addr) (dc : Cell) (h0 : Heap) (n0 : Nat) (v : Option Value) (h : Heap) (L : List Loc) : Prop := ∃ br : Addr, ∃ kr : ClassId, (v = some (.int (1 : Int32)) ∧ Fr n0 L ∧ Keep h0 h [a1] ∧ (Fld Z h a1 "java/util/AbstractList" "modCount" "I" (.int (u1 + (1 : Int32)))) ∧ (Fld Z h a1 "java/util/ArrayList" "elementData" "[Ljava/lang/Object;" (.ref br)) ∧ (Fld Z h a1 "java/util/ArrayList" "size" "I" (.int (1 : Int32))) ∧ (h0.size ≤ br) ∧ (Arv Z h br kr (.object "java/lang/Object") (10 : Int32) [(.ref el0), .null, .null, .null, .null, .null, .null, .null, .null, .null] .null) ∧ (Ovr Z kr "java/lang/Object"))
set_option maxRecDepth 65536 in
set_option maxHeartbeats 40000000 in
theorem own_add0 (l : Launch) (Z : State) (a0 : Array Value) (hw : ∀ d ∈ tables_1, d.before a0 Z = true) (ws : List Jvm.Cond) (a1 : Addr) (el0 : Addr) (u1 : Int32) (db : Addr) (dc : Cell) (h0 : Heap) (n0 : Nat) (Z0 : n0 ≤ h0.size) (hE_a1 : Exa Z h0 a1 "java/util/ArrayList") (hF_modCount_a1 : Fld Z h0 a1 "java/util/AbstractList" "modCount" "I" (.int u1)) (hF_elementData_a1 : Fld Z h0 a1 "java/util/ArrayList" "elementData" "[Ljava/lang/Object;" (.ref db)) (hF_size_a1 : Fld Z h0 a1 "java/util/ArrayList" "size" "I" (.int (0 : Int32))) (ge_a1 : n0 ≤ a1) (hDef : own_Def Z db dc) (hOld : Old Z n0 h0) (hE_el0 : Exa Z h0 el0 "java/lang/Long") :
    MetFree l (⟨"java/util/ArrayList", "add", "(Ljava/lang/Object;)Z"⟩ : MethodName) (head1 (Jvm.Cond.code (⟨"java/util/ArrayList", "add", "(Ljava/lang/Object;)Z"⟩ : MethodName) jdk_38_method_25_code 2 (some .boolean) :: ws) ({ frames := 4, cells := 1, slots := 10, locals := 56 } : Room)) (fun a U => a = #[(.ref a1), (.ref el0)] ∧ Z.Warmed39 U.vm ∧ U.heap = h0) (fun _ _ _ _ _ => True) (fun _ U o U' => ∃ v L, o = .returned v ∧ own_add0_Q Z a1 el0 u1 db dc h0 n0 v U'.heap L ∧ FrameEnd U o U' L ({ frames := 4, cells := 1, slots := 10, locals := 56 } : Room).cells ({ frames := 4, cells := 1, slots := 10, locals := 56 } : Room).slots) := by
  refine MetFree.of_bodySF (plainFor_of_name own_pn4) hisR ?_
  intro p e s m args below meth c s₁ Bd hml0 hP hK
  obtain ⟨rfl, hZ, hh⟩ := hP
  have hx := Bd.exec
  have hby := Bd.bytes
  have hlk : meth.locks = false := BodyLoose.notSynchronized Bd
  have hml : c.maxLocals = 2 := hml0
  have hown : s.vm.findClass "java/util/ArrayList" = some m.cls := findClass_of_methodNamed Bd.named
  have hnm := (name_of_methodNamed Bd.named Bd.method).1
  have X0 : Stand p l e ({ frames := 4, cells := 1, slots := 10, locals := 56 } : Room) s m #[(.ref a1), (.ref el0)] below meth c s₁ [] 0 0 := Stand.of_body Bd
  have e0 : s₁.heap = h0 := by rw [← hh, Bd.state]; rfl
  have N0 := Fr.nil n0
  refine own_start (QQ := own_add0_Q Z a1 el0 u1 db dc h0 n0) (rc := ({ frames := 4, cells := 1, slots := 10, locals := 56 } : Room).cells) (rs := ({ frames := 4, cells := 1, slots := 10, locals := 56 } : Room).slots) (own_add0_ef m a1 el0 ) ?_
  show own_G p.tables e below _ (s₁.setTop (mkF m 0 #[.val (.ref a1), .val (.ref el0)] []))
  refine own_fs (XS.aloadN X0.here hx rfl (hb hby own_d9_0) rfl rfl (Steps.refl _)) ?_
  show own_G p.tables e below _ (s₁.setTop (mkF m 1 #[.val (.ref a1), .val (.ref el0)] [(.ref a1)]))
  refine own_fs (XS.dup X0.here hx rfl (hb hby own_d9_1) rfl rfl (Steps.refl _)) ?_
  show own_G p.tables e below _ (s₁.setTop (mkF m 2 #[.val (.ref a1), .val (.ref el0)] [(.ref a1), (.ref a1)]))
  obtain ⟨T1, X1, e1, st1⟩ := getF X0 hx hZ hown (host := "") (Or.inl (hw _ (List.mem_of_getElem? (i := 71) rfl))) (Via.of (hw _ (List.mem_of_getElem? (i := 72) rfl))) e0 hF_modCount_a1 (g := (mkF m 2 #[.val (.ref a1), .val (.ref el0)] [(.ref a1), (.ref a1)])) rfl rfl (hb hby own_d9_2)
  refine own_fs (st1 _ (Steps.refl _)) ?_
  show own_G p.tables e below _ (T1.setTop (mkF m 5 #[.val (.ref a1), .val (.ref el0)] [(.int u1), (.ref a1)]))
  refine own_fs (XS.iconst X1.here hx rfl (hb hby own_d9_5) (Steps.refl _)) ?_
  show own_G p.tables e below _ (T1.setTop (mkF m 6 #[.val (.ref a1), .val (.ref el0)] [(.int (1 : Int32)), (.int u1), (.ref a1)]))
  refine own_fs (XS.iadd X1.here hx rfl (hb hby own_d9_6) rfl (Steps.refl _)) ?_
  show own_G p.tables e below _ (T1.setTop (mkF m 7 #[.val (.ref a1), .val (.ref el0)] [(.int (u1 + (1 : Int32))), (.ref a1)]))
  obtain ⟨T2, h2, X2, e2, W2, st2⟩ := putF X1 hx hZ hown (host := "") (Or.inl (hw _ (List.mem_of_getElem? (i := 71) rfl))) (Via.of (hw _ (List.mem_of_getElem? (i := 72) rfl))) e1 hF_modCount_a1 hE_a1 (Or.inl (hw _ (List.mem_of_getElem? (i := 23) rfl))) (hw _ (List.mem_of_getElem? (i := 2) rfl)) (ty := .int) (by decide) rfl rfl (g := (mkF m 7 #[.val (.ref a1), .val (.ref el0)] [(.int (u1 + (1 : Int32))), (.ref a1)])) rfl rfl (hb hby own_d9_7)
  refine own_fs (st2 _ (Steps.refl _)) ?_
  have Fw2 := Fld.same W2 hF_modCount_a1
  have N2 := Fr.snoc X2 N0 ge_a1
  show own_G p.tables e below _ (T2.setTop (mkF m 10 #[.val (.ref a1), .val (.ref el0)] []))
  refine own_fs (XS.aloadN X2.here hx rfl (hb hby own_d9_10) rfl rfl (Steps.refl _)) ?_
  show own_G p.tables e below _ (T2.setTop (mkF m 11 #[.val (.ref a1), .val (.ref el0)] [(.ref a1)]))
  refine own_fs (XS.aloadN X2.here hx rfl (hb hby own_d9_11) rfl rfl (Steps.refl _)) ?_
  show own_G p.tables e below _ (T2.setTop (mkF m 12 #[.val (.ref a1), .val (.ref el0)] [(.ref el0), (.ref a1)]))
  refine own_fs (XS.aloadN X2.here hx rfl (hb hby own_d9_12) rfl rfl (Steps.refl _)) ?_
  show own_G p.tables e below _ (T2.setTop (mkF m 13 #[.val (.ref a1), .val (.ref el0)] [(.ref a1), (.ref el0), (.ref a1)]))
  obtain ⟨T3, X3, e3, st3⟩ := getF X2 hx hZ hown (host := "") (Or.inl (hw _ (List.mem_of_getElem? (i := 25) rfl))) Via.refl e2 (Fld.other W2 hF_elementData_a1 (Or.inr (slot_ne (Or.inl (hw _ (List.mem_of_getElem? (i := 26) rfl))) (Or.inl (hw _ (List.mem_of_getElem? (i := 23) rfl))) (by decide) (t := (.array (.object "java/lang/Object"))) (t' := .int) (by decide) (by decide)))) (g := (mkF m 13 #[.val (.ref a1), .val (.ref el0)] [(.ref a1), (.ref el0), (.ref a1)])) rfl rfl (hb hby own_d9_13)
  refine own_fs (st3 _ (Steps.refl _)) ?_
  show own_G p.tables e below _ (T3.setTop (mkF m 16 #[.val (.ref a1), .val (.ref el0)] [(.ref db), (.ref el0), (.ref a1)]))
  refine own_fs (XS.aloadN X3.here hx rfl (hb hby own_d9_16) rfl rfl (Steps.refl _)) ?_
  show own_G p.tables e below _ (T3.setTop (mkF m 17 #[.val (.ref a1), .val (.ref el0)] [(.ref a1), (.ref db), (.ref el0), (.ref a1)]))
  obtain ⟨T4, X4, e4, st4⟩ := getF X3 hx hZ hown (host := "") (Or.inl (hw _ (List.mem_of_getElem? (i := 73) rfl))) Via.refl e3 (Fld.other W2 hF_size_a1 (Or.inr (slot_ne (Or.inl (hw _ (List.mem_of_getElem? (i := 74) rfl))) (Or.inl (hw _ (List.mem_of_getElem? (i := 23) rfl))) (by decide) (t := .int) (t' := .int) (by decide) (by decide)))) (g := (mkF m 17 #[.val (.ref a1), .val (.ref el0)] [(.ref a1), (.ref db), (.ref el0), (.ref a1)])) rfl rfl (hb hby own_d9_17)
  refine own_fs (st4 _ (Steps.refl _)) ?_
  show own_G p.tables e below _ (T4.setTop (mkF m 20 #[.val (.ref a1), .val (.ref el0)] [(.int (0 : Int32)), (.ref db), (.ref el0), (.ref a1)]))
  have Zs8 : n0 ≤ h2.size := (Nat.le_trans Z0 (Keep.of_wr W2).1)
  obtain ⟨cq7, q7, q7'⟩ := Exa.cell (Exa.wr W2 hE_a1)
  obtain ⟨_, _, ⟨T7, L7, k7, n7⟩, -, X7, ⟨Lc7, hQ7, l7, y7, z7⟩, st7⟩ := X4.privateBack hx (y := (⟨"java/util/ArrayList", "add", "(Ljava/lang/Object;[Ljava/lang/Object;I)V"⟩ : MethodName)) hown (mvT hZ (hw _ (List.mem_of_getElem? (i := 75) rfl))) (mvT hZ (hw _ (List.mem_of_getElem? (i := 76) rfl))) (mvT hZ (hw _ (List.mem_of_getElem? (i := 78) rfl))) (Cond.privateMethod_at (mvP hZ (hw _ (List.mem_of_getElem? (i := 77) rfl)) (args := #[]))) (mvT hZ (hw _ (List.mem_of_getElem? (i := 79) rfl))) (by decide) (backOf (W := 0) (own_addh0 l Z a0 hw [] a1 el0 (u1 + (1 : Int32)) db dc h2 n0 Zs8 (Exa.wr W2 hE_a1) Fw2 (Fld.other W2 hF_elementData_a1 (Or.inr (slot_ne (Or.inl (hw _ (List.mem_of_getElem? (i := 26) rfl))) (Or.inl (hw _ (List.mem_of_getElem? (i := 23) rfl))) (by decide) (t := (.array (.object "java/lang/Object"))) (t' := .int) (by decide) (by decide)))) (Fld.other W2 hF_size_a1 (Or.inr (slot_ne (Or.inl (hw _ (List.mem_of_getElem? (i := 74) rfl))) (Or.inl (hw _ (List.mem_of_getElem? (i := 23) rfl))) (by decide) (t := .int) (t' := .int) (by decide) (by decide)))) ge_a1 hDef (Old.wr hOld W2 ge_a1) (Exa.wr W2 hE_el0)) hZ (hw _ (List.mem_of_getElem? (i := 79) rfl)) (hw _ (List.mem_of_getElem? (i := 3) rfl)) (by decide) (by decide)) (g := (mkF m 20 #[.val (.ref a1), .val (.ref el0)] [(.int (0 : Int32)), (.ref db), (.ref el0), (.ref a1)])) rfl (by rw [hml]; rfl) (Steps.refl _) (a := a1) (by rw [e4]; exact q7) q7' (argsL := [(.ref el0), (.ref db), (.int (0 : Int32))]) (rest := []) (lenOf own_pd5 rfl) rfl (by show 2 * 0 + _ ≤ _; exact Nat.le_of_eq rfl) (hb hby own_d9_20) (fun _ _ => ⟨rfl, e4, (by decide : 0 + 1 ≤ _), (by decide : 0 + 10 ≤ _)⟩)
  dsimp only [Pt.U, Pt.locs, Pt.cells, Pt.slots] at X7 l7 y7 z7 st7 hQ7
  subst l7 y7 z7
  obtain ⟨h7, e7⟩ : ∃ h, T7.heap = h := ⟨_, rfl⟩
  rw [e7] at hQ7
  obtain ⟨br5, kr5, rfl, Nq7, K7, P6_0, P6_1, P6_2, P6_3, P6_4, P6_5⟩ := hQ7
  have N7 := Fr.app N2 Nq7
  have ge_br5 : n0 ≤ br5 := Nat.le_trans (Nat.le_trans Z0 (Keep.of_wr W2).1) P6_3
  have gz_br5 : h0.size ≤ br5 := Nat.le_trans (Nat.le_trans (Nat.le_refl _) (Keep.of_wr W2).1) P6_3
  refine own_fs st7 ?_
  show own_G p.tables e below _ (T7.setTop (mkF m 23 #[.val (.ref a1), .val (.ref el0)] []))
  refine own_fs (XS.iconst X7.here hx rfl (hb hby own_d9_23) (Steps.refl _)) ?_
  show own_G p.tables e below _ (T7.setTop (mkF m 24 #[.val (.ref a1), .val (.ref el0)] [(.int (1 : Int32))]))
  exact own_retN X7 hx (t := .boolean) Bd.returns hlk (by simp) (hb hby own_d9_24) (by decide) (by decide) e7 ⟨br5, kr5, rfl, N7, (((Keep.refl _ _).wr W2 (Or.inl (List.mem_of_getElem? (i := 0) rfl))).trans K7 (allS (Or.inl (List.mem_of_getElem? (i := 0) rfl)) all0)), P6_0, P6_1, P6_2, gz_br5, P6_4, P6_5⟩
theorem own_i_Record_ef (m : MethodId) (x0 : Addr) : entryFrame m #[(.ref x0)] 1 = mkF m 0 #[.val (.ref x0)] [] := by first | (simp [entryFrame, mkF, argsToLocals, Value.category]; done) | rfl
def own_i_Record_Q (Z : State) (a1 : Addr) (h0 : Heap) (n0 : Nat) (v : Option Value) (h : Heap) (L : List Loc) : Prop := (v = none ∧ Fr n0 L ∧ h = h0)
set_option maxRecDepth 65536 in
set_option maxHeartbeats 40000000 in
theorem own_i_Record (l : Launch) (Z : State) (a0 : Array Value) (hw : ∀ d ∈ tables_1, d.before a0 Z = true) (ws : List Jvm.Cond) (a1 : Addr) (h0 : Heap) (n0 : Nat) (Z0 : n0 ≤ h0.size)  :
    MetFree l (⟨"java/lang/Record", "<init>", "()V"⟩ : MethodName) (head1 (Jvm.Cond.code (⟨"java/lang/Record", "<init>", "()V"⟩ : MethodName) jdk_30_method_1_code 1 none :: ws) ({ frames := 1, cells := 0, slots := 0, locals := 12 } : Room)) (fun a U => a = #[(.ref a1)] ∧ Z.Warmed39 U.vm ∧ U.heap = h0) (fun _ _ _ _ _ => True) (fun _ U o U' => ∃ v L, o = .returned v ∧ own_i_Record_Q Z a1 h0 n0 v U'.heap L ∧ FrameEnd U o U' L ({ frames := 1, cells := 0, slots := 0, locals := 12 } : Room).cells ({ frames := 1, cells := 0, slots := 0, locals := 12 } : Room).slots) := by
  refine MetFree.of_bodySF (plainFor_of_name own_pn5) hisR ?_
  intro p e s m args below meth c s₁ Bd hml0 hP hK
  obtain ⟨rfl, hZ, hh⟩ := hP
  have hx := Bd.exec
  have hby := Bd.bytes
  have hlk : meth.locks = false := BodyLoose.notSynchronized Bd
  have hml : c.maxLocals = 1 := hml0
  have hown : s.vm.findClass "java/lang/Record" = some m.cls := findClass_of_methodNamed Bd.named
  have hnm := (name_of_methodNamed Bd.named Bd.method).1
  have X0 : Stand p l e ({ frames := 1, cells := 0, slots := 0, locals := 12 } : Room) s m #[(.ref a1)] below meth c s₁ [] 0 0 := Stand.of_body Bd
  have e0 : s₁.heap = h0 := by rw [← hh, Bd.state]; rfl
  have N0 := Fr.nil n0
  refine own_start (QQ := own_i_Record_Q Z a1 h0 n0) (rc := ({ frames := 1, cells := 0, slots := 0, locals := 12 } : Room).cells) (rs := ({ frames := 1, cells := 0, slots := 0, locals := 12 } : Room).slots) (own_i_Record_ef m a1 ) ?_
  show own_G p.tables e below _ (s₁.setTop (mkF m 0 #[.val (.ref a1)] []))
  refine own_fs (XS.aloadN X0.here hx rfl (hb hby own_d6_0) rfl rfl (Steps.refl _)) ?_
  show own_G p.tables e below _ (s₁.setTop (mkF m 1 #[.val (.ref a1)] [(.ref a1)]))
  obtain ⟨T1, X1, e1, st1⟩ := initO X0 hx hZ hown (hw _ (List.mem_of_getElem? (i := 38) rfl)) (hw _ (List.mem_of_getElem? (i := 20) rfl)) (hw _ (List.mem_of_getElem? (i := 21) rfl)) e0 (g := (mkF m 1 #[.val (.ref a1)] [(.ref a1)])) rfl (by rw [hml]; rfl) rfl (hb hby own_d6_1) (by decide) (W := 0) (by show 2 * 0 + _ ≤ _; exact Nat.le_of_eq rfl) (by decide)
  refine own_fs (st1 _ (Steps.refl _)) ?_
  show own_G p.tables e below _ (T1.setTop (mkF m 4 #[.val (.ref a1)] []))
  exact own_retV X1 hx Bd.returns hlk (hb hby own_d6_4) (by decide) (by decide) e1 ⟨rfl, N0, rfl⟩
theorem own_i_Run_ef (m : MethodId) (x0 : Addr) (x1 : Int64) (x2 : Int64) (x3 : Int64) (x4 : Int64) (x5 : Int64) (x6 : Addr) : entryFrame m #[(.ref x0), (.long x1), (.long x2), (.long x3), (.long x4), (.long x5), (.ref x6)] 12 = mkF m 0 #[.val (.ref x0), .val (.long x1), .second, .val (.long x2), .second, .val (.long x3), .second, .val (.long x4), .second, .val (.long x5), .second, .val (.ref x6)] [] := by first | (simp [entryFrame, mkF, argsToLocals, Value.category]; done) | rfl
def own_i_Run_Q (Z : State) (a1 : Addr) (q0 : Int64) (q1 : Int64) (q2 : Int64) (q3 : Int64) (q4 : Int64) (fo : Addr) (u0 : Int64) (u1 : Int64) (u2 : Int64) (u3 : Int64) (u4 : Int64) (u5 : Value) (h0 : Heap) (n0 : Nat) (v : Option Value) (h : Heap) (L : List Loc) : Prop := (v = none ∧ Fr n0 L ∧ Keep h0 h [a1] ∧ (Fld Z h a1 "com/example/cast3/cast3/Inbox$Run" "to" "J" (.long q4)))
set_option maxRecDepth 65536 in
set_option maxHeartbeats 40000000 in
theorem own_i_Run (l : Launch) (Z : State) (a0 : Array Value) (hw : ∀ d ∈ tables_1, d.before a0 Z = true) (ws : List Jvm.Cond) (a1 : Addr) (q0 : Int64) (q1 : Int64) (q2 : Int64) (q3 : Int64) (q4 : Int64) (fo : Addr) (u0 : Int64) (u1 : Int64) (u2 : Int64) (u3 : Int64) (u4 : Int64) (u5 : Value) (h0 : Heap) (n0 : Nat) (Z0 : n0 ≤ h0.size) (hE_a1 : Exa Z h0 a1 "com/example/cast3/cast3/Inbox$Run") (hF_post_a1 : Fld Z h0 a1 "com/example/cast3/cast3/Inbox$Run" "post" "J" (.long u0)) (hF_author_a1 : Fld Z h0 a1 "com/example/cast3/cast3/Inbox$Run" "author" "J" (.long u1)) (hF_publishedAt_a1 : Fld Z h0 a1 "com/example/cast3/cast3/Inbox$Run" "publishedAt" "J" (.long u2)) (hF_from_a1 : Fld Z h0 a1 "com/example/cast3/cast3/Inbox$Run" "from" "J" (.long u3)) (hF_to_a1 : Fld Z h0 a1 "com/example/cast3/cast3/Inbox$Run" "to" "J" (.long u4)) (hF_followers_a1 : Fld Z h0 a1 "com/example/cast3/cast3/Inbox$Run" "followers" "Ljava/util/List;" u5) (ge_a1 : n0 ≤ a1) :
    MetFree l (⟨"com/example/cast3/cast3/Inbox$Run", "<init>", "(JJJJJLjava/util/List;)V"⟩ : MethodName) (head1 (Jvm.Cond.code (⟨"com/example/cast3/cast3/Inbox$Run", "<init>", "(JJJJJLjava/util/List;)V"⟩ : MethodName) prog_6_method_1_code 12 none :: ws) ({ frames := 2, cells := 0, slots := 0, locals := 24 } : Room)) (fun a U => a = #[(.ref a1), (.long q0), (.long q1), (.long q2), (.long q3), (.long q4), (.ref fo)] ∧ Z.Warmed39 U.vm ∧ U.heap = h0) (fun _ _ _ _ _ => True) (fun _ U o U' => ∃ v L, o = .returned v ∧ own_i_Run_Q Z a1 q0 q1 q2 q3 q4 fo u0 u1 u2 u3 u4 u5 h0 n0 v U'.heap L ∧ FrameEnd U o U' L ({ frames := 2, cells := 0, slots := 0, locals := 24 } : Room).cells ({ frames := 2, cells := 0, slots := 0, locals := 24 } : Room).slots) := by
  refine MetFree.of_bodySF (plainFor_of_name own_pn6) hisR ?_
  intro p e s m args below meth c s₁ Bd hml0 hP hK
  obtain ⟨rfl, hZ, hh⟩ := hP
  have hx := Bd.exec
  have hby := Bd.bytes
  have hlk : meth.locks = false := BodyLoose.notSynchronized Bd
  have hml : c.maxLocals = 12 := hml0
  have hown : s.vm.findClass "com/example/cast3/cast3/Inbox$Run" = some m.cls := findClass_of_methodNamed Bd.named
  have hnm := (name_of_methodNamed Bd.named Bd.method).1
  have X0 : Stand p l e ({ frames := 2, cells := 0, slots := 0, locals := 24 } : Room) s m #[(.ref a1), (.long q0), (.long q1), (.long q2), (.long q3), (.long q4), (.ref fo)] below meth c s₁ [] 0 0 := Stand.of_body Bd
  have e0 : s₁.heap = h0 := by rw [← hh, Bd.state]; rfl
  have N0 := Fr.nil n0
  refine own_start (QQ := own_i_Run_Q Z a1 q0 q1 q2 q3 q4 fo u0 u1 u2 u3 u4 u5 h0 n0) (rc := ({ frames := 2, cells := 0, slots := 0, locals := 24 } : Room).cells) (rs := ({ frames := 2, cells := 0, slots := 0, locals := 24 } : Room).slots) (own_i_Run_ef m a1 q0 q1 q2 q3 q4 fo ) ?_
  show own_G p.tables e below _ (s₁.setTop (mkF m 0 #[.val (.ref a1), .val (.long q0), .second, .val (.long q1), .second, .val (.long q2), .second, .val (.long q3), .second, .val (.long q4), .second, .val (.ref fo)] []))
  refine own_fs (XS.aloadN X0.here hx rfl (hb hby own_d5_0) rfl rfl (Steps.refl _)) ?_
  show own_G p.tables e below _ (s₁.setTop (mkF m 1 #[.val (.ref a1), .val (.long q0), .second, .val (.long q1), .second, .val (.long q2), .second, .val (.long q3), .second, .val (.long q4), .second, .val (.ref fo)] [(.ref a1)]))
  have Zs3 : n0 ≤ h0.size := Z0
  obtain ⟨_, _, ⟨T2, L2, k2, n2⟩, -, X2, ⟨Lc2, hQ2, l2, y2, z2⟩, st2⟩ := X0.specialBack hx (y := (⟨"java/lang/Record", "<init>", "()V"⟩ : MethodName)) rfl hown (mvT hZ (hw _ (List.mem_of_getElem? (i := 33) rfl))) (mvT hZ (hw _ (List.mem_of_getElem? (i := 34) rfl))) (mvT hZ (hw _ (List.mem_of_getElem? (i := 37) rfl))) (by decide) (backOf (W := 0) (own_i_Record l Z a0 hw [] a1 h0 n0 Zs3 ) hZ (hw _ (List.mem_of_getElem? (i := 37) rfl)) (hw _ (List.mem_of_getElem? (i := 36) rfl)) (by decide) (by decide)) (g := (mkF m 1 #[.val (.ref a1), .val (.long q0), .second, .val (.long q1), .second, .val (.long q2), .second, .val (.long q3), .second, .val (.long q4), .second, .val (.ref fo)] [(.ref a1)])) rfl (by rw [hml]; rfl) (Steps.refl _) (a := a1) (argsL := []) (rest := []) (lenOf own_pd0 rfl) rfl (by show 2 * 0 + _ ≤ _; exact Nat.le_of_eq rfl) (hb hby own_d5_1) (fun _ _ => ⟨rfl, e0, (by decide : 0 + 0 ≤ _), (by decide : 0 + 0 ≤ _)⟩)
  dsimp only [Pt.U, Pt.locs, Pt.cells, Pt.slots] at X2 l2 y2 z2 st2 hQ2
  subst l2 y2 z2
  obtain ⟨rfl, Nq2, e2⟩ := hQ2
  have N2 := Fr.app N0 Nq2
  refine own_fs st2 ?_
  show own_G p.tables e below _ (T2.setTop (mkF m 4 #[.val (.ref a1), .val (.long q0), .second, .val (.long q1), .second, .val (.long q2), .second, .val (.long q3), .second, .val (.long q4), .second, .val (.ref fo)] []))
  refine own_fs (XS.aloadN X2.here hx rfl (hb hby own_d5_4) rfl rfl (Steps.refl _)) ?_
  show own_G p.tables e below _ (T2.setTop (mkF m 5 #[.val (.ref a1), .val (.long q0), .second, .val (.long q1), .second, .val (.long q2), .second, .val (.long q3), .second, .val (.long q4), .second, .val (.ref fo)] [(.ref a1)]))
  refine own_fs (XS.lloadN X2.here hx rfl (hb hby own_d5_5) rfl (Steps.refl _)) ?_
  show own_G p.tables e below _ (T2.setTop (mkF m 6 #[.val (.ref a1), .val (.long q0), .second, .val (.long q1), .second, .val (.long q2), .second, .val (.long q3), .second, .val (.long q4), .second, .val (.ref fo)] [(.long q0), (.ref a1)]))
  obtain ⟨T4, h4, X4, e4, W4, st4⟩ := putF X2 hx hZ hown (host := "") (Or.inl (hw _ (List.mem_of_getElem? (i := 39) rfl))) Via.refl e2 hF_post_a1 hE_a1 (Or.inr ⟨(hw _ (List.mem_of_getElem? (i := 40) rfl)), rfl, hnm⟩) (hw _ (List.mem_of_getElem? (i := 28) rfl)) (ty := .long) (by decide) rfl rfl (g := (mkF m 6 #[.val (.ref a1), .val (.long q0), .second, .val (.long q1), .second, .val (.long q2), .second, .val (.long q3), .second, .val (.long q4), .second, .val (.ref fo)] [(.long q0), (.ref a1)])) rfl rfl (hb hby own_d5_6)
  refine own_fs (st4 _ (Steps.refl _)) ?_
  have Fw4 := Fld.same W4 hF_post_a1
  have N4 := Fr.snoc X4 N2 ge_a1
  show own_G p.tables e below _ (T4.setTop (mkF m 9 #[.val (.ref a1), .val (.long q0), .second, .val (.long q1), .second, .val (.long q2), .second, .val (.long q3), .second, .val (.long q4), .second, .val (.ref fo)] []))
  refine own_fs (XS.aloadN X4.here hx rfl (hb hby own_d5_9) rfl rfl (Steps.refl _)) ?_
  show own_G p.tables e below _ (T4.setTop (mkF m 10 #[.val (.ref a1), .val (.long q0), .second, .val (.long q1), .second, .val (.long q2), .second, .val (.long q3), .second, .val (.long q4), .second, .val (.ref fo)] [(.ref a1)]))
  refine own_fs (XS.lloadN X4.here hx rfl (hb hby own_d5_10) rfl (Steps.refl _)) ?_
  show own_G p.tables e below _ (T4.setTop (mkF m 11 #[.val (.ref a1), .val (.long q0), .second, .val (.long q1), .second, .val (.long q2), .second, .val (.long q3), .second, .val (.long q4), .second, .val (.ref fo)] [(.long q1), (.ref a1)]))
  obtain ⟨T5, h5, X5, e5, W5, st5⟩ := putF X4 hx hZ hown (host := "") (Or.inl (hw _ (List.mem_of_getElem? (i := 41) rfl))) Via.refl e4 (Fld.other W4 hF_author_a1 (Or.inr (slot_ne (Or.inr (hw _ (List.mem_of_getElem? (i := 42) rfl))) (Or.inr (hw _ (List.mem_of_getElem? (i := 40) rfl))) (by decide) (t := .long) (t' := .long) (by decide) (by decide)))) (Exa.wr W4 hE_a1) (Or.inr ⟨(hw _ (List.mem_of_getElem? (i := 42) rfl)), rfl, hnm⟩) (hw _ (List.mem_of_getElem? (i := 28) rfl)) (ty := .long) (by decide) rfl rfl (g := (mkF m 11 #[.val (.ref a1), .val (.long q0), .second, .val (.long q1), .second, .val (.long q2), .second, .val (.long q3), .second, .val (.long q4), .second, .val (.ref fo)] [(.long q1), (.ref a1)])) rfl rfl (hb hby own_d5_11)
  refine own_fs (st5 _ (Steps.refl _)) ?_
  have Fw5 := Fld.same W5 (Fld.other W4 hF_author_a1 (Or.inr (slot_ne (Or.inr (hw _ (List.mem_of_getElem? (i := 42) rfl))) (Or.inr (hw _ (List.mem_of_getElem? (i := 40) rfl))) (by decide) (t := .long) (t' := .long) (by decide) (by decide))))
  have N5 := Fr.snoc X5 N4 ge_a1
  show own_G p.tables e below _ (T5.setTop (mkF m 14 #[.val (.ref a1), .val (.long q0), .second, .val (.long q1), .second, .val (.long q2), .second, .val (.long q3), .second, .val (.long q4), .second, .val (.ref fo)] []))
  refine own_fs (XS.aloadN X5.here hx rfl (hb hby own_d5_14) rfl rfl (Steps.refl _)) ?_
  show own_G p.tables e below _ (T5.setTop (mkF m 15 #[.val (.ref a1), .val (.long q0), .second, .val (.long q1), .second, .val (.long q2), .second, .val (.long q3), .second, .val (.long q4), .second, .val (.ref fo)] [(.ref a1)]))
  refine own_fs (XS.lload X5.here hx rfl (hb hby own_d5_15) rfl (Steps.refl _)) ?_
  show own_G p.tables e below _ (T5.setTop (mkF m 17 #[.val (.ref a1), .val (.long q0), .second, .val (.long q1), .second, .val (.long q2), .second, .val (.long q3), .second, .val (.long q4), .second, .val (.ref fo)] [(.long q2), (.ref a1)]))
  obtain ⟨T6, h6, X6, e6, W6, st6⟩ := putF X5 hx hZ hown (host := "") (Or.inl (hw _ (List.mem_of_getElem? (i := 43) rfl))) Via.refl e5 (Fld.other W5 (Fld.other W4 hF_publishedAt_a1 (Or.inr (slot_ne (Or.inr (hw _ (List.mem_of_getElem? (i := 44) rfl))) (Or.inr (hw _ (List.mem_of_getElem? (i := 40) rfl))) (by decide) (t := .long) (t' := .long) (by decide) (by decide)))) (Or.inr (slot_ne (Or.inr (hw _ (List.mem_of_getElem? (i := 44) rfl))) (Or.inr (hw _ (List.mem_of_getElem? (i := 42) rfl))) (by decide) (t := .long) (t' := .long) (by decide) (by decide)))) (Exa.wr W5 (Exa.wr W4 hE_a1)) (Or.inr ⟨(hw _ (List.mem_of_getElem? (i := 44) rfl)), rfl, hnm⟩) (hw _ (List.mem_of_getElem? (i := 28) rfl)) (ty := .long) (by decide) rfl rfl (g := (mkF m 17 #[.val (.ref a1), .val (.long q0), .second, .val (.long q1), .second, .val (.long q2), .second, .val (.long q3), .second, .val (.long q4), .second, .val (.ref fo)] [(.long q2), (.ref a1)])) rfl rfl (hb hby own_d5_17)
  refine own_fs (st6 _ (Steps.refl _)) ?_
  have Fw6 := Fld.same W6 (Fld.other W5 (Fld.other W4 hF_publishedAt_a1 (Or.inr (slot_ne (Or.inr (hw _ (List.mem_of_getElem? (i := 44) rfl))) (Or.inr (hw _ (List.mem_of_getElem? (i := 40) rfl))) (by decide) (t := .long) (t' := .long) (by decide) (by decide)))) (Or.inr (slot_ne (Or.inr (hw _ (List.mem_of_getElem? (i := 44) rfl))) (Or.inr (hw _ (List.mem_of_getElem? (i := 42) rfl))) (by decide) (t := .long) (t' := .long) (by decide) (by decide))))
  have N6 := Fr.snoc X6 N5 ge_a1
  show own_G p.tables e below _ (T6.setTop (mkF m 20 #[.val (.ref a1), .val (.long q0), .second, .val (.long q1), .second, .val (.long q2), .second, .val (.long q3), .second, .val (.long q4), .second, .val (.ref fo)] []))
  refine own_fs (XS.aloadN X6.here hx rfl (hb hby own_d5_20) rfl rfl (Steps.refl _)) ?_
  show own_G p.tables e below _ (T6.setTop (mkF m 21 #[.val (.ref a1), .val (.long q0), .second, .val (.long q1), .second, .val (.long q2), .second, .val (.long q3), .second, .val (.long q4), .second, .val (.ref fo)] [(.ref a1)]))
  refine own_fs (XS.lload X6.here hx rfl (hb hby own_d5_21) rfl (Steps.refl _)) ?_
  show own_G p.tables e below _ (T6.setTop (mkF m 23 #[.val (.ref a1), .val (.long q0), .second, .val (.long q1), .second, .val (.long q2), .second, .val (.long q3), .second, .val (.long q4), .second, .val (.ref fo)] [(.long q3), (.ref a1)]))
  obtain ⟨T7, h7, X7, e7, W7, st7⟩ := putF X6 hx hZ hown (host := "") (Or.inl (hw _ (List.mem_of_getElem? (i := 45) rfl))) Via.refl e6 (Fld.other W6 (Fld.other W5 (Fld.other W4 hF_from_a1 (Or.inr (slot_ne (Or.inr (hw _ (List.mem_of_getElem? (i := 46) rfl))) (Or.inr (hw _ (List.mem_of_getElem? (i := 40) rfl))) (by decide) (t := .long) (t' := .long) (by decide) (by decide)))) (Or.inr (slot_ne (Or.inr (hw _ (List.mem_of_getElem? (i := 46) rfl))) (Or.inr (hw _ (List.mem_of_getElem? (i := 42) rfl))) (by decide) (t := .long) (t' := .long) (by decide) (by decide)))) (Or.inr (slot_ne (Or.inr (hw _ (List.mem_of_getElem? (i := 46) rfl))) (Or.inr (hw _ (List.mem_of_getElem? (i := 44) rfl))) (by decide) (t := .long) (t' := .long) (by decide) (by decide)))) (Exa.wr W6 (Exa.wr W5 (Exa.wr W4 hE_a1))) (Or.inr ⟨(hw _ (List.mem_of_getElem? (i := 46) rfl)), rfl, hnm⟩) (hw _ (List.mem_of_getElem? (i := 28) rfl)) (ty := .long) (by decide) rfl rfl (g := (mkF m 23 #[.val (.ref a1), .val (.long q0), .second, .val (.long q1), .second, .val (.long q2), .second, .val (.long q3), .second, .val (.long q4), .second, .val (.ref fo)] [(.long q3), (.ref a1)])) rfl rfl (hb hby own_d5_23)
  refine own_fs (st7 _ (Steps.refl _)) ?_
  have Fw7 := Fld.same W7 (Fld.other W6 (Fld.other W5 (Fld.other W4 hF_from_a1 (Or.inr (slot_ne (Or.inr (hw _ (List.mem_of_getElem? (i := 46) rfl))) (Or.inr (hw _ (List.mem_of_getElem? (i := 40) rfl))) (by decide) (t := .long) (t' := .long) (by decide) (by decide)))) (Or.inr (slot_ne (Or.inr (hw _ (List.mem_of_getElem? (i := 46) rfl))) (Or.inr (hw _ (List.mem_of_getElem? (i := 42) rfl))) (by decide) (t := .long) (t' := .long) (by decide) (by decide)))) (Or.inr (slot_ne (Or.inr (hw _ (List.mem_of_getElem? (i := 46) rfl))) (Or.inr (hw _ (List.mem_of_getElem? (i := 44) rfl))) (by decide) (t := .long) (t' := .long) (by decide) (by decide))))
  have N7 := Fr.snoc X7 N6 ge_a1
  show own_G p.tables e below _ (T7.setTop (mkF m 26 #[.val (.ref a1), .val (.long q0), .second, .val (.long q1), .second, .val (.long q2), .second, .val (.long q3), .second, .val (.long q4), .second, .val (.ref fo)] []))
  refine own_fs (XS.aloadN X7.here hx rfl (hb hby own_d5_26) rfl rfl (Steps.refl _)) ?_
  show own_G p.tables e below _ (T7.setTop (mkF m 27 #[.val (.ref a1), .val (.long q0), .second, .val (.long q1), .second, .val (.long q2), .second, .val (.long q3), .second, .val (.long q4), .second, .val (.ref fo)] [(.ref a1)]))
  refine own_fs (XS.lload X7.here hx rfl (hb hby own_d5_27) rfl (Steps.refl _)) ?_
  show own_G p.tables e below _ (T7.setTop (mkF m 29 #[.val (.ref a1), .val (.long q0), .second, .val (.long q1), .second, .val (.long q2), .second, .val (.long q3), .second, .val (.long q4), .second, .val (.ref fo)] [(.long q4), (.ref a1)]))
  obtain ⟨T8, h8, X8, e8, W8, st8⟩ := putF X7 hx hZ hown (host := "") (Or.inl (hw _ (List.mem_of_getElem? (i := 47) rfl))) Via.refl e7 (Fld.other W7 (Fld.other W6 (Fld.other W5 (Fld.other W4 hF_to_a1 (Or.inr (slot_ne (Or.inr (hw _ (List.mem_of_getElem? (i := 48) rfl))) (Or.inr (hw _ (List.mem_of_getElem? (i := 40) rfl))) (by decide) (t := .long) (t' := .long) (by decide) (by decide)))) (Or.inr (slot_ne (Or.inr (hw _ (List.mem_of_getElem? (i := 48) rfl))) (Or.inr (hw _ (List.mem_of_getElem? (i := 42) rfl))) (by decide) (t := .long) (t' := .long) (by decide) (by decide)))) (Or.inr (slot_ne (Or.inr (hw _ (List.mem_of_getElem? (i := 48) rfl))) (Or.inr (hw _ (List.mem_of_getElem? (i := 44) rfl))) (by decide) (t := .long) (t' := .long) (by decide) (by decide)))) (Or.inr (slot_ne (Or.inr (hw _ (List.mem_of_getElem? (i := 48) rfl))) (Or.inr (hw _ (List.mem_of_getElem? (i := 46) rfl))) (by decide) (t := .long) (t' := .long) (by decide) (by decide)))) (Exa.wr W7 (Exa.wr W6 (Exa.wr W5 (Exa.wr W4 hE_a1)))) (Or.inr ⟨(hw _ (List.mem_of_getElem? (i := 48) rfl)), rfl, hnm⟩) (hw _ (List.mem_of_getElem? (i := 28) rfl)) (ty := .long) (by decide) rfl rfl (g := (mkF m 29 #[.val (.ref a1), .val (.long q0), .second, .val (.long q1), .second, .val (.long q2), .second, .val (.long q3), .second, .val (.long q4), .second, .val (.ref fo)] [(.long q4), (.ref a1)])) rfl rfl (hb hby own_d5_29)
  refine own_fs (st8 _ (Steps.refl _)) ?_
  have Fw8 := Fld.same W8 (Fld.other W7 (Fld.other W6 (Fld.other W5 (Fld.other W4 hF_to_a1 (Or.inr (slot_ne (Or.inr (hw _ (List.mem_of_getElem? (i := 48) rfl))) (Or.inr (hw _ (List.mem_of_getElem? (i := 40) rfl))) (by decide) (t := .long) (t' := .long) (by decide) (by decide)))) (Or.inr (slot_ne (Or.inr (hw _ (List.mem_of_getElem? (i := 48) rfl))) (Or.inr (hw _ (List.mem_of_getElem? (i := 42) rfl))) (by decide) (t := .long) (t' := .long) (by decide) (by decide)))) (Or.inr (slot_ne (Or.inr (hw _ (List.mem_of_getElem? (i := 48) rfl))) (Or.inr (hw _ (List.mem_of_getElem? (i := 44) rfl))) (by decide) (t := .long) (t' := .long) (by decide) (by decide)))) (Or.inr (slot_ne (Or.inr (hw _ (List.mem_of_getElem? (i := 48) rfl))) (Or.inr (hw _ (List.mem_of_getElem? (i := 46) rfl))) (by decide) (t := .long) (t' := .long) (by decide) (by decide))))
  have N8 := Fr.snoc X8 N7 ge_a1
  show own_G p.tables e below _ (T8.setTop (mkF m 32 #[.val (.ref a1), .val (.long q0), .second, .val (.long q1), .second, .val (.long q2), .second, .val (.long q3), .second, .val (.long q4), .second, .val (.ref fo)] []))
  refine own_fs (XS.aloadN X8.here hx rfl (hb hby own_d5_32) rfl rfl (Steps.refl _)) ?_
  show own_G p.tables e below _ (T8.setTop (mkF m 33 #[.val (.ref a1), .val (.long q0), .second, .val (.long q1), .second, .val (.long q2), .second, .val (.long q3), .second, .val (.long q4), .second, .val (.ref fo)] [(.ref a1)]))
  refine own_fs (XS.aload X8.here hx rfl (hb hby own_d5_33) rfl rfl (Steps.refl _)) ?_
  show own_G p.tables e below _ (T8.setTop (mkF m 35 #[.val (.ref a1), .val (.long q0), .second, .val (.long q1), .second, .val (.long q2), .second, .val (.long q3), .second, .val (.long q4), .second, .val (.ref fo)] [(.ref fo), (.ref a1)]))
  obtain ⟨T9, h9, X9, e9, W9, st9⟩ := putF X8 hx hZ hown (host := "") (Or.inl (hw _ (List.mem_of_getElem? (i := 49) rfl))) Via.refl e8 (Fld.other W8 (Fld.other W7 (Fld.other W6 (Fld.other W5 (Fld.other W4 hF_followers_a1 (Or.inr (slot_ne (Or.inr (hw _ (List.mem_of_getElem? (i := 50) rfl))) (Or.inr (hw _ (List.mem_of_getElem? (i := 40) rfl))) (by decide) (t := (.object "java/util/List")) (t' := .long) (by decide) (by decide)))) (Or.inr (slot_ne (Or.inr (hw _ (List.mem_of_getElem? (i := 50) rfl))) (Or.inr (hw _ (List.mem_of_getElem? (i := 42) rfl))) (by decide) (t := (.object "java/util/List")) (t' := .long) (by decide) (by decide)))) (Or.inr (slot_ne (Or.inr (hw _ (List.mem_of_getElem? (i := 50) rfl))) (Or.inr (hw _ (List.mem_of_getElem? (i := 44) rfl))) (by decide) (t := (.object "java/util/List")) (t' := .long) (by decide) (by decide)))) (Or.inr (slot_ne (Or.inr (hw _ (List.mem_of_getElem? (i := 50) rfl))) (Or.inr (hw _ (List.mem_of_getElem? (i := 46) rfl))) (by decide) (t := (.object "java/util/List")) (t' := .long) (by decide) (by decide)))) (Or.inr (slot_ne (Or.inr (hw _ (List.mem_of_getElem? (i := 50) rfl))) (Or.inr (hw _ (List.mem_of_getElem? (i := 48) rfl))) (by decide) (t := (.object "java/util/List")) (t' := .long) (by decide) (by decide)))) (Exa.wr W8 (Exa.wr W7 (Exa.wr W6 (Exa.wr W5 (Exa.wr W4 hE_a1))))) (Or.inr ⟨(hw _ (List.mem_of_getElem? (i := 50) rfl)), rfl, hnm⟩) (hw _ (List.mem_of_getElem? (i := 28) rfl)) (ty := (.object "java/util/List")) (by decide) rfl rfl (g := (mkF m 35 #[.val (.ref a1), .val (.long q0), .second, .val (.long q1), .second, .val (.long q2), .second, .val (.long q3), .second, .val (.long q4), .second, .val (.ref fo)] [(.ref fo), (.ref a1)])) rfl rfl (hb hby own_d5_35)
  refine own_fs (st9 _ (Steps.refl _)) ?_
  have Fw9 := Fld.same W9 (Fld.other W8 (Fld.other W7 (Fld.other W6 (Fld.other W5 (Fld.other W4 hF_followers_a1 (Or.inr (slot_ne (Or.inr (hw _ (List.mem_of_getElem? (i := 50) rfl))) (Or.inr (hw _ (List.mem_of_getElem? (i := 40) rfl))) (by decide) (t := (.object "java/util/List")) (t' := .long) (by decide) (by decide)))) (Or.inr (slot_ne (Or.inr (hw _ (List.mem_of_getElem? (i := 50) rfl))) (Or.inr (hw _ (List.mem_of_getElem? (i := 42) rfl))) (by decide) (t := (.object "java/util/List")) (t' := .long) (by decide) (by decide)))) (Or.inr (slot_ne (Or.inr (hw _ (List.mem_of_getElem? (i := 50) rfl))) (Or.inr (hw _ (List.mem_of_getElem? (i := 44) rfl))) (by decide) (t := (.object "java/util/List")) (t' := .long) (by decide) (by decide)))) (Or.inr (slot_ne (Or.inr (hw _ (List.mem_of_getElem? (i := 50) rfl))) (Or.inr (hw _ (List.mem_of_getElem? (i := 46) rfl))) (by decide) (t := (.object "java/util/List")) (t' := .long) (by decide) (by decide)))) (Or.inr (slot_ne (Or.inr (hw _ (List.mem_of_getElem? (i := 50) rfl))) (Or.inr (hw _ (List.mem_of_getElem? (i := 48) rfl))) (by decide) (t := (.object "java/util/List")) (t' := .long) (by decide) (by decide))))
  have N9 := Fr.snoc X9 N8 ge_a1
  show own_G p.tables e below _ (T9.setTop (mkF m 38 #[.val (.ref a1), .val (.long q0), .second, .val (.long q1), .second, .val (.long q2), .second, .val (.long q3), .second, .val (.long q4), .second, .val (.ref fo)] []))
  exact own_retV X9 hx Bd.returns hlk (hb hby own_d5_38) (by decide) (by decide) e9 ⟨rfl, N9, (((((((Keep.refl _ _).wr W4 (Or.inl (List.mem_of_getElem? (i := 0) rfl))).wr W5 (Or.inl (List.mem_of_getElem? (i := 0) rfl))).wr W6 (Or.inl (List.mem_of_getElem? (i := 0) rfl))).wr W7 (Or.inl (List.mem_of_getElem? (i := 0) rfl))).wr W8 (Or.inl (List.mem_of_getElem? (i := 0) rfl))).wr W9 (Or.inl (List.mem_of_getElem? (i := 0) rfl))), (Fld.other W9 Fw8 (Or.inr (slot_ne (Or.inr (hw _ (List.mem_of_getElem? (i := 48) rfl))) (Or.inr (hw _ (List.mem_of_getElem? (i := 50) rfl))) (by decide) (t := .long) (t' := (.object "java/util/List")) (by decide) (by decide))))⟩
theorem own_rlast_ef (m : MethodId) (x0 : Addr) : entryFrame m #[(.ref x0)] 1 = mkF m 0 #[.val (.ref x0)] [] := by first | (simp [entryFrame, mkF, argsToLocals, Value.category]; done) | rfl
def own_rlast_Q (Z : State) (a1 : Addr) (q1 : Int64) (h0 : Heap) (n0 : Nat) (v : Option Value) (h : Heap) (L : List Loc) : Prop := (v = some (.int (own_last q1)) ∧ Fr n0 L ∧ h = h0)
set_option maxRecDepth 65536 in
set_option maxHeartbeats 40000000 in
theorem own_rlast (l : Launch) (Z : State) (a0 : Array Value) (hw : ∀ d ∈ tables_1, d.before a0 Z = true) (ws : List Jvm.Cond) (a1 : Addr) (q1 : Int64) (h0 : Heap) (n0 : Nat) (Z0 : n0 ≤ h0.size) (hF_to_a1 : Fld Z h0 a1 "com/example/cast3/cast3/Inbox$Run" "to" "J" (.long q1)) :
    MetFree l (⟨"com/example/cast3/cast3/Inbox$Run", "last", "()Z"⟩ : MethodName) (head1 (Jvm.Cond.code (⟨"com/example/cast3/cast3/Inbox$Run", "last", "()Z"⟩ : MethodName) prog_6_method_2_code 1 (some .boolean) :: ws) ({ frames := 0, cells := 0, slots := 0, locals := 0 } : Room)) (fun a U => a = #[(.ref a1)] ∧ Z.Warmed39 U.vm ∧ U.heap = h0) (fun _ _ _ _ _ => True) (fun _ U o U' => ∃ v L, o = .returned v ∧ own_rlast_Q Z a1 q1 h0 n0 v U'.heap L ∧ FrameEnd U o U' L ({ frames := 0, cells := 0, slots := 0, locals := 0 } : Room).cells ({ frames := 0, cells := 0, slots := 0, locals := 0 } : Room).slots) := by
  refine MetFree.of_bodySF (plainFor_of_name own_pn6) hisR ?_
  intro p e s m args below meth c s₁ Bd hml0 hP hK
  obtain ⟨rfl, hZ, hh⟩ := hP
  have hx := Bd.exec
  have hby := Bd.bytes
  have hlk : meth.locks = false := BodyLoose.notSynchronized Bd
  have hml : c.maxLocals = 1 := hml0
  have hown : s.vm.findClass "com/example/cast3/cast3/Inbox$Run" = some m.cls := findClass_of_methodNamed Bd.named
  have hnm := (name_of_methodNamed Bd.named Bd.method).1
  have X0 : Stand p l e ({ frames := 0, cells := 0, slots := 0, locals := 0 } : Room) s m #[(.ref a1)] below meth c s₁ [] 0 0 := Stand.of_body Bd
  have e0 : s₁.heap = h0 := by rw [← hh, Bd.state]; rfl
  have N0 := Fr.nil n0
  refine own_start (QQ := own_rlast_Q Z a1 q1 h0 n0) (rc := ({ frames := 0, cells := 0, slots := 0, locals := 0 } : Room).cells) (rs := ({ frames := 0, cells := 0, slots := 0, locals := 0 } : Room).slots) (own_rlast_ef m a1 ) ?_
  show own_G p.tables e below _ (s₁.setTop (mkF m 0 #[.val (.ref a1)] []))
  refine own_fs (XS.aloadN X0.here hx rfl (hb hby own_d7_0) rfl rfl (Steps.refl _)) ?_
  show own_G p.tables e below _ (s₁.setTop (mkF m 1 #[.val (.ref a1)] [(.ref a1)]))
  obtain ⟨T1, X1, e1, st1⟩ := getF X0 hx hZ hown (host := "") (Or.inl (hw _ (List.mem_of_getElem? (i := 47) rfl))) Via.refl e0 hF_to_a1 (g := (mkF m 1 #[.val (.ref a1)] [(.ref a1)])) rfl rfl (hb hby own_d7_1)
  refine own_fs (st1 _ (Steps.refl _)) ?_
  show own_G p.tables e below _ (T1.setTop (mkF m 4 #[.val (.ref a1)] [(.long q1)]))
  refine own_fs (X1.ldc2Long hx hown (mvT hZ (hw _ (List.mem_of_getElem? (i := 57) rfl))) (g := (mkF m 4 #[.val (.ref a1)] [(.long q1)])) rfl (hb hby own_d7_4) _ (Steps.refl _)) ?_
  show own_G p.tables e below _ (T1.setTop (mkF m 7 #[.val (.ref a1)] [(.long (9223372036854775807 : Int64)), (.long q1)]))
  refine own_fs (XT.lcmp X1.here hx rfl (hb hby own_d7_7) rfl (Steps.refl _)) ?_
  show own_G p.tables e below _ (T1.setTop (mkF m 8 #[.val (.ref a1)] [(.int (XT.cmpL q1 (9223372036854775807 : Int64)))]))
  by_cases hc8 : q1 = (9223372036854775807 : Int64)
  · refine own_fs (XS.ifNo X1.here hx rfl (hb hby own_d7_8) rfl (XT.ll_ne_f hc8) (Steps.refl _)) ?_
    show own_G p.tables e below _ (T1.setTop (mkF m 11 #[.val (.ref a1)] []))
    refine own_fs (XS.iconst X1.here hx rfl (hb hby own_d7_11) (Steps.refl _)) ?_
    show own_G p.tables e below _ (T1.setTop (mkF m 12 #[.val (.ref a1)] [(.int (1 : Int32))]))
    refine own_fs (XS.goto X1.here hx rfl (pc0 := 12) (pc' := 16) rfl (hb hby own_d7_12) (by decide) (by decide) (Steps.refl _)) ?_
    show own_G p.tables e below _ (T1.setTop (mkF m 16 #[.val (.ref a1)] [(.int (1 : Int32))]))
    exact own_retN X1 hx (t := .boolean) Bd.returns hlk (by simp) (hb hby own_d7_16) (by decide) (by decide) e1 ⟨(by simp only [own_last, own_nar0, own_nar1, if_pos hc8]), N0, rfl⟩
  · refine own_fs (XS.ifYes X1.here hx rfl (pc0 := 8) (pc' := 15) rfl (hb hby own_d7_8) rfl (XT.ll_ne_t hc8) (by decide) (by decide) (Steps.refl _)) ?_
    show own_G p.tables e below _ (T1.setTop (mkF m 15 #[.val (.ref a1)] []))
    refine own_fs (XS.iconst X1.here hx rfl (hb hby own_d7_15) (Steps.refl _)) ?_
    show own_G p.tables e below _ (T1.setTop (mkF m 16 #[.val (.ref a1)] [(.int (0 : Int32))]))
    exact own_retN X1 hx (t := .boolean) Bd.returns hlk (by simp) (hb hby own_d7_16) (by decide) (by decide) e1 ⟨(by simp only [own_last, own_nar0, own_nar1, if_neg hc8]), N0, rfl⟩
theorem own_law_ef (m : MethodId) (x0 : Int64) (x1 : Int64) (x2 : Int64) (x3 : Int64) (x4 : Int64) (x5 : Int32) : entryFrame m #[(.long x0), (.long x1), (.long x2), (.long x3), (.long x4), (.int x5)] maxLocals = mkF m 0 #[.val (.long x0), .second, .val (.long x1), .second, .val (.long x2), .second, .val (.long x3), .second, .val (.long x4), .second, .val (.int x5), .unset, .unset, .unset, .unset, .unset, .unset] [] := by first | (simp [entryFrame, mkF, argsToLocals, Value.category, maxLocals]; done) | rfl
def own_law_Q (Z : State) (q0 : Int64) (q1 : Int64) (q2 : Int64) (q3 : Int64) (q4 : Int64) (md : Int32) (cb : Addr) (cc : Cell) (db : Addr) (dc : Cell) (h0 : Heap) (n0 : Nat) (v : Option Value) (h : Heap) (L : List Loc) : Prop := (v = some (.int (1 : Int32)) ∧ Fr n0 L)
set_option maxRecDepth 65536 in
set_option maxHeartbeats 40000000 in
theorem own_law (l : Launch) (Z : State) (a0 : Array Value) (hw : ∀ d ∈ tables_1, d.before a0 Z = true) (ws : List Jvm.Cond) (q0 : Int64) (q1 : Int64) (q2 : Int64) (q3 : Int64) (q4 : Int64) (md : Int32) (cb : Addr) (cc : Cell) (db : Addr) (dc : Cell) (h0 : Heap) (n0 : Nat) (Z0 : n0 ≤ h0.size) (hSta : Sta Z Z.heap "java/lang/Long$LongCache" "cache" "[Ljava/lang/Long;" (.ref cb)) (hBx : Bxs Z cb cc "java/lang/Long" "J" (256 : Int32) own_bv) (hDef : own_Def Z db dc) (hOld : Old Z n0 h0) :
    MetFree l x (head1 (Jvm.Cond.code x code maxLocals ret :: ws) room_1) (fun a U => a = #[(.long q0), (.long q1), (.long q2), (.long q3), (.long q4), (.int md)] ∧ Z.Warmed39 U.vm ∧ U.heap = h0) (fun _ _ _ _ _ => True) (fun _ U o U' => ∃ v L, o = .returned v ∧ own_law_Q Z q0 q1 q2 q3 q4 md cb cc db dc h0 n0 v U'.heap L ∧ FrameEnd U o U' L room_1.cells room_1.slots) := by
  refine MetFree.of_bodySF (plainFor_of_name own_pn7) hisR ?_
  intro p e s m args below meth c s₁ Bd hml0 hP hK
  obtain ⟨rfl, hZ, hh⟩ := hP
  have hx := Bd.exec
  have hby := Bd.bytes
  have hlk : meth.locks = false := BodyLoose.notSynchronized Bd
  have hml : c.maxLocals = 17 := hml0
  have hown : s.vm.findClass "com/example/cast3/cast3/RunLastPinLaw" = some m.cls := findClass_of_methodNamed Bd.named
  have hnm := (name_of_methodNamed Bd.named Bd.method).1
  have X0 : Stand p l e room_1 s m #[(.long q0), (.long q1), (.long q2), (.long q3), (.long q4), (.int md)] below meth c s₁ [] 0 0 := Stand.of_body Bd
  have e0 : s₁.heap = h0 := by rw [← hh, Bd.state]; rfl
  have N0 := Fr.nil n0
  refine own_start (QQ := own_law_Q Z q0 q1 q2 q3 q4 md cb cc db dc h0 n0) (rc := room_1.cells) (rs := room_1.slots) (own_law_ef m q0 q1 q2 q3 q4 md ) ?_
  show own_G p.tables e below _ (s₁.setTop (mkF m 0 #[.val (.long q0), .second, .val (.long q1), .second, .val (.long q2), .second, .val (.long q3), .second, .val (.long q4), .second, .val (.int md), .unset, .unset, .unset, .unset, .unset, .unset] []))
  refine own_fs (XS.iload X0.here hx rfl (hb hby at_0) rfl (Steps.refl _)) ?_
  show own_G p.tables e below _ (s₁.setTop (mkF m 2 #[.val (.long q0), .second, .val (.long q1), .second, .val (.long q2), .second, .val (.long q3), .second, .val (.long q4), .second, .val (.int md), .unset, .unset, .unset, .unset, .unset, .unset] [(.int md)]))
  refine own_fs (XS.iconst X0.here hx rfl (hb hby at_2) (Steps.refl _)) ?_
  show own_G p.tables e below _ (s₁.setTop (mkF m 3 #[.val (.long q0), .second, .val (.long q1), .second, .val (.long q2), .second, .val (.long q3), .second, .val (.long q4), .second, .val (.int md), .unset, .unset, .unset, .unset, .unset, .unset] [(.int (3 : Int32)), (.int md)]))
  refine own_fs (XS.iand X0.here hx rfl (hb hby at_3) rfl (Steps.refl _)) ?_
  show own_G p.tables e below _ (s₁.setTop (mkF m 4 #[.val (.long q0), .second, .val (.long q1), .second, .val (.long q2), .second, .val (.long q3), .second, .val (.long q4), .second, .val (.int md), .unset, .unset, .unset, .unset, .unset, .unset] [(.int (md &&& (3 : Int32)))]))
  refine own_fs (XS.istore X0.here hx rfl (hb hby at_4) rfl (l' := #[.val (.long q0), .second, .val (.long q1), .second, .val (.long q2), .second, .val (.long q3), .second, .val (.long q4), .second, .val (.int md), .val (.int (md &&& (3 : Int32))), .unset, .unset, .unset, .unset, .unset]) rfl (Steps.refl _)) ?_
  show own_G p.tables e below _ (s₁.setTop (mkF m 6 #[.val (.long q0), .second, .val (.long q1), .second, .val (.long q2), .second, .val (.long q3), .second, .val (.long q4), .second, .val (.int md), .val (.int (md &&& (3 : Int32))), .unset, .unset, .unset, .unset, .unset] []))
  generalize hg_mm : (md &&& (3 : Int32)) = mm
  have J51 : ∀ (tq : Int64), own_G p.tables e below (own_P s (own_law_Q Z q0 q1 q2 q3 q4 md cb cc db dc h0 n0) room_1.cells room_1.slots) (s₁.setTop (mkF m 51 #[.val (.long q0), .second, .val (.long q1), .second, .val (.long q2), .second, .val (.long q3), .second, .val (.long q4), .second, .val (.int md), .val (.int mm), .val (.long tq), .second, .unset, .unset, .unset] [])) := by
    intro tq
    show own_G p.tables e below _ (s₁.setTop (mkF m 51 #[.val (.long q0), .second, .val (.long q1), .second, .val (.long q2), .second, .val (.long q3), .second, .val (.long q4), .second, .val (.int md), .val (.int mm), .val (.long tq), .second, .unset, .unset, .unset] []))
    obtain ⟨T1, h1, X1, e1, E1, A1, D1, -, st1⟩ := newO X0 hx hZ hown (hw _ (List.mem_of_getElem? (i := 1) rfl)) (hw _ (List.mem_of_getElem? (i := 2) rfl)) (hw _ (List.mem_of_getElem? (i := 3) rfl)) e0 (g := (mkF m 51 #[.val (.long q0), .second, .val (.long q1), .second, .val (.long q2), .second, .val (.long q3), .second, .val (.long q4), .second, .val (.int md), .val (.int mm), .val (.long tq), .second, .unset, .unset, .unset] [])) rfl (hb hby at_51) (by decide) (by decide)
    obtain ⟨b1, g1⟩ : ∃ z, z = h0.size := ⟨_, rfl⟩
    rw [← g1] at A1 D1 st1
    have ge_b1 : n0 ≤ b1 := Nat.le_trans Z0 (Nat.le_of_eq g1.symm)
    have gz_b1 : h0.size ≤ b1 := Nat.le_trans (Nat.le_refl _) (Nat.le_of_eq g1.symm)
    have F_modCount_b1 : Fld Z h1 b1 "java/util/AbstractList" "modCount" "I" (.int (0 : Int32)) := D1 (Or.inl (hw _ (List.mem_of_getElem? (i := 23) rfl))) (ty := .int) (by decide)
    have F_elementData_b1 : Fld Z h1 b1 "java/util/ArrayList" "elementData" "[Ljava/lang/Object;" .null := D1 (Or.inl (hw _ (List.mem_of_getElem? (i := 26) rfl))) (ty := (.array (.object "java/lang/Object"))) (by decide)
    have F_size_b1 : Fld Z h1 b1 "java/util/ArrayList" "size" "I" (.int (0 : Int32)) := D1 (Or.inl (hw _ (List.mem_of_getElem? (i := 74) rfl))) (ty := .int) (by decide)
    refine own_fs (st1 _ (Steps.refl _)) ?_
    show own_G p.tables e below _ (T1.setTop (mkF m 54 #[.val (.long q0), .second, .val (.long q1), .second, .val (.long q2), .second, .val (.long q3), .second, .val (.long q4), .second, .val (.int md), .val (.int mm), .val (.long tq), .second, .unset, .unset, .unset] [(.ref b1)]))
    refine own_fs (XS.dup X1.here hx rfl (hb hby at_54) rfl rfl (Steps.refl _)) ?_
    show own_G p.tables e below _ (T1.setTop (mkF m 55 #[.val (.long q0), .second, .val (.long q1), .second, .val (.long q2), .second, .val (.long q3), .second, .val (.long q4), .second, .val (.int md), .val (.int mm), .val (.long tq), .second, .unset, .unset, .unset] [(.ref b1), (.ref b1)]))
    have Zs4 : n0 ≤ h1.size := (Nat.le_trans Z0 E1.1)
    obtain ⟨_, _, ⟨T3, L3, k3, n3⟩, -, X3, ⟨Lc3, hQ3, l3, y3, z3⟩, st3⟩ := X1.specialBack hx (y := (⟨"java/util/ArrayList", "<init>", "()V"⟩ : MethodName)) rfl hown (mvT hZ (hw _ (List.mem_of_getElem? (i := 4) rfl))) (mvT hZ (hw _ (List.mem_of_getElem? (i := 5) rfl))) (mvT hZ (hw _ (List.mem_of_getElem? (i := 6) rfl))) (by decide) (backOf (W := 1) (own_i_ArrayList l Z a0 hw [] b1 (0 : Int32) (.null) (0 : Int32) db dc h1 n0 Zs4 A1 F_modCount_b1 F_elementData_b1 F_size_b1 ge_b1 hDef (Old.ext hOld E1)) hZ (hw _ (List.mem_of_getElem? (i := 6) rfl)) (hw _ (List.mem_of_getElem? (i := 3) rfl)) (by decide) (by decide)) (g := (mkF m 55 #[.val (.long q0), .second, .val (.long q1), .second, .val (.long q2), .second, .val (.long q3), .second, .val (.long q4), .second, .val (.int md), .val (.int mm), .val (.long tq), .second, .unset, .unset, .unset] [(.ref b1), (.ref b1)])) rfl (by rw [hml]; rfl) (Steps.refl _) (a := b1) (argsL := []) (rest := [(.ref b1)]) (lenOf own_pd0 rfl) rfl (by show 2 * 0 + _ ≤ _; exact Nat.le_of_eq rfl) (hb hby at_55) (fun _ _ => ⟨rfl, e1, (by decide : 1 + 0 ≤ _), (by decide : 3 + 0 ≤ _)⟩)
    dsimp only [Pt.U, Pt.locs, Pt.cells, Pt.slots] at X3 l3 y3 z3 st3 hQ3
    subst l3 y3 z3
    obtain ⟨h3, e3⟩ : ∃ h, T3.heap = h := ⟨_, rfl⟩
    rw [e3] at hQ3
    obtain ⟨rfl, Nq3, K3, P2_0, P2_1, P2_2⟩ := hQ3
    have N3 := Fr.app N0 Nq3
    refine own_fs st3 ?_
    show own_G p.tables e below _ (T3.setTop (mkF m 58 #[.val (.long q0), .second, .val (.long q1), .second, .val (.long q2), .second, .val (.long q3), .second, .val (.long q4), .second, .val (.int md), .val (.int mm), .val (.long tq), .second, .unset, .unset, .unset] [(.ref b1)]))
    refine own_fs (XS.astore X3.here hx rfl (hb hby at_58) rfl rfl (l' := #[.val (.long q0), .second, .val (.long q1), .second, .val (.long q2), .second, .val (.long q3), .second, .val (.long q4), .second, .val (.int md), .val (.int mm), .val (.long tq), .second, .val (.ref b1), .unset, .unset]) rfl (Steps.refl _)) ?_
    show own_G p.tables e below _ (T3.setTop (mkF m 60 #[.val (.long q0), .second, .val (.long q1), .second, .val (.long q2), .second, .val (.long q3), .second, .val (.long q4), .second, .val (.int md), .val (.int mm), .val (.long tq), .second, .val (.ref b1), .unset, .unset] []))
    refine own_fs (XS.iload X3.here hx rfl (hb hby at_60) rfl (Steps.refl _)) ?_
    show own_G p.tables e below _ (T3.setTop (mkF m 62 #[.val (.long q0), .second, .val (.long q1), .second, .val (.long q2), .second, .val (.long q3), .second, .val (.long q4), .second, .val (.int md), .val (.int mm), .val (.long tq), .second, .val (.ref b1), .unset, .unset] [(.int md)]))
    refine own_fs (XS.iconst X3.here hx rfl (hb hby at_62) (Steps.refl _)) ?_
    show own_G p.tables e below _ (T3.setTop (mkF m 63 #[.val (.long q0), .second, .val (.long q1), .second, .val (.long q2), .second, .val (.long q3), .second, .val (.long q4), .second, .val (.int md), .val (.int mm), .val (.long tq), .second, .val (.ref b1), .unset, .unset] [(.int (4 : Int32)), (.int md)]))
    refine own_fs (XS.iand X3.here hx rfl (hb hby at_63) rfl (Steps.refl _)) ?_
    show own_G p.tables e below _ (T3.setTop (mkF m 64 #[.val (.long q0), .second, .val (.long q1), .second, .val (.long q2), .second, .val (.long q3), .second, .val (.long q4), .second, .val (.int md), .val (.int mm), .val (.long tq), .second, .val (.ref b1), .unset, .unset] [(.int (md &&& (4 : Int32)))]))
    by_cases hc64 : (md &&& (4 : Int32)) = (0 : Int32)
    · refine own_fs (XS.ifYes X3.here hx rfl (pc0 := 64) (pc' := 78) rfl (hb hby at_64) rfl (XT.i0_eq_t hc64) (by decide) (by decide) (Steps.refl _)) ?_
      show own_G p.tables e below _ (T3.setTop (mkF m 78 #[.val (.long q0), .second, .val (.long q1), .second, .val (.long q2), .second, .val (.long q3), .second, .val (.long q4), .second, .val (.int md), .val (.int mm), .val (.long tq), .second, .val (.ref b1), .unset, .unset] []))
      obtain ⟨T5, h5, X5, e5, E5, A5, D5, -, st5⟩ := newO X3 hx hZ hown (hw _ (List.mem_of_getElem? (i := 27) rfl)) (hw _ (List.mem_of_getElem? (i := 28) rfl)) (hw _ (List.mem_of_getElem? (i := 29) rfl)) e3 (g := (mkF m 78 #[.val (.long q0), .second, .val (.long q1), .second, .val (.long q2), .second, .val (.long q3), .second, .val (.long q4), .second, .val (.int md), .val (.int mm), .val (.long tq), .second, .val (.ref b1), .unset, .unset] [])) rfl (hb hby at_78) (by decide) (by decide)
      obtain ⟨b5, g5⟩ : ∃ z, z = h3.size := ⟨_, rfl⟩
      rw [← g5] at A5 D5 st5
      have ge_b5 : n0 ≤ b5 := Nat.le_trans (Nat.le_trans (Nat.le_trans Z0 E1.1) K3.1) (Nat.le_of_eq g5.symm)
      have gz_b5 : h0.size ≤ b5 := Nat.le_trans (Nat.le_trans (Nat.le_trans (Nat.le_refl _) E1.1) K3.1) (Nat.le_of_eq g5.symm)
      have F_post_b5 : Fld Z h5 b5 "com/example/cast3/cast3/Inbox$Run" "post" "J" (.long (0 : Int64)) := D5 (Or.inr (hw _ (List.mem_of_getElem? (i := 40) rfl))) (ty := .long) (by decide)
      have F_author_b5 : Fld Z h5 b5 "com/example/cast3/cast3/Inbox$Run" "author" "J" (.long (0 : Int64)) := D5 (Or.inr (hw _ (List.mem_of_getElem? (i := 42) rfl))) (ty := .long) (by decide)
      have F_publishedAt_b5 : Fld Z h5 b5 "com/example/cast3/cast3/Inbox$Run" "publishedAt" "J" (.long (0 : Int64)) := D5 (Or.inr (hw _ (List.mem_of_getElem? (i := 44) rfl))) (ty := .long) (by decide)
      have F_from_b5 : Fld Z h5 b5 "com/example/cast3/cast3/Inbox$Run" "from" "J" (.long (0 : Int64)) := D5 (Or.inr (hw _ (List.mem_of_getElem? (i := 46) rfl))) (ty := .long) (by decide)
      have F_to_b5 : Fld Z h5 b5 "com/example/cast3/cast3/Inbox$Run" "to" "J" (.long (0 : Int64)) := D5 (Or.inr (hw _ (List.mem_of_getElem? (i := 48) rfl))) (ty := .long) (by decide)
      have F_followers_b5 : Fld Z h5 b5 "com/example/cast3/cast3/Inbox$Run" "followers" "Ljava/util/List;" .null := D5 (Or.inr (hw _ (List.mem_of_getElem? (i := 50) rfl))) (ty := (.object "java/util/List")) (by decide)
      refine own_fs (st5 _ (Steps.refl _)) ?_
      show own_G p.tables e below _ (T5.setTop (mkF m 81 #[.val (.long q0), .second, .val (.long q1), .second, .val (.long q2), .second, .val (.long q3), .second, .val (.long q4), .second, .val (.int md), .val (.int mm), .val (.long tq), .second, .val (.ref b1), .unset, .unset] [(.ref b5)]))
      refine own_fs (XS.dup X5.here hx rfl (hb hby at_81) rfl rfl (Steps.refl _)) ?_
      show own_G p.tables e below _ (T5.setTop (mkF m 82 #[.val (.long q0), .second, .val (.long q1), .second, .val (.long q2), .second, .val (.long q3), .second, .val (.long q4), .second, .val (.int md), .val (.int mm), .val (.long tq), .second, .val (.ref b1), .unset, .unset] [(.ref b5), (.ref b5)]))
      refine own_fs (XS.lloadN X5.here hx rfl (hb hby at_82) rfl (Steps.refl _)) ?_
      show own_G p.tables e below _ (T5.setTop (mkF m 83 #[.val (.long q0), .second, .val (.long q1), .second, .val (.long q2), .second, .val (.long q3), .second, .val (.long q4), .second, .val (.int md), .val (.int mm), .val (.long tq), .second, .val (.ref b1), .unset, .unset] [(.long q0), (.ref b5), (.ref b5)]))
      refine own_fs (XS.lloadN X5.here hx rfl (hb hby at_83) rfl (Steps.refl _)) ?_
      show own_G p.tables e below _ (T5.setTop (mkF m 84 #[.val (.long q0), .second, .val (.long q1), .second, .val (.long q2), .second, .val (.long q3), .second, .val (.long q4), .second, .val (.int md), .val (.int mm), .val (.long tq), .second, .val (.ref b1), .unset, .unset] [(.long q1), (.long q0), (.ref b5), (.ref b5)]))
      refine own_fs (XS.lload X5.here hx rfl (hb hby at_84) rfl (Steps.refl _)) ?_
      show own_G p.tables e below _ (T5.setTop (mkF m 86 #[.val (.long q0), .second, .val (.long q1), .second, .val (.long q2), .second, .val (.long q3), .second, .val (.long q4), .second, .val (.int md), .val (.int mm), .val (.long tq), .second, .val (.ref b1), .unset, .unset] [(.long q2), (.long q1), (.long q0), (.ref b5), (.ref b5)]))
      refine own_fs (XS.lload X5.here hx rfl (hb hby at_86) rfl (Steps.refl _)) ?_
      show own_G p.tables e below _ (T5.setTop (mkF m 88 #[.val (.long q0), .second, .val (.long q1), .second, .val (.long q2), .second, .val (.long q3), .second, .val (.long q4), .second, .val (.int md), .val (.int mm), .val (.long tq), .second, .val (.ref b1), .unset, .unset] [(.long q3), (.long q2), (.long q1), (.long q0), (.ref b5), (.ref b5)]))
      refine own_fs (XS.lload X5.here hx rfl (hb hby at_88) rfl (Steps.refl _)) ?_
      show own_G p.tables e below _ (T5.setTop (mkF m 90 #[.val (.long q0), .second, .val (.long q1), .second, .val (.long q2), .second, .val (.long q3), .second, .val (.long q4), .second, .val (.int md), .val (.int mm), .val (.long tq), .second, .val (.ref b1), .unset, .unset] [(.long tq), (.long q3), (.long q2), (.long q1), (.long q0), (.ref b5), (.ref b5)]))
      refine own_fs (XS.aload X5.here hx rfl (hb hby at_90) rfl rfl (Steps.refl _)) ?_
      show own_G p.tables e below _ (T5.setTop (mkF m 92 #[.val (.long q0), .second, .val (.long q1), .second, .val (.long q2), .second, .val (.long q3), .second, .val (.long q4), .second, .val (.int md), .val (.int mm), .val (.long tq), .second, .val (.ref b1), .unset, .unset] [(.ref b1), (.long tq), (.long q3), (.long q2), (.long q1), (.long q0), (.ref b5), (.ref b5)]))
      have Zs8 : n0 ≤ h5.size := (Nat.le_trans (Nat.le_trans (Nat.le_trans Z0 E1.1) K3.1) E5.1)
      obtain ⟨_, _, ⟨T7, L7, k7, n7⟩, -, X7, ⟨Lc7, hQ7, l7, y7, z7⟩, st7⟩ := X5.specialBack hx (y := (⟨"com/example/cast3/cast3/Inbox$Run", "<init>", "(JJJJJLjava/util/List;)V"⟩ : MethodName)) rfl hown (mvT hZ (hw _ (List.mem_of_getElem? (i := 30) rfl))) (mvT hZ (hw _ (List.mem_of_getElem? (i := 31) rfl))) (mvT hZ (hw _ (List.mem_of_getElem? (i := 32) rfl))) (by decide) (backOf (W := 1) (own_i_Run l Z a0 hw [] b5 q0 q1 q2 q3 tq b1 (0 : Int64) (0 : Int64) (0 : Int64) (0 : Int64) (0 : Int64) (.null) h5 n0 Zs8 A5 F_post_b5 F_author_b5 F_publishedAt_b5 F_from_b5 F_to_b5 F_followers_b5 ge_b5) hZ (hw _ (List.mem_of_getElem? (i := 32) rfl)) (hw _ (List.mem_of_getElem? (i := 29) rfl)) (by decide) (by decide)) (g := (mkF m 92 #[.val (.long q0), .second, .val (.long q1), .second, .val (.long q2), .second, .val (.long q3), .second, .val (.long q4), .second, .val (.int md), .val (.int mm), .val (.long tq), .second, .val (.ref b1), .unset, .unset] [(.ref b1), (.long tq), (.long q3), (.long q2), (.long q1), (.long q0), (.ref b5), (.ref b5)])) rfl (by rw [hml]; rfl) (Steps.refl _) (a := b5) (argsL := [(.long q0), (.long q1), (.long q2), (.long q3), (.long tq), (.ref b1)]) (rest := [(.ref b5)]) (lenOf own_pd6 rfl) rfl (by show 2 * 0 + _ ≤ _; exact Nat.le_of_eq rfl) (hb hby at_92) (fun _ _ => ⟨rfl, e5, (by decide : 2 + 0 ≤ _), (by decide : 9 + 0 ≤ _)⟩)
      dsimp only [Pt.U, Pt.locs, Pt.cells, Pt.slots] at X7 l7 y7 z7 st7 hQ7
      subst l7 y7 z7
      obtain ⟨h7, e7⟩ : ∃ h, T7.heap = h := ⟨_, rfl⟩
      rw [e7] at hQ7
      obtain ⟨rfl, Nq7, K7, P6_0⟩ := hQ7
      have N7 := Fr.app N3 Nq7
      refine own_fs st7 ?_
      show own_G p.tables e below _ (T7.setTop (mkF m 95 #[.val (.long q0), .second, .val (.long q1), .second, .val (.long q2), .second, .val (.long q3), .second, .val (.long q4), .second, .val (.int md), .val (.int mm), .val (.long tq), .second, .val (.ref b1), .unset, .unset] [(.ref b5)]))
      refine own_fs (XS.astore X7.here hx rfl (hb hby at_95) rfl rfl (l' := #[.val (.long q0), .second, .val (.long q1), .second, .val (.long q2), .second, .val (.long q3), .second, .val (.long q4), .second, .val (.int md), .val (.int mm), .val (.long tq), .second, .val (.ref b1), .val (.ref b5), .unset]) rfl (Steps.refl _)) ?_
      show own_G p.tables e below _ (T7.setTop (mkF m 97 #[.val (.long q0), .second, .val (.long q1), .second, .val (.long q2), .second, .val (.long q3), .second, .val (.long q4), .second, .val (.int md), .val (.int mm), .val (.long tq), .second, .val (.ref b1), .val (.ref b5), .unset] []))
      refine own_fs (XS.lload X7.here hx rfl (hb hby at_97) rfl (Steps.refl _)) ?_
      show own_G p.tables e below _ (T7.setTop (mkF m 99 #[.val (.long q0), .second, .val (.long q1), .second, .val (.long q2), .second, .val (.long q3), .second, .val (.long q4), .second, .val (.int md), .val (.int mm), .val (.long tq), .second, .val (.ref b1), .val (.ref b5), .unset] [(.long tq)]))
      refine own_fs (X7.ldc2Long hx hown (mvT hZ (hw _ (List.mem_of_getElem? (i := 51) rfl))) (g := (mkF m 99 #[.val (.long q0), .second, .val (.long q1), .second, .val (.long q2), .second, .val (.long q3), .second, .val (.long q4), .second, .val (.int md), .val (.int mm), .val (.long tq), .second, .val (.ref b1), .val (.ref b5), .unset] [(.long tq)])) rfl (hb hby at_99) _ (Steps.refl _)) ?_
      show own_G p.tables e below _ (T7.setTop (mkF m 102 #[.val (.long q0), .second, .val (.long q1), .second, .val (.long q2), .second, .val (.long q3), .second, .val (.long q4), .second, .val (.int md), .val (.int mm), .val (.long tq), .second, .val (.ref b1), .val (.ref b5), .unset] [(.long (9223372036854775807 : Int64)), (.long tq)]))
      refine own_fs (XT.lcmp X7.here hx rfl (hb hby at_102) rfl (Steps.refl _)) ?_
      show own_G p.tables e below _ (T7.setTop (mkF m 103 #[.val (.long q0), .second, .val (.long q1), .second, .val (.long q2), .second, .val (.long q3), .second, .val (.long q4), .second, .val (.int md), .val (.int mm), .val (.long tq), .second, .val (.ref b1), .val (.ref b5), .unset] [(.int (XT.cmpL tq (9223372036854775807 : Int64)))]))
      by_cases hc103 : tq = (9223372036854775807 : Int64)
      · refine own_fs (XS.ifNo X7.here hx rfl (hb hby at_103) rfl (XT.ll_ne_f hc103) (Steps.refl _)) ?_
        show own_G p.tables e below _ (T7.setTop (mkF m 106 #[.val (.long q0), .second, .val (.long q1), .second, .val (.long q2), .second, .val (.long q3), .second, .val (.long q4), .second, .val (.int md), .val (.int mm), .val (.long tq), .second, .val (.ref b1), .val (.ref b5), .unset] []))
        refine own_fs (XS.iconst X7.here hx rfl (hb hby at_106) (Steps.refl _)) ?_
        show own_G p.tables e below _ (T7.setTop (mkF m 107 #[.val (.long q0), .second, .val (.long q1), .second, .val (.long q2), .second, .val (.long q3), .second, .val (.long q4), .second, .val (.int md), .val (.int mm), .val (.long tq), .second, .val (.ref b1), .val (.ref b5), .unset] [(.int (1 : Int32))]))
        refine own_fs (XS.goto X7.here hx rfl (pc0 := 107) (pc' := 111) rfl (hb hby at_107) (by decide) (by decide) (Steps.refl _)) ?_
        show own_G p.tables e below _ (T7.setTop (mkF m 111 #[.val (.long q0), .second, .val (.long q1), .second, .val (.long q2), .second, .val (.long q3), .second, .val (.long q4), .second, .val (.int md), .val (.int mm), .val (.long tq), .second, .val (.ref b1), .val (.ref b5), .unset] [(.int (1 : Int32))]))
        refine own_fs (XS.istore X7.here hx rfl (hb hby at_111) rfl (l' := #[.val (.long q0), .second, .val (.long q1), .second, .val (.long q2), .second, .val (.long q3), .second, .val (.long q4), .second, .val (.int md), .val (.int mm), .val (.long tq), .second, .val (.ref b1), .val (.ref b5), .val (.int (1 : Int32))]) rfl (Steps.refl _)) ?_
        show own_G p.tables e below _ (T7.setTop (mkF m 113 #[.val (.long q0), .second, .val (.long q1), .second, .val (.long q2), .second, .val (.long q3), .second, .val (.long q4), .second, .val (.int md), .val (.int mm), .val (.long tq), .second, .val (.ref b1), .val (.ref b5), .val (.int (1 : Int32))] []))
        refine own_fs (XS.aload X7.here hx rfl (hb hby at_113) rfl rfl (Steps.refl _)) ?_
        show own_G p.tables e below _ (T7.setTop (mkF m 115 #[.val (.long q0), .second, .val (.long q1), .second, .val (.long q2), .second, .val (.long q3), .second, .val (.long q4), .second, .val (.int md), .val (.int mm), .val (.long tq), .second, .val (.ref b1), .val (.ref b5), .val (.int (1 : Int32))] [(.ref b5)]))
        have Zs11 : n0 ≤ h7.size := (Nat.le_trans (Nat.le_trans (Nat.le_trans (Nat.le_trans Z0 E1.1) K3.1) E5.1) K7.1)
        obtain ⟨cq10, kq10, q10a, q10b, q10c⟩ := isOf hZ e7 (A5.keep K7)
        obtain ⟨_, _, ⟨T10, L10, k10, n10⟩, -, X10, ⟨Lc10, hQ10, l10, y10, z10⟩, st10⟩ := X7.virtualBack hx (y := (⟨"com/example/cast3/cast3/Inbox$Run", "last", "()Z"⟩ : MethodName)) (z := (⟨"com/example/cast3/cast3/Inbox$Run", "last", "()Z"⟩ : MethodName)) hown (mvT hZ (hw _ (List.mem_of_getElem? (i := 52) rfl))) (mvT hZ (hw _ (List.mem_of_getElem? (i := 53) rfl))) (notFace_of_selects (args := #[]) (mvT hZ (hw _ (List.mem_of_getElem? (i := 55) rfl)))) (mvT hZ (hw _ (List.mem_of_getElem? (i := 55) rfl))) (mvT hZ (hw _ (List.mem_of_getElem? (i := 54) rfl))) (by decide) (backOf (W := 0) (own_rlast l Z a0 hw [] b5 tq h7 n0 Zs11 P6_0) hZ (hw _ (List.mem_of_getElem? (i := 56) rfl)) (hw _ (List.mem_of_getElem? (i := 29) rfl)) (by decide) (by decide)) q10a q10c (g := (mkF m 115 #[.val (.long q0), .second, .val (.long q1), .second, .val (.long q2), .second, .val (.long q3), .second, .val (.long q4), .second, .val (.int md), .val (.int mm), .val (.long tq), .second, .val (.ref b1), .val (.ref b5), .val (.int (1 : Int32))] [(.ref b5)])) rfl (by rw [hml]; rfl) (Steps.refl _) (argsL := []) (rest := []) (lenOf own_pd7 rfl) rfl (by show 2 * 0 + _ ≤ _; exact Nat.le_of_eq rfl) (hb hby at_115) (fun _ _ => ⟨rfl, e7, (by decide : 2 + 0 ≤ _), (by decide : 9 + 0 ≤ _)⟩)
        dsimp only [Pt.U, Pt.locs, Pt.cells, Pt.slots] at X10 l10 y10 z10 st10 hQ10
        subst l10 y10 z10
        obtain ⟨rfl, Nq10, e10⟩ := hQ10
        have N10 := Fr.app N7 Nq10
        refine own_fs st10 ?_
        show own_G p.tables e below _ (T10.setTop (mkF m 118 #[.val (.long q0), .second, .val (.long q1), .second, .val (.long q2), .second, .val (.long q3), .second, .val (.long q4), .second, .val (.int md), .val (.int mm), .val (.long tq), .second, .val (.ref b1), .val (.ref b5), .val (.int (1 : Int32))] [(.int (own_last tq))]))
        rw [show own_last tq = (1 : Int32) from by simp only [own_last, hc103, ↓reduceIte]]
        show own_G p.tables e below _ (T10.setTop (mkF m 118 #[.val (.long q0), .second, .val (.long q1), .second, .val (.long q2), .second, .val (.long q3), .second, .val (.long q4), .second, .val (.int md), .val (.int mm), .val (.long tq), .second, .val (.ref b1), .val (.ref b5), .val (.int (1 : Int32))] [(.int (1 : Int32))]))
        refine own_fs (XS.iload X10.here hx rfl (hb hby at_118) rfl (Steps.refl _)) ?_
        show own_G p.tables e below _ (T10.setTop (mkF m 120 #[.val (.long q0), .second, .val (.long q1), .second, .val (.long q2), .second, .val (.long q3), .second, .val (.long q4), .second, .val (.int md), .val (.int mm), .val (.long tq), .second, .val (.ref b1), .val (.ref b5), .val (.int (1 : Int32))] [(.int (1 : Int32)), (.int (1 : Int32))]))
        refine own_fs (XS.icmpNo X10.here hx rfl (hb hby at_120) rfl (XT.ii_ne_f (by decide : (1 : Int32) = (1 : Int32))) (Steps.refl _)) ?_
        show own_G p.tables e below _ (T10.setTop (mkF m 123 #[.val (.long q0), .second, .val (.long q1), .second, .val (.long q2), .second, .val (.long q3), .second, .val (.long q4), .second, .val (.int md), .val (.int mm), .val (.long tq), .second, .val (.ref b1), .val (.ref b5), .val (.int (1 : Int32))] []))
        refine own_fs (XS.iconst X10.here hx rfl (hb hby at_123) (Steps.refl _)) ?_
        show own_G p.tables e below _ (T10.setTop (mkF m 124 #[.val (.long q0), .second, .val (.long q1), .second, .val (.long q2), .second, .val (.long q3), .second, .val (.long q4), .second, .val (.int md), .val (.int mm), .val (.long tq), .second, .val (.ref b1), .val (.ref b5), .val (.int (1 : Int32))] [(.int (1 : Int32))]))
        refine own_fs (XS.goto X10.here hx rfl (pc0 := 124) (pc' := 128) rfl (hb hby at_124) (by decide) (by decide) (Steps.refl _)) ?_
        show own_G p.tables e below _ (T10.setTop (mkF m 128 #[.val (.long q0), .second, .val (.long q1), .second, .val (.long q2), .second, .val (.long q3), .second, .val (.long q4), .second, .val (.int md), .val (.int mm), .val (.long tq), .second, .val (.ref b1), .val (.ref b5), .val (.int (1 : Int32))] [(.int (1 : Int32))]))
        exact own_retN X10 hx (t := .boolean) Bd.returns hlk (by simp) (hb hby at_128) (by decide) (by decide) e10 ⟨rfl, N10⟩
      · refine own_fs (XS.ifYes X7.here hx rfl (pc0 := 103) (pc' := 110) rfl (hb hby at_103) rfl (XT.ll_ne_t hc103) (by decide) (by decide) (Steps.refl _)) ?_
        show own_G p.tables e below _ (T7.setTop (mkF m 110 #[.val (.long q0), .second, .val (.long q1), .second, .val (.long q2), .second, .val (.long q3), .second, .val (.long q4), .second, .val (.int md), .val (.int mm), .val (.long tq), .second, .val (.ref b1), .val (.ref b5), .unset] []))
        refine own_fs (XS.iconst X7.here hx rfl (hb hby at_110) (Steps.refl _)) ?_
        show own_G p.tables e below _ (T7.setTop (mkF m 111 #[.val (.long q0), .second, .val (.long q1), .second, .val (.long q2), .second, .val (.long q3), .second, .val (.long q4), .second, .val (.int md), .val (.int mm), .val (.long tq), .second, .val (.ref b1), .val (.ref b5), .unset] [(.int (0 : Int32))]))
        refine own_fs (XS.istore X7.here hx rfl (hb hby at_111) rfl (l' := #[.val (.long q0), .second, .val (.long q1), .second, .val (.long q2), .second, .val (.long q3), .second, .val (.long q4), .second, .val (.int md), .val (.int mm), .val (.long tq), .second, .val (.ref b1), .val (.ref b5), .val (.int (0 : Int32))]) rfl (Steps.refl _)) ?_
        show own_G p.tables e below _ (T7.setTop (mkF m 113 #[.val (.long q0), .second, .val (.long q1), .second, .val (.long q2), .second, .val (.long q3), .second, .val (.long q4), .second, .val (.int md), .val (.int mm), .val (.long tq), .second, .val (.ref b1), .val (.ref b5), .val (.int (0 : Int32))] []))
        refine own_fs (XS.aload X7.here hx rfl (hb hby at_113) rfl rfl (Steps.refl _)) ?_
        show own_G p.tables e below _ (T7.setTop (mkF m 115 #[.val (.long q0), .second, .val (.long q1), .second, .val (.long q2), .second, .val (.long q3), .second, .val (.long q4), .second, .val (.int md), .val (.int mm), .val (.long tq), .second, .val (.ref b1), .val (.ref b5), .val (.int (0 : Int32))] [(.ref b5)]))
        have Zs14 : n0 ≤ h7.size := (Nat.le_trans (Nat.le_trans (Nat.le_trans (Nat.le_trans Z0 E1.1) K3.1) E5.1) K7.1)
        obtain ⟨cq13, kq13, q13a, q13b, q13c⟩ := isOf hZ e7 (A5.keep K7)
        obtain ⟨_, _, ⟨T13, L13, k13, n13⟩, -, X13, ⟨Lc13, hQ13, l13, y13, z13⟩, st13⟩ := X7.virtualBack hx (y := (⟨"com/example/cast3/cast3/Inbox$Run", "last", "()Z"⟩ : MethodName)) (z := (⟨"com/example/cast3/cast3/Inbox$Run", "last", "()Z"⟩ : MethodName)) hown (mvT hZ (hw _ (List.mem_of_getElem? (i := 52) rfl))) (mvT hZ (hw _ (List.mem_of_getElem? (i := 53) rfl))) (notFace_of_selects (args := #[]) (mvT hZ (hw _ (List.mem_of_getElem? (i := 55) rfl)))) (mvT hZ (hw _ (List.mem_of_getElem? (i := 55) rfl))) (mvT hZ (hw _ (List.mem_of_getElem? (i := 54) rfl))) (by decide) (backOf (W := 0) (own_rlast l Z a0 hw [] b5 tq h7 n0 Zs14 P6_0) hZ (hw _ (List.mem_of_getElem? (i := 56) rfl)) (hw _ (List.mem_of_getElem? (i := 29) rfl)) (by decide) (by decide)) q13a q13c (g := (mkF m 115 #[.val (.long q0), .second, .val (.long q1), .second, .val (.long q2), .second, .val (.long q3), .second, .val (.long q4), .second, .val (.int md), .val (.int mm), .val (.long tq), .second, .val (.ref b1), .val (.ref b5), .val (.int (0 : Int32))] [(.ref b5)])) rfl (by rw [hml]; rfl) (Steps.refl _) (argsL := []) (rest := []) (lenOf own_pd7 rfl) rfl (by show 2 * 0 + _ ≤ _; exact Nat.le_of_eq rfl) (hb hby at_115) (fun _ _ => ⟨rfl, e7, (by decide : 2 + 0 ≤ _), (by decide : 9 + 0 ≤ _)⟩)
        dsimp only [Pt.U, Pt.locs, Pt.cells, Pt.slots] at X13 l13 y13 z13 st13 hQ13
        subst l13 y13 z13
        obtain ⟨rfl, Nq13, e13⟩ := hQ13
        have N13 := Fr.app N7 Nq13
        refine own_fs st13 ?_
        show own_G p.tables e below _ (T13.setTop (mkF m 118 #[.val (.long q0), .second, .val (.long q1), .second, .val (.long q2), .second, .val (.long q3), .second, .val (.long q4), .second, .val (.int md), .val (.int mm), .val (.long tq), .second, .val (.ref b1), .val (.ref b5), .val (.int (0 : Int32))] [(.int (own_last tq))]))
        rw [show own_last tq = (0 : Int32) from by simp only [own_last, hc103, ↓reduceIte]]
        show own_G p.tables e below _ (T13.setTop (mkF m 118 #[.val (.long q0), .second, .val (.long q1), .second, .val (.long q2), .second, .val (.long q3), .second, .val (.long q4), .second, .val (.int md), .val (.int mm), .val (.long tq), .second, .val (.ref b1), .val (.ref b5), .val (.int (0 : Int32))] [(.int (0 : Int32))]))
        refine own_fs (XS.iload X13.here hx rfl (hb hby at_118) rfl (Steps.refl _)) ?_
        show own_G p.tables e below _ (T13.setTop (mkF m 120 #[.val (.long q0), .second, .val (.long q1), .second, .val (.long q2), .second, .val (.long q3), .second, .val (.long q4), .second, .val (.int md), .val (.int mm), .val (.long tq), .second, .val (.ref b1), .val (.ref b5), .val (.int (0 : Int32))] [(.int (0 : Int32)), (.int (0 : Int32))]))
        refine own_fs (XS.icmpNo X13.here hx rfl (hb hby at_120) rfl (XT.ii_ne_f (by decide : (0 : Int32) = (0 : Int32))) (Steps.refl _)) ?_
        show own_G p.tables e below _ (T13.setTop (mkF m 123 #[.val (.long q0), .second, .val (.long q1), .second, .val (.long q2), .second, .val (.long q3), .second, .val (.long q4), .second, .val (.int md), .val (.int mm), .val (.long tq), .second, .val (.ref b1), .val (.ref b5), .val (.int (0 : Int32))] []))
        refine own_fs (XS.iconst X13.here hx rfl (hb hby at_123) (Steps.refl _)) ?_
        show own_G p.tables e below _ (T13.setTop (mkF m 124 #[.val (.long q0), .second, .val (.long q1), .second, .val (.long q2), .second, .val (.long q3), .second, .val (.long q4), .second, .val (.int md), .val (.int mm), .val (.long tq), .second, .val (.ref b1), .val (.ref b5), .val (.int (0 : Int32))] [(.int (1 : Int32))]))
        refine own_fs (XS.goto X13.here hx rfl (pc0 := 124) (pc' := 128) rfl (hb hby at_124) (by decide) (by decide) (Steps.refl _)) ?_
        show own_G p.tables e below _ (T13.setTop (mkF m 128 #[.val (.long q0), .second, .val (.long q1), .second, .val (.long q2), .second, .val (.long q3), .second, .val (.long q4), .second, .val (.int md), .val (.int mm), .val (.long tq), .second, .val (.ref b1), .val (.ref b5), .val (.int (0 : Int32))] [(.int (1 : Int32))]))
        exact own_retN X13 hx (t := .boolean) Bd.returns hlk (by simp) (hb hby at_128) (by decide) (by decide) e13 ⟨rfl, N13⟩
    · refine own_fs (XS.ifNo X3.here hx rfl (hb hby at_64) rfl (XT.i0_eq_f hc64) (Steps.refl _)) ?_
      show own_G p.tables e below _ (T3.setTop (mkF m 67 #[.val (.long q0), .second, .val (.long q1), .second, .val (.long q2), .second, .val (.long q3), .second, .val (.long q4), .second, .val (.int md), .val (.int mm), .val (.long tq), .second, .val (.ref b1), .unset, .unset] []))
      refine own_fs (XS.aload X3.here hx rfl (hb hby at_67) rfl rfl (Steps.refl _)) ?_
      show own_G p.tables e below _ (T3.setTop (mkF m 69 #[.val (.long q0), .second, .val (.long q1), .second, .val (.long q2), .second, .val (.long q3), .second, .val (.long q4), .second, .val (.int md), .val (.int mm), .val (.long tq), .second, .val (.ref b1), .unset, .unset] [(.ref b1)]))
      refine own_fs (XS.lload X3.here hx rfl (hb hby at_69) rfl (Steps.refl _)) ?_
      show own_G p.tables e below _ (T3.setTop (mkF m 71 #[.val (.long q0), .second, .val (.long q1), .second, .val (.long q2), .second, .val (.long q3), .second, .val (.long q4), .second, .val (.int md), .val (.int mm), .val (.long tq), .second, .val (.ref b1), .unset, .unset] [(.long q3), (.ref b1)]))
      have Zs18 : n0 ≤ h3.size := (Nat.le_trans (Nat.le_trans Z0 E1.1) K3.1)
      obtain ⟨_, _, ⟨T17, L17, k17, n17⟩, -, X17, ⟨Lc17, hQ17, l17, y17, z17⟩, st17⟩ := Jvm.LawKit.callS X3 hx (y := (⟨"java/lang/Long", "valueOf", "(J)Ljava/lang/Long;"⟩ : MethodName)) hown (mvT hZ (hw _ (List.mem_of_getElem? (i := 58) rfl))) (mvT hZ (hw _ (List.mem_of_getElem? (i := 59) rfl))) (mvT hZ (hw _ (List.mem_of_getElem? (i := 60) rfl))) (mvT hZ (hw _ (List.mem_of_getElem? (i := 61) rfl))) (by decide) (backOf (W := 1) (own_valueOf l Z a0 hw [] q3 cb cc h3 n0 Zs18 hSta hBx (Old.keep (Old.ext hOld E1) K3 (allS ge_b1 all0))) hZ (hw _ (List.mem_of_getElem? (i := 61) rfl)) (hw _ (List.mem_of_getElem? (i := 60) rfl)) (by decide) (by decide)) (g := (mkF m 71 #[.val (.long q0), .second, .val (.long q1), .second, .val (.long q2), .second, .val (.long q3), .second, .val (.long q4), .second, .val (.int md), .val (.int mm), .val (.long tq), .second, .val (.ref b1), .unset, .unset] [(.long q3), (.ref b1)])) rfl (by rw [hml]; rfl) (argsL := [(.long q3)]) (rest := [(.ref b1)]) (lenOf own_pd8 rfl) rfl (by show 2 * 0 + _ ≤ _; exact Nat.le_of_eq rfl) (hb hby at_71) (fun _ _ => ⟨rfl, e3, (by decide : 1 + 1 ≤ _), (by decide : 3 + 1 ≤ _)⟩)
      dsimp only [Pt.U, Pt.locs, Pt.cells, Pt.slots] at X17 l17 y17 z17 st17 hQ17
      subst l17 y17 z17
      obtain ⟨h17, e17⟩ : ∃ h, T17.heap = h := ⟨_, rfl⟩
      rw [e17] at hQ17
      obtain ⟨ar15, rfl, Nq17, K17, P16_0, P16_1, P16_2⟩ := hQ17
      have N17 := Fr.app N3 Nq17
      refine own_fs (st17 _ (Steps.refl _)) ?_
      show own_G p.tables e below _ (T17.setTop (mkF m 74 #[.val (.long q0), .second, .val (.long q1), .second, .val (.long q2), .second, .val (.long q3), .second, .val (.long q4), .second, .val (.int md), .val (.int mm), .val (.long tq), .second, .val (.ref b1), .unset, .unset] [(.ref ar15), (.ref b1)]))
      have Zs22 : n0 ≤ h17.size := (Nat.le_trans (Nat.le_trans (Nat.le_trans Z0 E1.1) K3.1) K17.1)
      obtain ⟨cq21, kq21, q21a, q21b, q21c⟩ := isOf hZ e17 ((A1.keep K3).keep K17)
      obtain ⟨_, _, ⟨T21, L21, k21, n21⟩, -, X21, ⟨Lc21, hQ21, l21, y21, z21⟩, st21⟩ := X17.virtualBack hx (y := (⟨"java/util/ArrayList", "add", "(Ljava/lang/Object;)Z"⟩ : MethodName)) (z := (⟨"java/util/ArrayList", "add", "(Ljava/lang/Object;)Z"⟩ : MethodName)) hown (mvT hZ (hw _ (List.mem_of_getElem? (i := 66) rfl))) (mvT hZ (hw _ (List.mem_of_getElem? (i := 67) rfl))) (notFace_of_selects (args := #[]) (mvT hZ (hw _ (List.mem_of_getElem? (i := 69) rfl)))) (mvT hZ (hw _ (List.mem_of_getElem? (i := 69) rfl))) (mvT hZ (hw _ (List.mem_of_getElem? (i := 68) rfl))) (by decide) (backOf (W := 0) (own_add0 l Z a0 hw [] b1 ar15 (0 : Int32) db dc h17 n0 Zs22 ((A1.keep K3).keep K17) (P2_0.keep K17 nin0) (P2_1.keep K17 nin0) (P2_2.keep K17 nin0) ge_b1 hDef (Old.keep (Old.keep (Old.ext hOld E1) K3 (allS ge_b1 all0)) K17 all0) P16_0) hZ (hw _ (List.mem_of_getElem? (i := 70) rfl)) (hw _ (List.mem_of_getElem? (i := 3) rfl)) (by decide) (by decide)) q21a q21c (g := (mkF m 74 #[.val (.long q0), .second, .val (.long q1), .second, .val (.long q2), .second, .val (.long q3), .second, .val (.long q4), .second, .val (.int md), .val (.int mm), .val (.long tq), .second, .val (.ref b1), .unset, .unset] [(.ref ar15), (.ref b1)])) rfl (by rw [hml]; rfl) (Steps.refl _) (argsL := [(.ref ar15)]) (rest := []) (lenOf own_pd9 rfl) rfl (by show 2 * 0 + _ ≤ _; exact Nat.le_of_eq rfl) (hb hby at_74) (fun _ _ => ⟨rfl, e17, (by decide : 2 + 1 ≤ _), (by decide : 4 + 10 ≤ _)⟩)
      dsimp only [Pt.U, Pt.locs, Pt.cells, Pt.slots] at X21 l21 y21 z21 st21 hQ21
      subst l21 y21 z21
      obtain ⟨h21, e21⟩ : ∃ h, T21.heap = h := ⟨_, rfl⟩
      rw [e21] at hQ21
      obtain ⟨br19, kr19, rfl, Nq21, K21, P20_0, P20_1, P20_2, P20_3, P20_4, P20_5⟩ := hQ21
      have N21 := Fr.app N17 Nq21
      have ge_br19 : n0 ≤ br19 := Nat.le_trans (Nat.le_trans (Nat.le_trans (Nat.le_trans Z0 E1.1) K3.1) K17.1) P20_3
      have gz_br19 : h0.size ≤ br19 := Nat.le_trans (Nat.le_trans (Nat.le_trans (Nat.le_trans (Nat.le_refl _) E1.1) K3.1) K17.1) P20_3
      refine own_fs st21 ?_
      show own_G p.tables e below _ (T21.setTop (mkF m 77 #[.val (.long q0), .second, .val (.long q1), .second, .val (.long q2), .second, .val (.long q3), .second, .val (.long q4), .second, .val (.int md), .val (.int mm), .val (.long tq), .second, .val (.ref b1), .unset, .unset] [(.int (1 : Int32))]))
      refine own_fs (XS.pop X21.here hx rfl (hb hby at_77) rfl rfl (Steps.refl _)) ?_
      show own_G p.tables e below _ (T21.setTop (mkF m 78 #[.val (.long q0), .second, .val (.long q1), .second, .val (.long q2), .second, .val (.long q3), .second, .val (.long q4), .second, .val (.int md), .val (.int mm), .val (.long tq), .second, .val (.ref b1), .unset, .unset] []))
      obtain ⟨T23, h23, X23, e23, E23, A23, D23, -, st23⟩ := newO X21 hx hZ hown (hw _ (List.mem_of_getElem? (i := 27) rfl)) (hw _ (List.mem_of_getElem? (i := 28) rfl)) (hw _ (List.mem_of_getElem? (i := 29) rfl)) e21 (g := (mkF m 78 #[.val (.long q0), .second, .val (.long q1), .second, .val (.long q2), .second, .val (.long q3), .second, .val (.long q4), .second, .val (.int md), .val (.int mm), .val (.long tq), .second, .val (.ref b1), .unset, .unset] [])) rfl (hb hby at_78) (by decide) (by decide)
      obtain ⟨b23, g23⟩ : ∃ z, z = h21.size := ⟨_, rfl⟩
      rw [← g23] at A23 D23 st23
      have ge_b23 : n0 ≤ b23 := Nat.le_trans (Nat.le_trans (Nat.le_trans (Nat.le_trans (Nat.le_trans Z0 E1.1) K3.1) K17.1) K21.1) (Nat.le_of_eq g23.symm)
      have gz_b23 : h0.size ≤ b23 := Nat.le_trans (Nat.le_trans (Nat.le_trans (Nat.le_trans (Nat.le_trans (Nat.le_refl _) E1.1) K3.1) K17.1) K21.1) (Nat.le_of_eq g23.symm)
      have F_post_b23 : Fld Z h23 b23 "com/example/cast3/cast3/Inbox$Run" "post" "J" (.long (0 : Int64)) := D23 (Or.inr (hw _ (List.mem_of_getElem? (i := 40) rfl))) (ty := .long) (by decide)
      have F_author_b23 : Fld Z h23 b23 "com/example/cast3/cast3/Inbox$Run" "author" "J" (.long (0 : Int64)) := D23 (Or.inr (hw _ (List.mem_of_getElem? (i := 42) rfl))) (ty := .long) (by decide)
      have F_publishedAt_b23 : Fld Z h23 b23 "com/example/cast3/cast3/Inbox$Run" "publishedAt" "J" (.long (0 : Int64)) := D23 (Or.inr (hw _ (List.mem_of_getElem? (i := 44) rfl))) (ty := .long) (by decide)
      have F_from_b23 : Fld Z h23 b23 "com/example/cast3/cast3/Inbox$Run" "from" "J" (.long (0 : Int64)) := D23 (Or.inr (hw _ (List.mem_of_getElem? (i := 46) rfl))) (ty := .long) (by decide)
      have F_to_b23 : Fld Z h23 b23 "com/example/cast3/cast3/Inbox$Run" "to" "J" (.long (0 : Int64)) := D23 (Or.inr (hw _ (List.mem_of_getElem? (i := 48) rfl))) (ty := .long) (by decide)
      have F_followers_b23 : Fld Z h23 b23 "com/example/cast3/cast3/Inbox$Run" "followers" "Ljava/util/List;" .null := D23 (Or.inr (hw _ (List.mem_of_getElem? (i := 50) rfl))) (ty := (.object "java/util/List")) (by decide)
      refine own_fs (st23 _ (Steps.refl _)) ?_
      show own_G p.tables e below _ (T23.setTop (mkF m 81 #[.val (.long q0), .second, .val (.long q1), .second, .val (.long q2), .second, .val (.long q3), .second, .val (.long q4), .second, .val (.int md), .val (.int mm), .val (.long tq), .second, .val (.ref b1), .unset, .unset] [(.ref b23)]))
      refine own_fs (XS.dup X23.here hx rfl (hb hby at_81) rfl rfl (Steps.refl _)) ?_
      show own_G p.tables e below _ (T23.setTop (mkF m 82 #[.val (.long q0), .second, .val (.long q1), .second, .val (.long q2), .second, .val (.long q3), .second, .val (.long q4), .second, .val (.int md), .val (.int mm), .val (.long tq), .second, .val (.ref b1), .unset, .unset] [(.ref b23), (.ref b23)]))
      refine own_fs (XS.lloadN X23.here hx rfl (hb hby at_82) rfl (Steps.refl _)) ?_
      show own_G p.tables e below _ (T23.setTop (mkF m 83 #[.val (.long q0), .second, .val (.long q1), .second, .val (.long q2), .second, .val (.long q3), .second, .val (.long q4), .second, .val (.int md), .val (.int mm), .val (.long tq), .second, .val (.ref b1), .unset, .unset] [(.long q0), (.ref b23), (.ref b23)]))
      refine own_fs (XS.lloadN X23.here hx rfl (hb hby at_83) rfl (Steps.refl _)) ?_
      show own_G p.tables e below _ (T23.setTop (mkF m 84 #[.val (.long q0), .second, .val (.long q1), .second, .val (.long q2), .second, .val (.long q3), .second, .val (.long q4), .second, .val (.int md), .val (.int mm), .val (.long tq), .second, .val (.ref b1), .unset, .unset] [(.long q1), (.long q0), (.ref b23), (.ref b23)]))
      refine own_fs (XS.lload X23.here hx rfl (hb hby at_84) rfl (Steps.refl _)) ?_
      show own_G p.tables e below _ (T23.setTop (mkF m 86 #[.val (.long q0), .second, .val (.long q1), .second, .val (.long q2), .second, .val (.long q3), .second, .val (.long q4), .second, .val (.int md), .val (.int mm), .val (.long tq), .second, .val (.ref b1), .unset, .unset] [(.long q2), (.long q1), (.long q0), (.ref b23), (.ref b23)]))
      refine own_fs (XS.lload X23.here hx rfl (hb hby at_86) rfl (Steps.refl _)) ?_
      show own_G p.tables e below _ (T23.setTop (mkF m 88 #[.val (.long q0), .second, .val (.long q1), .second, .val (.long q2), .second, .val (.long q3), .second, .val (.long q4), .second, .val (.int md), .val (.int mm), .val (.long tq), .second, .val (.ref b1), .unset, .unset] [(.long q3), (.long q2), (.long q1), (.long q0), (.ref b23), (.ref b23)]))
      refine own_fs (XS.lload X23.here hx rfl (hb hby at_88) rfl (Steps.refl _)) ?_
      show own_G p.tables e below _ (T23.setTop (mkF m 90 #[.val (.long q0), .second, .val (.long q1), .second, .val (.long q2), .second, .val (.long q3), .second, .val (.long q4), .second, .val (.int md), .val (.int mm), .val (.long tq), .second, .val (.ref b1), .unset, .unset] [(.long tq), (.long q3), (.long q2), (.long q1), (.long q0), (.ref b23), (.ref b23)]))
      refine own_fs (XS.aload X23.here hx rfl (hb hby at_90) rfl rfl (Steps.refl _)) ?_
      show own_G p.tables e below _ (T23.setTop (mkF m 92 #[.val (.long q0), .second, .val (.long q1), .second, .val (.long q2), .second, .val (.long q3), .second, .val (.long q4), .second, .val (.int md), .val (.int mm), .val (.long tq), .second, .val (.ref b1), .unset, .unset] [(.ref b1), (.long tq), (.long q3), (.long q2), (.long q1), (.long q0), (.ref b23), (.ref b23)]))
      have Zs26 : n0 ≤ h23.size := (Nat.le_trans (Nat.le_trans (Nat.le_trans (Nat.le_trans (Nat.le_trans Z0 E1.1) K3.1) K17.1) K21.1) E23.1)
      obtain ⟨_, _, ⟨T25, L25, k25, n25⟩, -, X25, ⟨Lc25, hQ25, l25, y25, z25⟩, st25⟩ := X23.specialBack hx (y := (⟨"com/example/cast3/cast3/Inbox$Run", "<init>", "(JJJJJLjava/util/List;)V"⟩ : MethodName)) rfl hown (mvT hZ (hw _ (List.mem_of_getElem? (i := 30) rfl))) (mvT hZ (hw _ (List.mem_of_getElem? (i := 31) rfl))) (mvT hZ (hw _ (List.mem_of_getElem? (i := 32) rfl))) (by decide) (backOf (W := 1) (own_i_Run l Z a0 hw [] b23 q0 q1 q2 q3 tq b1 (0 : Int64) (0 : Int64) (0 : Int64) (0 : Int64) (0 : Int64) (.null) h23 n0 Zs26 A23 F_post_b23 F_author_b23 F_publishedAt_b23 F_from_b23 F_to_b23 F_followers_b23 ge_b23) hZ (hw _ (List.mem_of_getElem? (i := 32) rfl)) (hw _ (List.mem_of_getElem? (i := 29) rfl)) (by decide) (by decide)) (g := (mkF m 92 #[.val (.long q0), .second, .val (.long q1), .second, .val (.long q2), .second, .val (.long q3), .second, .val (.long q4), .second, .val (.int md), .val (.int mm), .val (.long tq), .second, .val (.ref b1), .unset, .unset] [(.ref b1), (.long tq), (.long q3), (.long q2), (.long q1), (.long q0), (.ref b23), (.ref b23)])) rfl (by rw [hml]; rfl) (Steps.refl _) (a := b23) (argsL := [(.long q0), (.long q1), (.long q2), (.long q3), (.long tq), (.ref b1)]) (rest := [(.ref b23)]) (lenOf own_pd6 rfl) rfl (by show 2 * 0 + _ ≤ _; exact Nat.le_of_eq rfl) (hb hby at_92) (fun _ _ => ⟨rfl, e23, (by decide : 4 + 0 ≤ _), (by decide : 20 + 0 ≤ _)⟩)
      dsimp only [Pt.U, Pt.locs, Pt.cells, Pt.slots] at X25 l25 y25 z25 st25 hQ25
      subst l25 y25 z25
      obtain ⟨h25, e25⟩ : ∃ h, T25.heap = h := ⟨_, rfl⟩
      rw [e25] at hQ25
      obtain ⟨rfl, Nq25, K25, P24_0⟩ := hQ25
      have N25 := Fr.app N21 Nq25
      refine own_fs st25 ?_
      show own_G p.tables e below _ (T25.setTop (mkF m 95 #[.val (.long q0), .second, .val (.long q1), .second, .val (.long q2), .second, .val (.long q3), .second, .val (.long q4), .second, .val (.int md), .val (.int mm), .val (.long tq), .second, .val (.ref b1), .unset, .unset] [(.ref b23)]))
      refine own_fs (XS.astore X25.here hx rfl (hb hby at_95) rfl rfl (l' := #[.val (.long q0), .second, .val (.long q1), .second, .val (.long q2), .second, .val (.long q3), .second, .val (.long q4), .second, .val (.int md), .val (.int mm), .val (.long tq), .second, .val (.ref b1), .val (.ref b23), .unset]) rfl (Steps.refl _)) ?_
      show own_G p.tables e below _ (T25.setTop (mkF m 97 #[.val (.long q0), .second, .val (.long q1), .second, .val (.long q2), .second, .val (.long q3), .second, .val (.long q4), .second, .val (.int md), .val (.int mm), .val (.long tq), .second, .val (.ref b1), .val (.ref b23), .unset] []))
      refine own_fs (XS.lload X25.here hx rfl (hb hby at_97) rfl (Steps.refl _)) ?_
      show own_G p.tables e below _ (T25.setTop (mkF m 99 #[.val (.long q0), .second, .val (.long q1), .second, .val (.long q2), .second, .val (.long q3), .second, .val (.long q4), .second, .val (.int md), .val (.int mm), .val (.long tq), .second, .val (.ref b1), .val (.ref b23), .unset] [(.long tq)]))
      refine own_fs (X25.ldc2Long hx hown (mvT hZ (hw _ (List.mem_of_getElem? (i := 51) rfl))) (g := (mkF m 99 #[.val (.long q0), .second, .val (.long q1), .second, .val (.long q2), .second, .val (.long q3), .second, .val (.long q4), .second, .val (.int md), .val (.int mm), .val (.long tq), .second, .val (.ref b1), .val (.ref b23), .unset] [(.long tq)])) rfl (hb hby at_99) _ (Steps.refl _)) ?_
      show own_G p.tables e below _ (T25.setTop (mkF m 102 #[.val (.long q0), .second, .val (.long q1), .second, .val (.long q2), .second, .val (.long q3), .second, .val (.long q4), .second, .val (.int md), .val (.int mm), .val (.long tq), .second, .val (.ref b1), .val (.ref b23), .unset] [(.long (9223372036854775807 : Int64)), (.long tq)]))
      refine own_fs (XT.lcmp X25.here hx rfl (hb hby at_102) rfl (Steps.refl _)) ?_
      show own_G p.tables e below _ (T25.setTop (mkF m 103 #[.val (.long q0), .second, .val (.long q1), .second, .val (.long q2), .second, .val (.long q3), .second, .val (.long q4), .second, .val (.int md), .val (.int mm), .val (.long tq), .second, .val (.ref b1), .val (.ref b23), .unset] [(.int (XT.cmpL tq (9223372036854775807 : Int64)))]))
      by_cases hc103 : tq = (9223372036854775807 : Int64)
      · refine own_fs (XS.ifNo X25.here hx rfl (hb hby at_103) rfl (XT.ll_ne_f hc103) (Steps.refl _)) ?_
        show own_G p.tables e below _ (T25.setTop (mkF m 106 #[.val (.long q0), .second, .val (.long q1), .second, .val (.long q2), .second, .val (.long q3), .second, .val (.long q4), .second, .val (.int md), .val (.int mm), .val (.long tq), .second, .val (.ref b1), .val (.ref b23), .unset] []))
        refine own_fs (XS.iconst X25.here hx rfl (hb hby at_106) (Steps.refl _)) ?_
        show own_G p.tables e below _ (T25.setTop (mkF m 107 #[.val (.long q0), .second, .val (.long q1), .second, .val (.long q2), .second, .val (.long q3), .second, .val (.long q4), .second, .val (.int md), .val (.int mm), .val (.long tq), .second, .val (.ref b1), .val (.ref b23), .unset] [(.int (1 : Int32))]))
        refine own_fs (XS.goto X25.here hx rfl (pc0 := 107) (pc' := 111) rfl (hb hby at_107) (by decide) (by decide) (Steps.refl _)) ?_
        show own_G p.tables e below _ (T25.setTop (mkF m 111 #[.val (.long q0), .second, .val (.long q1), .second, .val (.long q2), .second, .val (.long q3), .second, .val (.long q4), .second, .val (.int md), .val (.int mm), .val (.long tq), .second, .val (.ref b1), .val (.ref b23), .unset] [(.int (1 : Int32))]))
        refine own_fs (XS.istore X25.here hx rfl (hb hby at_111) rfl (l' := #[.val (.long q0), .second, .val (.long q1), .second, .val (.long q2), .second, .val (.long q3), .second, .val (.long q4), .second, .val (.int md), .val (.int mm), .val (.long tq), .second, .val (.ref b1), .val (.ref b23), .val (.int (1 : Int32))]) rfl (Steps.refl _)) ?_
        show own_G p.tables e below _ (T25.setTop (mkF m 113 #[.val (.long q0), .second, .val (.long q1), .second, .val (.long q2), .second, .val (.long q3), .second, .val (.long q4), .second, .val (.int md), .val (.int mm), .val (.long tq), .second, .val (.ref b1), .val (.ref b23), .val (.int (1 : Int32))] []))
        refine own_fs (XS.aload X25.here hx rfl (hb hby at_113) rfl rfl (Steps.refl _)) ?_
        show own_G p.tables e below _ (T25.setTop (mkF m 115 #[.val (.long q0), .second, .val (.long q1), .second, .val (.long q2), .second, .val (.long q3), .second, .val (.long q4), .second, .val (.int md), .val (.int mm), .val (.long tq), .second, .val (.ref b1), .val (.ref b23), .val (.int (1 : Int32))] [(.ref b23)]))
        have Zs29 : n0 ≤ h25.size := (Nat.le_trans (Nat.le_trans (Nat.le_trans (Nat.le_trans (Nat.le_trans (Nat.le_trans Z0 E1.1) K3.1) K17.1) K21.1) E23.1) K25.1)
        obtain ⟨cq28, kq28, q28a, q28b, q28c⟩ := isOf hZ e25 (A23.keep K25)
        obtain ⟨_, _, ⟨T28, L28, k28, n28⟩, -, X28, ⟨Lc28, hQ28, l28, y28, z28⟩, st28⟩ := X25.virtualBack hx (y := (⟨"com/example/cast3/cast3/Inbox$Run", "last", "()Z"⟩ : MethodName)) (z := (⟨"com/example/cast3/cast3/Inbox$Run", "last", "()Z"⟩ : MethodName)) hown (mvT hZ (hw _ (List.mem_of_getElem? (i := 52) rfl))) (mvT hZ (hw _ (List.mem_of_getElem? (i := 53) rfl))) (notFace_of_selects (args := #[]) (mvT hZ (hw _ (List.mem_of_getElem? (i := 55) rfl)))) (mvT hZ (hw _ (List.mem_of_getElem? (i := 55) rfl))) (mvT hZ (hw _ (List.mem_of_getElem? (i := 54) rfl))) (by decide) (backOf (W := 0) (own_rlast l Z a0 hw [] b23 tq h25 n0 Zs29 P24_0) hZ (hw _ (List.mem_of_getElem? (i := 56) rfl)) (hw _ (List.mem_of_getElem? (i := 29) rfl)) (by decide) (by decide)) q28a q28c (g := (mkF m 115 #[.val (.long q0), .second, .val (.long q1), .second, .val (.long q2), .second, .val (.long q3), .second, .val (.long q4), .second, .val (.int md), .val (.int mm), .val (.long tq), .second, .val (.ref b1), .val (.ref b23), .val (.int (1 : Int32))] [(.ref b23)])) rfl (by rw [hml]; rfl) (Steps.refl _) (argsL := []) (rest := []) (lenOf own_pd7 rfl) rfl (by show 2 * 0 + _ ≤ _; exact Nat.le_of_eq rfl) (hb hby at_115) (fun _ _ => ⟨rfl, e25, (by decide : 4 + 0 ≤ _), (by decide : 20 + 0 ≤ _)⟩)
        dsimp only [Pt.U, Pt.locs, Pt.cells, Pt.slots] at X28 l28 y28 z28 st28 hQ28
        subst l28 y28 z28
        obtain ⟨rfl, Nq28, e28⟩ := hQ28
        have N28 := Fr.app N25 Nq28
        refine own_fs st28 ?_
        show own_G p.tables e below _ (T28.setTop (mkF m 118 #[.val (.long q0), .second, .val (.long q1), .second, .val (.long q2), .second, .val (.long q3), .second, .val (.long q4), .second, .val (.int md), .val (.int mm), .val (.long tq), .second, .val (.ref b1), .val (.ref b23), .val (.int (1 : Int32))] [(.int (own_last tq))]))
        rw [show own_last tq = (1 : Int32) from by simp only [own_last, hc103, ↓reduceIte]]
        show own_G p.tables e below _ (T28.setTop (mkF m 118 #[.val (.long q0), .second, .val (.long q1), .second, .val (.long q2), .second, .val (.long q3), .second, .val (.long q4), .second, .val (.int md), .val (.int mm), .val (.long tq), .second, .val (.ref b1), .val (.ref b23), .val (.int (1 : Int32))] [(.int (1 : Int32))]))
        refine own_fs (XS.iload X28.here hx rfl (hb hby at_118) rfl (Steps.refl _)) ?_
        show own_G p.tables e below _ (T28.setTop (mkF m 120 #[.val (.long q0), .second, .val (.long q1), .second, .val (.long q2), .second, .val (.long q3), .second, .val (.long q4), .second, .val (.int md), .val (.int mm), .val (.long tq), .second, .val (.ref b1), .val (.ref b23), .val (.int (1 : Int32))] [(.int (1 : Int32)), (.int (1 : Int32))]))
        refine own_fs (XS.icmpNo X28.here hx rfl (hb hby at_120) rfl (XT.ii_ne_f (by decide : (1 : Int32) = (1 : Int32))) (Steps.refl _)) ?_
        show own_G p.tables e below _ (T28.setTop (mkF m 123 #[.val (.long q0), .second, .val (.long q1), .second, .val (.long q2), .second, .val (.long q3), .second, .val (.long q4), .second, .val (.int md), .val (.int mm), .val (.long tq), .second, .val (.ref b1), .val (.ref b23), .val (.int (1 : Int32))] []))
        refine own_fs (XS.iconst X28.here hx rfl (hb hby at_123) (Steps.refl _)) ?_
        show own_G p.tables e below _ (T28.setTop (mkF m 124 #[.val (.long q0), .second, .val (.long q1), .second, .val (.long q2), .second, .val (.long q3), .second, .val (.long q4), .second, .val (.int md), .val (.int mm), .val (.long tq), .second, .val (.ref b1), .val (.ref b23), .val (.int (1 : Int32))] [(.int (1 : Int32))]))
        refine own_fs (XS.goto X28.here hx rfl (pc0 := 124) (pc' := 128) rfl (hb hby at_124) (by decide) (by decide) (Steps.refl _)) ?_
        show own_G p.tables e below _ (T28.setTop (mkF m 128 #[.val (.long q0), .second, .val (.long q1), .second, .val (.long q2), .second, .val (.long q3), .second, .val (.long q4), .second, .val (.int md), .val (.int mm), .val (.long tq), .second, .val (.ref b1), .val (.ref b23), .val (.int (1 : Int32))] [(.int (1 : Int32))]))
        exact own_retN X28 hx (t := .boolean) Bd.returns hlk (by simp) (hb hby at_128) (by decide) (by decide) e28 ⟨rfl, N28⟩
      · refine own_fs (XS.ifYes X25.here hx rfl (pc0 := 103) (pc' := 110) rfl (hb hby at_103) rfl (XT.ll_ne_t hc103) (by decide) (by decide) (Steps.refl _)) ?_
        show own_G p.tables e below _ (T25.setTop (mkF m 110 #[.val (.long q0), .second, .val (.long q1), .second, .val (.long q2), .second, .val (.long q3), .second, .val (.long q4), .second, .val (.int md), .val (.int mm), .val (.long tq), .second, .val (.ref b1), .val (.ref b23), .unset] []))
        refine own_fs (XS.iconst X25.here hx rfl (hb hby at_110) (Steps.refl _)) ?_
        show own_G p.tables e below _ (T25.setTop (mkF m 111 #[.val (.long q0), .second, .val (.long q1), .second, .val (.long q2), .second, .val (.long q3), .second, .val (.long q4), .second, .val (.int md), .val (.int mm), .val (.long tq), .second, .val (.ref b1), .val (.ref b23), .unset] [(.int (0 : Int32))]))
        refine own_fs (XS.istore X25.here hx rfl (hb hby at_111) rfl (l' := #[.val (.long q0), .second, .val (.long q1), .second, .val (.long q2), .second, .val (.long q3), .second, .val (.long q4), .second, .val (.int md), .val (.int mm), .val (.long tq), .second, .val (.ref b1), .val (.ref b23), .val (.int (0 : Int32))]) rfl (Steps.refl _)) ?_
        show own_G p.tables e below _ (T25.setTop (mkF m 113 #[.val (.long q0), .second, .val (.long q1), .second, .val (.long q2), .second, .val (.long q3), .second, .val (.long q4), .second, .val (.int md), .val (.int mm), .val (.long tq), .second, .val (.ref b1), .val (.ref b23), .val (.int (0 : Int32))] []))
        refine own_fs (XS.aload X25.here hx rfl (hb hby at_113) rfl rfl (Steps.refl _)) ?_
        show own_G p.tables e below _ (T25.setTop (mkF m 115 #[.val (.long q0), .second, .val (.long q1), .second, .val (.long q2), .second, .val (.long q3), .second, .val (.long q4), .second, .val (.int md), .val (.int mm), .val (.long tq), .second, .val (.ref b1), .val (.ref b23), .val (.int (0 : Int32))] [(.ref b23)]))
        have Zs32 : n0 ≤ h25.size := (Nat.le_trans (Nat.le_trans (Nat.le_trans (Nat.le_trans (Nat.le_trans (Nat.le_trans Z0 E1.1) K3.1) K17.1) K21.1) E23.1) K25.1)
        obtain ⟨cq31, kq31, q31a, q31b, q31c⟩ := isOf hZ e25 (A23.keep K25)
        obtain ⟨_, _, ⟨T31, L31, k31, n31⟩, -, X31, ⟨Lc31, hQ31, l31, y31, z31⟩, st31⟩ := X25.virtualBack hx (y := (⟨"com/example/cast3/cast3/Inbox$Run", "last", "()Z"⟩ : MethodName)) (z := (⟨"com/example/cast3/cast3/Inbox$Run", "last", "()Z"⟩ : MethodName)) hown (mvT hZ (hw _ (List.mem_of_getElem? (i := 52) rfl))) (mvT hZ (hw _ (List.mem_of_getElem? (i := 53) rfl))) (notFace_of_selects (args := #[]) (mvT hZ (hw _ (List.mem_of_getElem? (i := 55) rfl)))) (mvT hZ (hw _ (List.mem_of_getElem? (i := 55) rfl))) (mvT hZ (hw _ (List.mem_of_getElem? (i := 54) rfl))) (by decide) (backOf (W := 0) (own_rlast l Z a0 hw [] b23 tq h25 n0 Zs32 P24_0) hZ (hw _ (List.mem_of_getElem? (i := 56) rfl)) (hw _ (List.mem_of_getElem? (i := 29) rfl)) (by decide) (by decide)) q31a q31c (g := (mkF m 115 #[.val (.long q0), .second, .val (.long q1), .second, .val (.long q2), .second, .val (.long q3), .second, .val (.long q4), .second, .val (.int md), .val (.int mm), .val (.long tq), .second, .val (.ref b1), .val (.ref b23), .val (.int (0 : Int32))] [(.ref b23)])) rfl (by rw [hml]; rfl) (Steps.refl _) (argsL := []) (rest := []) (lenOf own_pd7 rfl) rfl (by show 2 * 0 + _ ≤ _; exact Nat.le_of_eq rfl) (hb hby at_115) (fun _ _ => ⟨rfl, e25, (by decide : 4 + 0 ≤ _), (by decide : 20 + 0 ≤ _)⟩)
        dsimp only [Pt.U, Pt.locs, Pt.cells, Pt.slots] at X31 l31 y31 z31 st31 hQ31
        subst l31 y31 z31
        obtain ⟨rfl, Nq31, e31⟩ := hQ31
        have N31 := Fr.app N25 Nq31
        refine own_fs st31 ?_
        show own_G p.tables e below _ (T31.setTop (mkF m 118 #[.val (.long q0), .second, .val (.long q1), .second, .val (.long q2), .second, .val (.long q3), .second, .val (.long q4), .second, .val (.int md), .val (.int mm), .val (.long tq), .second, .val (.ref b1), .val (.ref b23), .val (.int (0 : Int32))] [(.int (own_last tq))]))
        rw [show own_last tq = (0 : Int32) from by simp only [own_last, hc103, ↓reduceIte]]
        show own_G p.tables e below _ (T31.setTop (mkF m 118 #[.val (.long q0), .second, .val (.long q1), .second, .val (.long q2), .second, .val (.long q3), .second, .val (.long q4), .second, .val (.int md), .val (.int mm), .val (.long tq), .second, .val (.ref b1), .val (.ref b23), .val (.int (0 : Int32))] [(.int (0 : Int32))]))
        refine own_fs (XS.iload X31.here hx rfl (hb hby at_118) rfl (Steps.refl _)) ?_
        show own_G p.tables e below _ (T31.setTop (mkF m 120 #[.val (.long q0), .second, .val (.long q1), .second, .val (.long q2), .second, .val (.long q3), .second, .val (.long q4), .second, .val (.int md), .val (.int mm), .val (.long tq), .second, .val (.ref b1), .val (.ref b23), .val (.int (0 : Int32))] [(.int (0 : Int32)), (.int (0 : Int32))]))
        refine own_fs (XS.icmpNo X31.here hx rfl (hb hby at_120) rfl (XT.ii_ne_f (by decide : (0 : Int32) = (0 : Int32))) (Steps.refl _)) ?_
        show own_G p.tables e below _ (T31.setTop (mkF m 123 #[.val (.long q0), .second, .val (.long q1), .second, .val (.long q2), .second, .val (.long q3), .second, .val (.long q4), .second, .val (.int md), .val (.int mm), .val (.long tq), .second, .val (.ref b1), .val (.ref b23), .val (.int (0 : Int32))] []))
        refine own_fs (XS.iconst X31.here hx rfl (hb hby at_123) (Steps.refl _)) ?_
        show own_G p.tables e below _ (T31.setTop (mkF m 124 #[.val (.long q0), .second, .val (.long q1), .second, .val (.long q2), .second, .val (.long q3), .second, .val (.long q4), .second, .val (.int md), .val (.int mm), .val (.long tq), .second, .val (.ref b1), .val (.ref b23), .val (.int (0 : Int32))] [(.int (1 : Int32))]))
        refine own_fs (XS.goto X31.here hx rfl (pc0 := 124) (pc' := 128) rfl (hb hby at_124) (by decide) (by decide) (Steps.refl _)) ?_
        show own_G p.tables e below _ (T31.setTop (mkF m 128 #[.val (.long q0), .second, .val (.long q1), .second, .val (.long q2), .second, .val (.long q3), .second, .val (.long q4), .second, .val (.int md), .val (.int mm), .val (.long tq), .second, .val (.ref b1), .val (.ref b23), .val (.int (0 : Int32))] [(.int (1 : Int32))]))
        exact own_retN X31 hx (t := .boolean) Bd.returns hlk (by simp) (hb hby at_128) (by decide) (by decide) e31 ⟨rfl, N31⟩
  show own_G p.tables e below _ (s₁.setTop (mkF m 6 #[.val (.long q0), .second, .val (.long q1), .second, .val (.long q2), .second, .val (.long q3), .second, .val (.long q4), .second, .val (.int md), .val (.int mm), .unset, .unset, .unset, .unset, .unset] []))
  refine own_fs (XS.iload X0.here hx rfl (hb hby at_6) rfl (Steps.refl _)) ?_
  show own_G p.tables e below _ (s₁.setTop (mkF m 8 #[.val (.long q0), .second, .val (.long q1), .second, .val (.long q2), .second, .val (.long q3), .second, .val (.long q4), .second, .val (.int md), .val (.int mm), .unset, .unset, .unset, .unset, .unset] [(.int mm)]))
  by_cases hc8 : mm = (0 : Int32)
  · refine own_fs (XS.ifNo X0.here hx rfl (hb hby at_8) rfl (XT.i0_ne_f hc8) (Steps.refl _)) ?_
    show own_G p.tables e below _ (s₁.setTop (mkF m 11 #[.val (.long q0), .second, .val (.long q1), .second, .val (.long q2), .second, .val (.long q3), .second, .val (.long q4), .second, .val (.int md), .val (.int mm), .unset, .unset, .unset, .unset, .unset] []))
    refine own_fs (X0.ldc2Long hx hown (mvT hZ (hw _ (List.mem_of_getElem? (i := 51) rfl))) (g := (mkF m 11 #[.val (.long q0), .second, .val (.long q1), .second, .val (.long q2), .second, .val (.long q3), .second, .val (.long q4), .second, .val (.int md), .val (.int mm), .unset, .unset, .unset, .unset, .unset] [])) rfl (hb hby at_11) _ (Steps.refl _)) ?_
    show own_G p.tables e below _ (s₁.setTop (mkF m 14 #[.val (.long q0), .second, .val (.long q1), .second, .val (.long q2), .second, .val (.long q3), .second, .val (.long q4), .second, .val (.int md), .val (.int mm), .unset, .unset, .unset, .unset, .unset] [(.long (9223372036854775807 : Int64))]))
    refine own_fs (XS.lstore X0.here hx rfl (hb hby at_14) rfl (l' := #[.val (.long q0), .second, .val (.long q1), .second, .val (.long q2), .second, .val (.long q3), .second, .val (.long q4), .second, .val (.int md), .val (.int mm), .val (.long (9223372036854775807 : Int64)), .second, .unset, .unset, .unset]) rfl (Steps.refl _)) ?_
    show own_G p.tables e below _ (s₁.setTop (mkF m 16 #[.val (.long q0), .second, .val (.long q1), .second, .val (.long q2), .second, .val (.long q3), .second, .val (.long q4), .second, .val (.int md), .val (.int mm), .val (.long (9223372036854775807 : Int64)), .second, .unset, .unset, .unset] []))
    refine own_fs (XS.goto X0.here hx rfl (pc0 := 16) (pc' := 51) rfl (hb hby at_16) (by decide) (by decide) (Steps.refl _)) ?_
    exact J51 _
  · refine own_fs (XS.ifYes X0.here hx rfl (pc0 := 8) (pc' := 19) rfl (hb hby at_8) rfl (XT.i0_ne_t hc8) (by decide) (by decide) (Steps.refl _)) ?_
    show own_G p.tables e below _ (s₁.setTop (mkF m 19 #[.val (.long q0), .second, .val (.long q1), .second, .val (.long q2), .second, .val (.long q3), .second, .val (.long q4), .second, .val (.int md), .val (.int mm), .unset, .unset, .unset, .unset, .unset] []))
    refine own_fs (XS.iload X0.here hx rfl (hb hby at_19) rfl (Steps.refl _)) ?_
    show own_G p.tables e below _ (s₁.setTop (mkF m 21 #[.val (.long q0), .second, .val (.long q1), .second, .val (.long q2), .second, .val (.long q3), .second, .val (.long q4), .second, .val (.int md), .val (.int mm), .unset, .unset, .unset, .unset, .unset] [(.int mm)]))
    refine own_fs (XS.iconst X0.here hx rfl (hb hby at_21) (Steps.refl _)) ?_
    show own_G p.tables e below _ (s₁.setTop (mkF m 22 #[.val (.long q0), .second, .val (.long q1), .second, .val (.long q2), .second, .val (.long q3), .second, .val (.long q4), .second, .val (.int md), .val (.int mm), .unset, .unset, .unset, .unset, .unset] [(.int (1 : Int32)), (.int mm)]))
    by_cases hc22 : mm = (1 : Int32)
    · refine own_fs (XS.icmpNo X0.here hx rfl (hb hby at_22) rfl (XT.ii_ne_f hc22) (Steps.refl _)) ?_
      show own_G p.tables e below _ (s₁.setTop (mkF m 25 #[.val (.long q0), .second, .val (.long q1), .second, .val (.long q2), .second, .val (.long q3), .second, .val (.long q4), .second, .val (.int md), .val (.int mm), .unset, .unset, .unset, .unset, .unset] []))
      refine own_fs (X0.ldc2Long hx hown (mvT hZ (hw _ (List.mem_of_getElem? (i := 112) rfl))) (g := (mkF m 25 #[.val (.long q0), .second, .val (.long q1), .second, .val (.long q2), .second, .val (.long q3), .second, .val (.long q4), .second, .val (.int md), .val (.int mm), .unset, .unset, .unset, .unset, .unset] [])) rfl (hb hby at_25) _ (Steps.refl _)) ?_
      show own_G p.tables e below _ (s₁.setTop (mkF m 28 #[.val (.long q0), .second, .val (.long q1), .second, .val (.long q2), .second, .val (.long q3), .second, .val (.long q4), .second, .val (.int md), .val (.int mm), .unset, .unset, .unset, .unset, .unset] [(.long (9223372036854775806 : Int64))]))
      refine own_fs (XS.lstore X0.here hx rfl (hb hby at_28) rfl (l' := #[.val (.long q0), .second, .val (.long q1), .second, .val (.long q2), .second, .val (.long q3), .second, .val (.long q4), .second, .val (.int md), .val (.int mm), .val (.long (9223372036854775806 : Int64)), .second, .unset, .unset, .unset]) rfl (Steps.refl _)) ?_
      show own_G p.tables e below _ (s₁.setTop (mkF m 30 #[.val (.long q0), .second, .val (.long q1), .second, .val (.long q2), .second, .val (.long q3), .second, .val (.long q4), .second, .val (.int md), .val (.int mm), .val (.long (9223372036854775806 : Int64)), .second, .unset, .unset, .unset] []))
      refine own_fs (XS.goto X0.here hx rfl (pc0 := 30) (pc' := 51) rfl (hb hby at_30) (by decide) (by decide) (Steps.refl _)) ?_
      exact J51 _
    · refine own_fs (XS.icmpYes X0.here hx rfl (pc0 := 22) (pc' := 33) rfl (hb hby at_22) rfl (XT.ii_ne_t hc22) (by decide) (by decide) (Steps.refl _)) ?_
      show own_G p.tables e below _ (s₁.setTop (mkF m 33 #[.val (.long q0), .second, .val (.long q1), .second, .val (.long q2), .second, .val (.long q3), .second, .val (.long q4), .second, .val (.int md), .val (.int mm), .unset, .unset, .unset, .unset, .unset] []))
      refine own_fs (XS.iload X0.here hx rfl (hb hby at_33) rfl (Steps.refl _)) ?_
      show own_G p.tables e below _ (s₁.setTop (mkF m 35 #[.val (.long q0), .second, .val (.long q1), .second, .val (.long q2), .second, .val (.long q3), .second, .val (.long q4), .second, .val (.int md), .val (.int mm), .unset, .unset, .unset, .unset, .unset] [(.int mm)]))
      refine own_fs (XS.iconst X0.here hx rfl (hb hby at_35) (Steps.refl _)) ?_
      show own_G p.tables e below _ (s₁.setTop (mkF m 36 #[.val (.long q0), .second, .val (.long q1), .second, .val (.long q2), .second, .val (.long q3), .second, .val (.long q4), .second, .val (.int md), .val (.int mm), .unset, .unset, .unset, .unset, .unset] [(.int (2 : Int32)), (.int mm)]))
      by_cases hc36 : mm = (2 : Int32)
      · refine own_fs (XS.icmpNo X0.here hx rfl (hb hby at_36) rfl (XT.ii_ne_f hc36) (Steps.refl _)) ?_
        show own_G p.tables e below _ (s₁.setTop (mkF m 39 #[.val (.long q0), .second, .val (.long q1), .second, .val (.long q2), .second, .val (.long q3), .second, .val (.long q4), .second, .val (.int md), .val (.int mm), .unset, .unset, .unset, .unset, .unset] []))
        refine own_fs (X0.ldc2Long hx hown (mvT hZ (hw _ (List.mem_of_getElem? (i := 0) rfl))) (g := (mkF m 39 #[.val (.long q0), .second, .val (.long q1), .second, .val (.long q2), .second, .val (.long q3), .second, .val (.long q4), .second, .val (.int md), .val (.int mm), .unset, .unset, .unset, .unset, .unset] [])) rfl (hb hby at_39) _ (Steps.refl _)) ?_
        show own_G p.tables e below _ (s₁.setTop (mkF m 42 #[.val (.long q0), .second, .val (.long q1), .second, .val (.long q2), .second, .val (.long q3), .second, .val (.long q4), .second, .val (.int md), .val (.int mm), .unset, .unset, .unset, .unset, .unset] [(.long (-9223372036854775808 : Int64))]))
        refine own_fs (XS.lstore X0.here hx rfl (hb hby at_42) rfl (l' := #[.val (.long q0), .second, .val (.long q1), .second, .val (.long q2), .second, .val (.long q3), .second, .val (.long q4), .second, .val (.int md), .val (.int mm), .val (.long (-9223372036854775808 : Int64)), .second, .unset, .unset, .unset]) rfl (Steps.refl _)) ?_
        show own_G p.tables e below _ (s₁.setTop (mkF m 44 #[.val (.long q0), .second, .val (.long q1), .second, .val (.long q2), .second, .val (.long q3), .second, .val (.long q4), .second, .val (.int md), .val (.int mm), .val (.long (-9223372036854775808 : Int64)), .second, .unset, .unset, .unset] []))
        refine own_fs (XS.goto X0.here hx rfl (pc0 := 44) (pc' := 51) rfl (hb hby at_44) (by decide) (by decide) (Steps.refl _)) ?_
        exact J51 _
      · refine own_fs (XS.icmpYes X0.here hx rfl (pc0 := 36) (pc' := 47) rfl (hb hby at_36) rfl (XT.ii_ne_t hc36) (by decide) (by decide) (Steps.refl _)) ?_
        show own_G p.tables e below _ (s₁.setTop (mkF m 47 #[.val (.long q0), .second, .val (.long q1), .second, .val (.long q2), .second, .val (.long q3), .second, .val (.long q4), .second, .val (.int md), .val (.int mm), .unset, .unset, .unset, .unset, .unset] []))
        refine own_fs (XS.lload X0.here hx rfl (hb hby at_47) rfl (Steps.refl _)) ?_
        show own_G p.tables e below _ (s₁.setTop (mkF m 49 #[.val (.long q0), .second, .val (.long q1), .second, .val (.long q2), .second, .val (.long q3), .second, .val (.long q4), .second, .val (.int md), .val (.int mm), .unset, .unset, .unset, .unset, .unset] [(.long q4)]))
        refine own_fs (XS.lstore X0.here hx rfl (hb hby at_49) rfl (l' := #[.val (.long q0), .second, .val (.long q1), .second, .val (.long q2), .second, .val (.long q3), .second, .val (.long q4), .second, .val (.int md), .val (.int mm), .val (.long q4), .second, .unset, .unset, .unset]) rfl (Steps.refl _)) ?_
        exact J51 _
set_option maxRecDepth 65536 in
set_option maxHeartbeats 40000000 in
theorem comes_1 {Post : Tables → Env → Array Value → State → Outcome → State → Prop} (hpost : ∀ tb e args s v u, (limb_1_1.after args s (.returned v) u = true ∧ limb_1_2.after args s (.returned v) u = true ∧ True) → FrameEnd s (.returned v) u (Jvm.fieldLocs frame_1_writes args s ++ Jvm.arrayLocs frame_1_arrays args s ++ Jvm.staticLocs frame_1_statics s) 16 128 → Post tb e args s (.returned v) u) :
    ArmFor flags0 classFile x code maxLocals ret World_1 tables_1 room_1 Calls_1 rest_1 Pre_1 Post := by
  intro l hfl _ _ p e ha hc hk s m args below hf hA hF happ hP
  obtain ⟨hcalls, hrest, hpre⟩ := hP
  obtain ⟨-, -, -, hnamed, -, -, -, hat⟩ := (Spec.applies_iff hf).mp happ
  obtain ⟨hg, hn⟩ := and_e (Cond.before_iff.mp (show (Jvm.Cond.and given_1 narrow_1).before args s = true from hpre))
  obtain ⟨hcount, hg0⟩ := and_e hg
  obtain ⟨ga0, hg1⟩ := and_e hg0
  obtain ⟨ga1, hg2⟩ := and_e hg1
  obtain ⟨ga2, hg3⟩ := and_e hg2
  obtain ⟨ga3, hg4⟩ := and_e hg3
  obtain ⟨ga4, hg5⟩ := and_e hg4
  obtain ⟨w0, w1, w2, w3, w4, w5, rfl⟩ : ∃ w0 w1 w2 w3 w4 w5 : Value, args = #[w0, w1, w2, w3, w4, w5] := by
    have hs : args.size = 6 := by simpa [Cond.value, given_1] using hcount
    obtain ⟨L⟩ := args
    match L, hs with
    | [w0, w1, w2, w3, w4, w5], _ => exact ⟨w0, w1, w2, w3, w4, w5, rfl⟩
  have hw := fun d (hd : d ∈ tables_1) => atoms_spec (ws := Jvm.Cond.code x code maxLocals ret :: tables_1) hat d (List.mem_cons_of_mem _ hd)
  have hfit : Fit s := fun {y c} hc i hi => by
    obtain ⟨ha, rfl⟩ := Array.getElem?_eq_some_iff.mp hc
    have q := List.all_eq_true.mp ((Array.all_eq_true_iff_forall_mem.mp hF) _ (Array.getElem_mem ha)) i (List.mem_range.mpr hi)
    simpa [Array.getElem?_eq_getElem hi] using q
  obtain ⟨hsets, hown0⟩ := atoms_of _ (rest_1_c_eq ▸ (show rest_1_c.before _ s = true from hrest))
  have hr0 := Cond.before_iff.mp hown0
  obtain ⟨i0, ei0⟩ := isL_v ga0
  obtain rfl : w0 = (.long i0) := Option.some.inj ei0
  obtain ⟨i1, ei1⟩ := isL_v ga1
  obtain rfl : w1 = (.long i1) := Option.some.inj ei1
  obtain ⟨i2, ei2⟩ := isL_v ga2
  obtain rfl : w2 = (.long i2) := Option.some.inj ei2
  obtain ⟨i3, ei3⟩ := isL_v ga3
  obtain rfl : w3 = (.long i3) := Option.some.inj ei3
  obtain ⟨i4, ei4⟩ := isL_v ga4
  obtain rfl : w4 = (.long i4) := Option.some.inj ei4
  obtain ⟨i5, ei5⟩ := is_v hg5
  obtain rfl : w5 = (.int i5) := Option.some.inj ei5
  obtain ⟨cb, eCb⟩ := arr_v (Cond.before_iff.mp (hsets _ (List.mem_of_getElem? (i := 11) rfl)))
  obtain ⟨cc, hAc⟩ := Arr.start eCb (Cond.before_iff.mp (hsets _ (List.mem_of_getElem? (i := 11) rfl)))
  have hSta : Sta s s.heap "java/lang/Long$LongCache" "cache" "[Ljava/lang/Long;" (.ref cb) := Sta.start eCb (Or.inl (hsets _ (List.mem_of_getElem? (i := 10) rfl)))
  have hLc := eqv_i (Term.int_eval 256) (Cond.before_iff.mp (hsets _ (List.mem_of_getElem? (i := 13) rfl)))
  obtain ⟨xc, cc', lc1, lc2, lc4⟩ := Term.length_spec hLc
  cases eCb.symm.trans lc1
  cases (hAc.fin (Vm.Alike.refl _)).symm.trans lc2
  have lc3 := own_len31 eCb (hAc.fin (Vm.Alike.refl _)) hLc
  have hBx : Bxs s cb cc "java/lang/Long" "J" (256 : Int32) own_bv := Bxs.start (fun _ => eCb) hAc lc3 (Value.int.inj lc4).symm (by decide) (Cond.before_iff.mp (hsets _ (List.mem_of_getElem? (i := 14) rfl))) (fun X j hj h => eqv_l (i2l_at (Term.sub_int (idx_at hj) (Term.int_eval 128))) h)
  obtain ⟨db, eDb⟩ := arr_v (Cond.before_iff.mp (hsets _ (List.mem_of_getElem? (i := 6) rfl)))
  obtain ⟨dc, hAd⟩ := Arr.start eDb (Cond.before_iff.mp (hsets _ (List.mem_of_getElem? (i := 6) rfl)))
  have hLd := eqv_i (Term.int_eval 0) (Cond.before_iff.mp (hsets _ (List.mem_of_getElem? (i := 8) rfl)))
  obtain ⟨xd, dc', ld1, ld2, ld4⟩ := Term.length_spec hLd
  cases eDb.symm.trans ld1
  cases (hAd.fin (Vm.Alike.refl _)).symm.trans ld2
  have ld3 := own_len31 eDb (hAd.fin (Vm.Alike.refl _)) hLd
  have hDef : own_Def s db dc := ⟨Sta.start eDb (Or.inr ⟨(hw _ (List.mem_of_getElem? (i := 3) rfl)), (hsets _ (List.mem_of_getElem? (i := 2) rfl))⟩), hAd, own_zero ld3 (Value.int.inj ld4).symm⟩
  obtain ⟨n, o, h1, h2, h3, _, L, rfl, ⟨rfl, N⟩, hq⟩ := own_law l s _ hw tables_1 i0 i1 i2 i3 i4 i5 cb cc db dc s.heap s.heap.size (Nat.le_refl _) hSta hBx hDef (Old.start s) p e ha hc hk s m _ below hf ((Spec.applies_iff_loose hf).mp happ).1 ⟨rfl, State.Warmed39.refl s, rfl⟩ trivial
  refine ⟨n, _, h1, h2, h3, hpost _ _ _ _ _ _ ⟨Cond.after_iff.mpr rfl, Cond.after_iff.mpr (eq_i res_at (Term.int_eval (1)) rfl), trivial⟩ ⟨hq.1, hq.2.1, (hq.2.2.sift fun y hy => Or.inr (N y hy)).mono (by decide) (by decide)⟩⟩
theorem main_1_1 : Claimed_1_1 := comes_1 fun _ _ _ _ _ _ h hF => ⟨h.1, hF⟩
theorem main_1_2 : Claimed_1_2 := comes_1 fun _ _ _ _ _ _ h hF => ⟨h.2.1, hF⟩
end Jvm.Pilot.@@N@@
namespace Jvm.Pilot.@@N@@
open Jvm Jvm.ClassFile Sem Op Lib Jvm.Free Jvm.Stand Jvm.Pilot.@@N@@.Jvm.D
/-! MADE BY PROGRAM (witnessworld.py) out of the Statement's table words and the real class files: 27 classes; the members and pool entries that the words name. The judged class is class 1, her method 1. -/
namespace start1
open Jvm.ClassFile
def u (s : String) : CpInfo := .utf8 (stringToUtf16 s)
/-- a pool by its gaps: so many unusable entries, then the entry; so many at the end -/
def gap : Nat → List CpInfo → List CpInfo
  | 0, r => r
  | n + 1, r => .unusable :: gap n r
def poolList (es : List (Nat × CpInfo)) (last : Nat) : List CpInfo := es.foldr (fun e r => gap e.1 (e.2 :: r)) (gap last [])
def pool (es : List (Nat × CpInfo)) (last : Nat) : Array CpInfo := ⟨poolList es last⟩
def fileOf (pool : Array CpInfo) (this : Nat) (attrs : Array Attribute := #[]) (ms : Array MethodInfo := #[]) (fl : Nat := 33) (sup : Nat := 0) (ifs : Array Nat := #[]) (fds : Array FieldInfo := #[]) : ClassFile where
  minorVersion := 0
  majorVersion := 65
  constantPool := pool
  accessFlags := fl
  thisClass := this
  superClass := sup
  interfaces := ifs
  fields := fds
  methods := ms
  attributes := attrs
def plain (name : String) (sup : Option ClassId) : Class where
  name := name
  kind := .ordinary
  loader := none
  accessFlags := 33
  super := sup
  interfaces := #[]
  cf := none
  fields := #[]
  methods := #[]
  instanceTypes := #[]
  staticTypes := #[]
  resolved := #[]
  callSites := []
  init := .initialized
  statics := none
  mirror := none

def pool0 : Array CpInfo := pool [(5, u "<init>"), (0, u "()V"), (1, .class_ 10), (1, u "java/lang/Object")] 113

def k0c0 : Code := { maxStack := 0, maxLocals := 1, code := object_method_1_code, exceptionTable := #[], attributes := #[] }
def k0m0 : Method := { name := "<init>", desc := "()V", sig := { parameters := [], returnType := none }, accessFlags := 1, code := some k0c0 }
/-- java/lang/Object -/
def k0 : Class := { plain "java/lang/Object" none with
  accessFlags := 33
  interfaces := #[]
  cf := some (fileOf pool0 8 #[] #[{ accessFlags := 1, nameIndex := 5, descriptorIndex := 6, attributes := #[] }] 33 0 #[] #[])
  fields := #[]
  methods := #[k0m0]
  instanceTypes := #[]
  staticTypes := #[]
  resolved := Array.replicate 124 none
  statics := none }

def pool1 : Array CpInfo := pool [(2, .class_ 4), (0, .nameAndType 5 6), (0, u "java/lang/Object"), (0, u "<init>"), (0, u "()V"), (0, .class_ 8), (0, u "java/lang/Long"), (0, .long 9223372036854775807), (1, .long 9223372036854775806), (1, .long 9223372036854775808), (1, .class_ 16), (0, u "java/util/ArrayList"), (0, .methodref 15 3), (0, .methodref 7 19), (0, .nameAndType 20 21), (0, u "valueOf"), (0, u "(J)Ljava/lang/Long;"), (0, .methodref 15 23), (0, .nameAndType 24 25), (0, u "add"), (0, u "(Ljava/lang/Object;)Z"), (0, .class_ 27), (0, u "com/example/cast3/cast3/Inbox$Run"), (0, .methodref 26 29), (0, .nameAndType 5 30), (0, u "(JJJJJLjava/util/List;)V"), (0, .methodref 26 32), (0, .nameAndType 33 34), (0, u "last"), (0, u "()Z"), (0, .class_ 36), (0, u "com/example/cast3/cast3/RunLastPinLaw"), (2, u "law"), (0, u "(JJJJJI)Z")] 7

def k1m0 : Method := { name := "<init>", desc := "()V", sig := { parameters := [], returnType := none }, accessFlags := 2, code := none }
def k1c1 : Code := { maxStack := 13, maxLocals := 17, code := code, exceptionTable := #[], attributes := #[] }
def k1m1 : Method := { name := "law", desc := "(JJJJJI)Z", sig := { parameters := [.long, .long, .long, .long, .long, .int], returnType := some .boolean }, accessFlags := 9, code := some k1c1 }
/-- com/example/cast3/cast3/RunLastPinLaw -/
def k1 : Class := { plain "com/example/cast3/cast3/RunLastPinLaw" (some 0) with
  accessFlags := 49
  interfaces := #[]
  cf := some (fileOf pool1 35 #[] #[{ accessFlags := 2, nameIndex := 5, descriptorIndex := 6, attributes := #[] }, { accessFlags := 9, nameIndex := 39, descriptorIndex := 40, attributes := #[] }] 49 2 #[] #[])
  fields := #[]
  methods := #[k1m0, k1m1]
  instanceTypes := #[]
  staticTypes := #[]
  resolved := Array.replicate 48 none
  statics := none }

def pool2 : Array CpInfo := pool [(8, .class_ 10), (1, u "java/lang/Iterable"), (24, .class_ 36), (0, u "java/lang/Object")] 25

/-- java/lang/Iterable -/
def k2 : Class := { plain "java/lang/Iterable" (some 0) with
  accessFlags := 1537
  interfaces := #[]
  cf := some (fileOf pool2 8 #[] #[] 1537 35 #[] #[])
  fields := #[]
  methods := #[]
  instanceTypes := #[]
  staticTypes := #[]
  resolved := Array.replicate 62 none
  statics := none }

def pool3 : Array CpInfo := pool [(10, .class_ 12), (1, u "java/util/Collection"), (47, .class_ 61), (0, u "java/lang/Object"), (0, .class_ 63), (0, u "java/lang/Iterable")] 51

/-- java/util/Collection -/
def k3 : Class := { plain "java/util/Collection" (some 0) with
  accessFlags := 1537
  interfaces := #[2]
  cf := some (fileOf pool3 10 #[] #[] 1537 60 #[62] #[])
  fields := #[]
  methods := #[]
  instanceTypes := #[]
  staticTypes := #[]
  resolved := Array.replicate 115 none
  statics := none }

def pool4 : Array CpInfo := pool [(1, .methodref 2 3), (0, .class_ 4), (0, .nameAndType 5 6), (0, u "java/lang/Object"), (0, u "<init>"), (0, u "()V"), (1, .class_ 10), (1, u "java/util/AbstractCollection"), (66, .class_ 78), (0, u "java/util/Collection")] 81

def k4c0 : Code := { maxStack := 1, maxLocals := 1, code := jdk_22_method_1_code, exceptionTable := #[], attributes := #[] }
def k4m0 : Method := { name := "<init>", desc := "()V", sig := { parameters := [], returnType := none }, accessFlags := 4, code := some k4c0 }
/-- java/util/AbstractCollection -/
def k4 : Class := { plain "java/util/AbstractCollection" (some 0) with
  accessFlags := 1057
  interfaces := #[3]
  cf := some (fileOf pool4 8 #[] #[{ accessFlags := 4, nameIndex := 5, descriptorIndex := 6, attributes := #[] }] 1057 2 #[77] #[])
  fields := #[]
  methods := #[k4m0]
  instanceTypes := #[]
  staticTypes := #[]
  resolved := Array.replicate 160 none
  statics := none }

def pool5 : Array CpInfo := pool [(8, .class_ 10), (1, u "java/util/SequencedCollection"), (15, .class_ 27), (0, u "java/lang/Object"), (0, .class_ 29), (0, u "java/util/Collection")] 27

/-- java/util/SequencedCollection -/
def k5 : Class := { plain "java/util/SequencedCollection" (some 0) with
  accessFlags := 1537
  interfaces := #[3]
  cf := some (fileOf pool5 8 #[] #[] 1537 26 #[28] #[])
  fields := #[]
  methods := #[]
  instanceTypes := #[]
  staticTypes := #[]
  resolved := Array.replicate 57 none
  statics := none }

def pool6 : Array CpInfo := pool [(8, .class_ 10), (1, u "java/util/List"), (92, .class_ 104), (0, u "java/lang/Object"), (15, .class_ 121), (0, u "java/util/SequencedCollection")] 129

/-- java/util/List -/
def k6 : Class := { plain "java/util/List" (some 0) with
  accessFlags := 1537
  interfaces := #[5]
  cf := some (fileOf pool6 8 #[] #[] 1537 103 #[120] #[])
  fields := #[]
  methods := #[]
  instanceTypes := #[]
  staticTypes := #[]
  resolved := Array.replicate 251 none
  statics := none }

def pool7 : Array CpInfo := pool [(1, .methodref 2 3), (0, .class_ 4), (0, .nameAndType 5 6), (0, u "java/util/AbstractCollection"), (0, u "<init>"), (0, u "()V"), (0, .fieldref 8 9), (0, .class_ 10), (0, .nameAndType 11 12), (0, u "java/util/AbstractList"), (0, u "modCount"), (0, u "I"), (64, .class_ 78), (0, u "java/util/AbstractList$Itr"), (3, .class_ 83), (0, u "java/util/AbstractList$ListItr"), (9, .class_ 94), (0, u "java/util/AbstractList$RandomAccessSubList"), (3, .class_ 99), (0, u "java/util/AbstractList$SubList"), (33, .class_ 134), (0, u "java/util/List"), (73, .class_ 209), (0, u "java/util/AbstractList$SubList$1"), (0, .class_ 211), (0, u "java/util/AbstractList$RandomAccessSpliterator")] 6

def k7c0 : Code := { maxStack := 2, maxLocals := 1, code := jdk_39_method_1_code, exceptionTable := #[], attributes := #[] }
def k7m0 : Method := { name := "<init>", desc := "()V", sig := { parameters := [], returnType := none }, accessFlags := 4, code := some k7c0 }
/-- java/util/AbstractList -/
def k7 : Class := { plain "java/util/AbstractList" (some 4) with
  accessFlags := 1057
  interfaces := #[6]
  cf := some (fileOf pool7 8 #[.nestMembers #[93, 98, 208, 210, 82, 77]] #[{ accessFlags := 4, nameIndex := 5, descriptorIndex := 6, attributes := #[] }] 1057 2 #[133] #[{ accessFlags := 132, nameIndex := 11, descriptorIndex := 12, attributes := #[] }])
  fields := #[{ name := "modCount", type := .int, accessFlags := 132, slot := 0, constantValue := 0 }]
  methods := #[k7m0]
  instanceTypes := #[.int]
  staticTypes := #[]
  resolved := Array.replicate 218 none
  statics := none }

def pool8 : Array CpInfo := pool [(1, .class_ 2), (0, u "java/util/RandomAccess"), (0, .class_ 4), (0, u "java/lang/Object")] 2

/-- java/util/RandomAccess -/
def k8 : Class := { plain "java/util/RandomAccess" (some 0) with
  accessFlags := 1537
  interfaces := #[]
  cf := some (fileOf pool8 1 #[] #[] 1537 3 #[] #[])
  fields := #[]
  methods := #[]
  instanceTypes := #[]
  staticTypes := #[]
  resolved := Array.replicate 7 none
  statics := none }

def pool9 : Array CpInfo := pool [(1, .class_ 2), (0, u "java/lang/Cloneable"), (0, .class_ 4), (0, u "java/lang/Object")] 2

/-- java/lang/Cloneable -/
def k9 : Class := { plain "java/lang/Cloneable" (some 0) with
  accessFlags := 1537
  interfaces := #[]
  cf := some (fileOf pool9 1 #[] #[] 1537 3 #[] #[])
  fields := #[]
  methods := #[]
  instanceTypes := #[]
  staticTypes := #[]
  resolved := Array.replicate 7 none
  statics := none }

def pool10 : Array CpInfo := pool [(1, .class_ 2), (0, u "java/io/Serializable"), (0, .class_ 4), (0, u "java/lang/Object")] 2

/-- java/io/Serializable -/
def k10 : Class := { plain "java/io/Serializable" (some 0) with
  accessFlags := 1537
  interfaces := #[]
  cf := some (fileOf pool10 1 #[] #[] 1537 3 #[] #[])
  fields := #[]
  methods := #[]
  instanceTypes := #[]
  staticTypes := #[]
  resolved := Array.replicate 7 none
  statics := none }

def pool11 : Array CpInfo := pool [(1, .methodref 2 3), (0, .class_ 4), (0, .nameAndType 5 6), (0, u "java/util/AbstractList"), (0, u "<init>"), (0, u "()V"), (0, .class_ 8), (0, u "java/lang/Object"), (0, .fieldref 10 11), (0, .class_ 12), (0, .nameAndType 13 14), (0, u "java/util/ArrayList"), (0, u "elementData"), (0, u "[Ljava/lang/Object;"), (2, u "EMPTY_ELEMENTDATA"), (21, .fieldref 10 40), (0, .nameAndType 41 14), (0, u "DEFAULTCAPACITY_EMPTY_ELEMENTDATA"), (5, u "()[Ljava/lang/Object;"), (0, .fieldref 10 49), (0, .nameAndType 50 51), (0, u "size"), (0, u "I"), (11, .fieldref 10 64), (0, .nameAndType 65 51), (0, u "modCount"), (3, .methodref 10 70), (0, .nameAndType 71 72), (0, u "grow"), (0, u "(I)[Ljava/lang/Object;"), (6, .methodref 80 81), (0, .class_ 82), (0, .nameAndType 83 84), (0, u "java/lang/Math"), (0, u "max"), (0, u "(II)I"), (11, u "(Ljava/lang/Object;)Z"), (32, .methodref 10 130), (0, .nameAndType 71 47), (0, .methodref 10 132), (0, .nameAndType 133 134), (0, u "add"), (0, u "(Ljava/lang/Object;[Ljava/lang/Object;I)V"), (13, .class_ 149), (0, u "java/util/List"), (112, .class_ 263), (0, u "java/util/ArrayList$ListItr"), (3, .class_ 268), (0, u "java/util/ArrayList$Itr"), (7, .class_ 277), (0, u "java/util/ArrayList$SubList"), (12, .class_ 291), (0, u "java/util/ArrayList$ArrayListSpliterator"), (37, .class_ 330), (0, u "java/util/RandomAccess"), (0, .class_ 332), (0, u "java/lang/Cloneable"), (0, .class_ 334), (0, u "java/io/Serializable"), (0, u "serialVersionUID"), (0, u "J"), (3, u "DEFAULT_CAPACITY"), (159, .class_ 501), (0, u "java/util/ArrayList$SubList$2"), (0, .class_ 503), (0, u "java/util/ArrayList$SubList$1")] 5

def k11c0 : Code := { maxStack := 2, maxLocals := 1, code := jdk_38_method_2_code, exceptionTable := #[], attributes := #[] }
def k11m0 : Method := { name := "<init>", desc := "()V", sig := { parameters := [], returnType := none }, accessFlags := 1, code := some k11c0 }
def k11c1 : Code := { maxStack := 4, maxLocals := 4, code := jdk_38_method_6_code, exceptionTable := #[], attributes := #[] }
def k11m1 : Method := { name := "grow", desc := "(I)[Ljava/lang/Object;", sig := { parameters := [.int], returnType := some (.array (.object "java/lang/Object")) }, accessFlags := 2, code := some k11c1 }
def k11c2 : Code := { maxStack := 3, maxLocals := 1, code := jdk_38_method_7_code, exceptionTable := #[], attributes := #[] }
def k11m2 : Method := { name := "grow", desc := "()[Ljava/lang/Object;", sig := { parameters := [], returnType := some (.array (.object "java/lang/Object")) }, accessFlags := 2, code := some k11c2 }
def k11c3 : Code := { maxStack := 3, maxLocals := 4, code := jdk_38_method_24_code, exceptionTable := #[], attributes := #[] }
def k11m3 : Method := { name := "add", desc := "(Ljava/lang/Object;[Ljava/lang/Object;I)V", sig := { parameters := [(.object "java/lang/Object"), (.array (.object "java/lang/Object")), .int], returnType := none }, accessFlags := 2, code := some k11c3 }
def k11c4 : Code := { maxStack := 4, maxLocals := 2, code := jdk_38_method_25_code, exceptionTable := #[], attributes := #[] }
def k11m4 : Method := { name := "add", desc := "(Ljava/lang/Object;)Z", sig := { parameters := [(.object "java/lang/Object")], returnType := some .boolean }, accessFlags := 1, code := some k11c4 }
/-- java/util/ArrayList -/
def k11 : Class := { plain "java/util/ArrayList" (some 7) with
  accessFlags := 33
  interfaces := #[6, 8, 9, 10]
  cf := some (fileOf pool11 10 #[.nestMembers #[290, 276, 500, 502, 262, 267]] #[{ accessFlags := 1, nameIndex := 5, descriptorIndex := 6, attributes := #[] }, { accessFlags := 2, nameIndex := 71, descriptorIndex := 72, attributes := #[] }, { accessFlags := 2, nameIndex := 71, descriptorIndex := 47, attributes := #[] }, { accessFlags := 2, nameIndex := 133, descriptorIndex := 134, attributes := #[] }, { accessFlags := 1, nameIndex := 133, descriptorIndex := 96, attributes := #[] }] 33 2 #[148, 329, 331, 333] #[{ accessFlags := 26, nameIndex := 335, descriptorIndex := 336, attributes := #[] }, { accessFlags := 26, nameIndex := 340, descriptorIndex := 51, attributes := #[] }, { accessFlags := 26, nameIndex := 17, descriptorIndex := 14, attributes := #[] }, { accessFlags := 26, nameIndex := 41, descriptorIndex := 14, attributes := #[] }, { accessFlags := 128, nameIndex := 13, descriptorIndex := 14, attributes := #[] }, { accessFlags := 2, nameIndex := 50, descriptorIndex := 51, attributes := #[] }])
  fields := #[{ name := "serialVersionUID", type := .long, accessFlags := 26, slot := 0, constantValue := 0 }, { name := "DEFAULT_CAPACITY", type := .int, accessFlags := 26, slot := 1, constantValue := 0 }, { name := "EMPTY_ELEMENTDATA", type := (.array (.object "java/lang/Object")), accessFlags := 26, slot := 2, constantValue := 0 }, { name := "DEFAULTCAPACITY_EMPTY_ELEMENTDATA", type := (.array (.object "java/lang/Object")), accessFlags := 26, slot := 3, constantValue := 0 }, { name := "elementData", type := (.array (.object "java/lang/Object")), accessFlags := 128, slot := 1, constantValue := 0 }, { name := "size", type := .int, accessFlags := 2, slot := 2, constantValue := 0 }]
  methods := #[k11m0, k11m1, k11m2, k11m3, k11m4]
  instanceTypes := #[.int, (.array (.object "java/lang/Object")), .int]
  staticTypes := #[.long, .int, (.array (.object "java/lang/Object")), (.array (.object "java/lang/Object"))]
  resolved := Array.replicate 509 none
  statics := some 0 }

def pool12 : Array CpInfo := pool [(1, .methodref 2 3), (0, .class_ 4), (0, .nameAndType 5 6), (0, u "java/lang/Object"), (0, u "<init>"), (0, u "()V"), (0, .class_ 8), (0, u "java/lang/Record")] 13

def k12c0 : Code := { maxStack := 1, maxLocals := 1, code := jdk_30_method_1_code, exceptionTable := #[], attributes := #[] }
def k12m0 : Method := { name := "<init>", desc := "()V", sig := { parameters := [], returnType := none }, accessFlags := 4, code := some k12c0 }
/-- java/lang/Record -/
def k12 : Class := { plain "java/lang/Record" (some 0) with
  accessFlags := 1057
  interfaces := #[]
  cf := some (fileOf pool12 7 #[] #[{ accessFlags := 4, nameIndex := 5, descriptorIndex := 6, attributes := #[] }] 1057 2 #[] #[])
  fields := #[]
  methods := #[k12m0]
  instanceTypes := #[]
  staticTypes := #[]
  resolved := Array.replicate 22 none
  statics := none }

def pool13 : Array CpInfo := pool [(1, .methodref 2 3), (0, .class_ 4), (0, .nameAndType 5 6), (0, u "java/lang/Record"), (0, u "<init>"), (0, u "()V"), (0, .fieldref 8 9), (0, .class_ 10), (0, .nameAndType 11 12), (0, u "com/example/cast3/cast3/Inbox$Run"), (0, u "post"), (0, u "J"), (0, .fieldref 8 14), (0, .nameAndType 15 12), (0, u "author"), (0, .fieldref 8 17), (0, .nameAndType 18 12), (0, u "publishedAt"), (0, .fieldref 8 20), (0, .nameAndType 21 12), (0, u "from"), (0, .fieldref 8 23), (0, .nameAndType 24 12), (0, u "to"), (0, .fieldref 8 26), (0, .nameAndType 27 28), (0, u "followers"), (0, u "Ljava/util/List;"), (2, .long 9223372036854775807), (15, u "(JJJJJLjava/util/List;)V"), (4, u "last"), (0, u "()Z"), (10, .class_ 65), (0, u "com/example/cast3/cast3/Inbox")] 24

def k13c0 : Code := { maxStack := 3, maxLocals := 12, code := prog_6_method_1_code, exceptionTable := #[], attributes := #[] }
def k13m0 : Method := { name := "<init>", desc := "(JJJJJLjava/util/List;)V", sig := { parameters := [.long, .long, .long, .long, .long, (.object "java/util/List")], returnType := none }, accessFlags := 1, code := some k13c0 }
def k13c1 : Code := { maxStack := 4, maxLocals := 1, code := prog_6_method_2_code, exceptionTable := #[], attributes := #[] }
def k13m1 : Method := { name := "last", desc := "()Z", sig := { parameters := [], returnType := some .boolean }, accessFlags := 1, code := some k13c1 }
/-- com/example/cast3/cast3/Inbox$Run -/
def k13 : Class := { plain "com/example/cast3/cast3/Inbox$Run" (some 12) with
  accessFlags := 49
  interfaces := #[]
  cf := some (fileOf pool13 8 #[.nestHost 64] #[{ accessFlags := 1, nameIndex := 5, descriptorIndex := 47, attributes := #[] }, { accessFlags := 1, nameIndex := 52, descriptorIndex := 53, attributes := #[] }] 49 2 #[] #[{ accessFlags := 18, nameIndex := 11, descriptorIndex := 12, attributes := #[] }, { accessFlags := 18, nameIndex := 15, descriptorIndex := 12, attributes := #[] }, { accessFlags := 18, nameIndex := 18, descriptorIndex := 12, attributes := #[] }, { accessFlags := 18, nameIndex := 21, descriptorIndex := 12, attributes := #[] }, { accessFlags := 18, nameIndex := 24, descriptorIndex := 12, attributes := #[] }, { accessFlags := 18, nameIndex := 27, descriptorIndex := 28, attributes := #[] }])
  fields := #[{ name := "post", type := .long, accessFlags := 18, slot := 0, constantValue := 0 }, { name := "author", type := .long, accessFlags := 18, slot := 1, constantValue := 0 }, { name := "publishedAt", type := .long, accessFlags := 18, slot := 2, constantValue := 0 }, { name := "from", type := .long, accessFlags := 18, slot := 3, constantValue := 0 }, { name := "to", type := .long, accessFlags := 18, slot := 4, constantValue := 0 }, { name := "followers", type := (.object "java/util/List"), accessFlags := 18, slot := 5, constantValue := 0 }]
  methods := #[k13m0, k13m1]
  instanceTypes := #[.long, .long, .long, .long, .long, (.object "java/util/List")]
  staticTypes := #[]
  resolved := Array.replicate 90 none
  statics := none }

def pool14 : Array CpInfo := pool [(1, .methodref 2 3), (0, .class_ 4), (0, .nameAndType 5 6), (0, u "java/lang/Object"), (0, u "<init>"), (0, u "()V"), (1, .class_ 10), (1, u "java/lang/Number"), (2, .class_ 14), (0, u "java/io/Serializable"), (0, u "serialVersionUID"), (0, u "J")] 20

def k14c0 : Code := { maxStack := 1, maxLocals := 1, code := jdk_18_method_1_code, exceptionTable := #[], attributes := #[] }
def k14m0 : Method := { name := "<init>", desc := "()V", sig := { parameters := [], returnType := none }, accessFlags := 1, code := some k14c0 }
/-- java/lang/Number -/
def k14 : Class := { plain "java/lang/Number" (some 0) with
  accessFlags := 1057
  interfaces := #[10]
  cf := some (fileOf pool14 8 #[] #[{ accessFlags := 1, nameIndex := 5, descriptorIndex := 6, attributes := #[] }] 1057 2 #[13] #[{ accessFlags := 26, nameIndex := 15, descriptorIndex := 16, attributes := #[] }])
  fields := #[{ name := "serialVersionUID", type := .long, accessFlags := 26, slot := 0, constantValue := 0 }]
  methods := #[k14m0]
  instanceTypes := #[]
  staticTypes := #[.long]
  resolved := Array.replicate 37 none
  statics := none }

def pool15 : Array CpInfo := pool [(1, .class_ 2), (0, u "java/lang/Comparable"), (0, .class_ 4), (0, u "java/lang/Object")] 7

/-- java/lang/Comparable -/
def k15 : Class := { plain "java/lang/Comparable" (some 0) with
  accessFlags := 1537
  interfaces := #[]
  cf := some (fileOf pool15 1 #[] #[] 1537 3 #[] #[])
  fields := #[]
  methods := #[]
  instanceTypes := #[]
  staticTypes := #[]
  resolved := Array.replicate 12 none
  statics := none }

def pool16 : Array CpInfo := pool [(1, .class_ 2), (0, u "java/lang/constant/Constable"), (0, .class_ 4), (0, u "java/lang/Object")] 6

/-- java/lang/constant/Constable -/
def k16 : Class := { plain "java/lang/constant/Constable" (some 0) with
  accessFlags := 1537
  interfaces := #[]
  cf := some (fileOf pool16 1 #[] #[] 1537 3 #[] #[])
  fields := #[]
  methods := #[]
  instanceTypes := #[]
  staticTypes := #[]
  resolved := Array.replicate 11 none
  statics := none }

def pool17 : Array CpInfo := pool [(1, .class_ 2), (0, u "java/lang/constant/ConstantDesc"), (0, .class_ 4), (0, u "java/lang/Object")] 32

/-- java/lang/constant/ConstantDesc -/
def k17 : Class := { plain "java/lang/constant/ConstantDesc" (some 0) with
  accessFlags := 1537
  interfaces := #[]
  cf := some (fileOf pool17 1 #[] #[] 1537 3 #[] #[])
  fields := #[]
  methods := #[]
  instanceTypes := #[]
  staticTypes := #[]
  resolved := Array.replicate 37 none
  statics := none }

def pool18 : Array CpInfo := pool [(1, .class_ 2), (0, u "java/lang/Long"), (55, .nameAndType 59 60), (0, u "<init>"), (0, u "()V"), (24, u "valueOf"), (143, u "(J)Ljava/lang/Long;"), (0, .long 18446744073709551488), (1, .long 127), (1, .fieldref 235 236), (0, .class_ 237), (0, .nameAndType 238 239), (0, u "java/lang/Long$LongCache"), (0, u "cache"), (0, u "[Ljava/lang/Long;"), (0, .methodref 1 241), (0, .nameAndType 59 242), (0, u "(J)V"), (27, .methodref 271 58), (0, .class_ 272), (0, u "java/lang/Number"), (0, .fieldref 1 274), (0, .nameAndType 275 276), (0, u "value"), (0, u "J"), (84, u "TYPE"), (0, u "Ljava/lang/Class;"), (0, .class_ 364), (0, u "java/lang/Comparable"), (0, .class_ 366), (0, u "java/lang/constant/Constable"), (0, .class_ 368), (0, u "java/lang/constant/ConstantDesc"), (0, u "MIN_VALUE"), (1, u "MAX_VALUE"), (4, u "SIZE"), (0, u "I"), (1, u "BYTES"), (1, u "serialVersionUID")] 142

def k18c0 : Code := { maxStack := 4, maxLocals := 3, code := jdk_35_method_24_code, exceptionTable := #[], attributes := #[] }
def k18m0 : Method := { name := "valueOf", desc := "(J)Ljava/lang/Long;", sig := { parameters := [.long], returnType := some (.object "java/lang/Long") }, accessFlags := 9, code := some k18c0 }
def k18c1 : Code := { maxStack := 3, maxLocals := 3, code := jdk_35_method_26_code, exceptionTable := #[], attributes := #[] }
def k18m1 : Method := { name := "<init>", desc := "(J)V", sig := { parameters := [.long], returnType := none }, accessFlags := 1, code := some k18c1 }
/-- java/lang/Long -/
def k18 : Class := { plain "java/lang/Long" (some 14) with
  accessFlags := 49
  interfaces := #[15, 16, 17]
  cf := some (fileOf pool18 1 #[.nestMembers #[235]] #[{ accessFlags := 9, nameIndex := 85, descriptorIndex := 229, attributes := #[] }, { accessFlags := 1, nameIndex := 59, descriptorIndex := 242, attributes := #[] }] 49 271 #[363, 365, 367] #[{ accessFlags := 25, nameIndex := 369, descriptorIndex := 276, attributes := #[] }, { accessFlags := 25, nameIndex := 371, descriptorIndex := 276, attributes := #[] }, { accessFlags := 25, nameIndex := 361, descriptorIndex := 362, attributes := #[] }, { accessFlags := 18, nameIndex := 275, descriptorIndex := 276, attributes := #[] }, { accessFlags := 25, nameIndex := 376, descriptorIndex := 377, attributes := #[] }, { accessFlags := 25, nameIndex := 379, descriptorIndex := 377, attributes := #[] }, { accessFlags := 26, nameIndex := 381, descriptorIndex := 276, attributes := #[] }])
  fields := #[{ name := "MIN_VALUE", type := .long, accessFlags := 25, slot := 0, constantValue := 0 }, { name := "MAX_VALUE", type := .long, accessFlags := 25, slot := 1, constantValue := 0 }, { name := "TYPE", type := (.object "java/lang/Class"), accessFlags := 25, slot := 2, constantValue := 0 }, { name := "value", type := .long, accessFlags := 18, slot := 0, constantValue := 0 }, { name := "SIZE", type := .int, accessFlags := 25, slot := 3, constantValue := 0 }, { name := "BYTES", type := .int, accessFlags := 25, slot := 4, constantValue := 0 }, { name := "serialVersionUID", type := .long, accessFlags := 26, slot := 5, constantValue := 0 }]
  methods := #[k18m0, k18m1]
  instanceTypes := #[.long]
  staticTypes := #[.long, .long, (.object "java/lang/Class"), .int, .int, .long]
  resolved := Array.replicate 524 none
  statics := none }

def pool19 : Array CpInfo := pool [(2, .class_ 4), (1, u "java/lang/Object"), (0, u "<init>"), (0, u "()V"), (0, .class_ 8), (0, u "java/lang/Long"), (7, .class_ 18), (1, u "java/lang/Long$LongCache"), (0, u "$assertionsDisabled"), (0, u "Z"), (8, u "archivedCache"), (0, u "[Ljava/lang/Long;"), (7, u "cache")] 24

def k19m0 : Method := { name := "<init>", desc := "()V", sig := { parameters := [], returnType := none }, accessFlags := 2, code := none }
/-- java/lang/Long$LongCache -/
def k19 : Class := { plain "java/lang/Long$LongCache" (some 0) with
  accessFlags := 48
  interfaces := #[]
  cf := some (fileOf pool19 16 #[.nestHost 7] #[{ accessFlags := 2, nameIndex := 5, descriptorIndex := 6, attributes := #[] }] 48 2 #[] #[{ accessFlags := 24, nameIndex := 38, descriptorIndex := 30, attributes := #[] }, { accessFlags := 8, nameIndex := 29, descriptorIndex := 30, attributes := #[] }, { accessFlags := 4120, nameIndex := 19, descriptorIndex := 20, attributes := #[] }])
  fields := #[{ name := "cache", type := (.array (.object "java/lang/Long")), accessFlags := 24, slot := 0, constantValue := 0 }, { name := "archivedCache", type := (.array (.object "java/lang/Long")), accessFlags := 8, slot := 1, constantValue := 0 }, { name := "$assertionsDisabled", type := .boolean, accessFlags := 4120, slot := 2, constantValue := 0 }]
  methods := #[k19m0]
  instanceTypes := #[]
  staticTypes := #[(.array (.object "java/lang/Long")), (.array (.object "java/lang/Long")), .boolean]
  resolved := Array.replicate 63 none
  statics := some 1 }

def pool20 : Array CpInfo := pool [(1, .class_ 2), (0, u "java/lang/Math"), (1, .class_ 6), (1, u "java/lang/Object"), (0, u "<init>"), (0, u "()V"), (89, .class_ 100), (1, u "java/lang/Math$RandomNumberGeneratorHolder"), (71, u "negativeZeroFloatBits"), (0, u "J"), (2, u "negativeZeroDoubleBits"), (21, u "max"), (46, u "$assertionsDisabled"), (0, u "Z"), (88, u "(II)I"), (2, u "twoToTheDoubleScaleDown"), (0, u "D"), (4, u "twoToTheDoubleScaleUp"), (9, u "E"), (3, u "PI"), (2, u "TAU"), (2, u "DEGREES_TO_RADIANS"), (0, u "RADIANS_TO_DEGREES")] 94

def k20m0 : Method := { name := "<init>", desc := "()V", sig := { parameters := [], returnType := none }, accessFlags := 2, code := none }
def k20c1 : Code := { maxStack := 2, maxLocals := 2, code := jdk_29_method_65_code, exceptionTable := #[], attributes := #[] }
def k20m1 : Method := { name := "max", desc := "(II)I", sig := { parameters := [.int, .int], returnType := some .int }, accessFlags := 9, code := some k20c1 }
/-- java/lang/Math -/
def k20 : Class := { plain "java/lang/Math" (some 0) with
  accessFlags := 49
  interfaces := #[]
  cf := some (fileOf pool20 1 #[.nestMembers #[98]] #[{ accessFlags := 2, nameIndex := 7, descriptorIndex := 8, attributes := #[] }, { accessFlags := 9, nameIndex := 198, descriptorIndex := 335, attributes := #[] }] 49 4 #[] #[{ accessFlags := 25, nameIndex := 354, descriptorIndex := 339, attributes := #[] }, { accessFlags := 25, nameIndex := 358, descriptorIndex := 339, attributes := #[] }, { accessFlags := 25, nameIndex := 361, descriptorIndex := 339, attributes := #[] }, { accessFlags := 26, nameIndex := 364, descriptorIndex := 339, attributes := #[] }, { accessFlags := 26, nameIndex := 365, descriptorIndex := 339, attributes := #[] }, { accessFlags := 26, nameIndex := 172, descriptorIndex := 173, attributes := #[] }, { accessFlags := 26, nameIndex := 176, descriptorIndex := 173, attributes := #[] }, { accessFlags := 8, nameIndex := 344, descriptorIndex := 339, attributes := #[] }, { accessFlags := 8, nameIndex := 338, descriptorIndex := 339, attributes := #[] }, { accessFlags := 4120, nameIndex := 245, descriptorIndex := 246, attributes := #[] }])
  fields := #[{ name := "E", type := .double, accessFlags := 25, slot := 0, constantValue := 0 }, { name := "PI", type := .double, accessFlags := 25, slot := 1, constantValue := 0 }, { name := "TAU", type := .double, accessFlags := 25, slot := 2, constantValue := 0 }, { name := "DEGREES_TO_RADIANS", type := .double, accessFlags := 26, slot := 3, constantValue := 0 }, { name := "RADIANS_TO_DEGREES", type := .double, accessFlags := 26, slot := 4, constantValue := 0 }, { name := "negativeZeroFloatBits", type := .long, accessFlags := 26, slot := 5, constantValue := 0 }, { name := "negativeZeroDoubleBits", type := .long, accessFlags := 26, slot := 6, constantValue := 0 }, { name := "twoToTheDoubleScaleUp", type := .double, accessFlags := 8, slot := 7, constantValue := 0 }, { name := "twoToTheDoubleScaleDown", type := .double, accessFlags := 8, slot := 8, constantValue := 0 }, { name := "$assertionsDisabled", type := .boolean, accessFlags := 4120, slot := 9, constantValue := 0 }]
  methods := #[k20m0, k20m1]
  instanceTypes := #[]
  staticTypes := #[.double, .double, .double, .double, .double, .long, .long, .double, .double, .boolean]
  resolved := Array.replicate 460 none
  statics := none }

/-- the primitive byte -/
def k21 : Class := { plain "byte" none with kind := .primitive 'B', accessFlags := 0x411 }
/-- [B -/
def k22 : Class := { plain "[B" (some 0) with kind := .array 21 .byte, interfaces := #[9, 10], accessFlags := 1041 }

/-- the primitive int -/
def k23 : Class := { plain "int" none with kind := .primitive 'I', accessFlags := 0x411 }
/-- [I -/
def k24 : Class := { plain "[I" (some 0) with kind := .array 23 .int, interfaces := #[9, 10], accessFlags := 1041 }

/-- [Ljava/lang/Long; -/
def k25 : Class := { plain "[Ljava/lang/Long;" (some 0) with kind := .array 18 (.object "java/lang/Long"), interfaces := #[9, 10], accessFlags := 1041 }

/-- [Ljava/lang/Object; -/
def k26 : Class := { plain "[Ljava/lang/Object;" (some 0) with kind := .array 0 (.object "java/lang/Object"), interfaces := #[9, 10], accessFlags := 1041 }

def heap : Heap := #[{ cls := 11, slots := #[.long 0, .int 0, .ref 259, .ref 260], vm := .statics 11 },
  { cls := 19, slots := #[.ref 2, .null, .int 0], vm := .statics 19 },
  { cls := 25, slots := #[.ref 3, .ref 4, .ref 5, .ref 6, .ref 7, .ref 8, .ref 9, .ref 10, .ref 11, .ref 12, .ref 13, .ref 14, .ref 15, .ref 16, .ref 17, .ref 18, .ref 19, .ref 20, .ref 21, .ref 22, .ref 23, .ref 24, .ref 25, .ref 26, .ref 27, .ref 28, .ref 29, .ref 30, .ref 31, .ref 32, .ref 33, .ref 34, .ref 35, .ref 36, .ref 37, .ref 38, .ref 39, .ref 40, .ref 41, .ref 42, .ref 43, .ref 44, .ref 45, .ref 46, .ref 47, .ref 48, .ref 49, .ref 50, .ref 51, .ref 52, .ref 53, .ref 54, .ref 55, .ref 56, .ref 57, .ref 58, .ref 59, .ref 60, .ref 61, .ref 62, .ref 63, .ref 64, .ref 65, .ref 66, .ref 67, .ref 68, .ref 69, .ref 70, .ref 71, .ref 72, .ref 73, .ref 74, .ref 75, .ref 76, .ref 77, .ref 78, .ref 79, .ref 80, .ref 81, .ref 82, .ref 83, .ref 84, .ref 85, .ref 86, .ref 87, .ref 88, .ref 89, .ref 90, .ref 91, .ref 92, .ref 93, .ref 94, .ref 95, .ref 96, .ref 97, .ref 98, .ref 99, .ref 100, .ref 101, .ref 102, .ref 103, .ref 104, .ref 105, .ref 106, .ref 107, .ref 108, .ref 109, .ref 110, .ref 111, .ref 112, .ref 113, .ref 114, .ref 115, .ref 116, .ref 117, .ref 118, .ref 119, .ref 120, .ref 121, .ref 122, .ref 123, .ref 124, .ref 125, .ref 126, .ref 127, .ref 128, .ref 129, .ref 130, .ref 131, .ref 132, .ref 133, .ref 134, .ref 135, .ref 136, .ref 137, .ref 138, .ref 139, .ref 140, .ref 141, .ref 142, .ref 143, .ref 144, .ref 145, .ref 146, .ref 147, .ref 148, .ref 149, .ref 150, .ref 151, .ref 152, .ref 153, .ref 154, .ref 155, .ref 156, .ref 157, .ref 158, .ref 159, .ref 160, .ref 161, .ref 162, .ref 163, .ref 164, .ref 165, .ref 166, .ref 167, .ref 168, .ref 169, .ref 170, .ref 171, .ref 172, .ref 173, .ref 174, .ref 175, .ref 176, .ref 177, .ref 178, .ref 179, .ref 180, .ref 181, .ref 182, .ref 183, .ref 184, .ref 185, .ref 186, .ref 187, .ref 188, .ref 189, .ref 190, .ref 191, .ref 192, .ref 193, .ref 194, .ref 195, .ref 196, .ref 197, .ref 198, .ref 199, .ref 200, .ref 201, .ref 202, .ref 203, .ref 204, .ref 205, .ref 206, .ref 207, .ref 208, .ref 209, .ref 210, .ref 211, .ref 212, .ref 213, .ref 214, .ref 215, .ref 216, .ref 217, .ref 218, .ref 219, .ref 220, .ref 221, .ref 222, .ref 223, .ref 224, .ref 225, .ref 226, .ref 227, .ref 228, .ref 229, .ref 230, .ref 231, .ref 232, .ref 233, .ref 234, .ref 235, .ref 236, .ref 237, .ref 238, .ref 239, .ref 240, .ref 241, .ref 242, .ref 243, .ref 244, .ref 245, .ref 246, .ref 247, .ref 248, .ref 249, .ref 250, .ref 251, .ref 252, .ref 253, .ref 254, .ref 255, .ref 256, .ref 257, .ref 258], vm := .none },
  { cls := 18, slots := #[.long (-128)], vm := .none },
  { cls := 18, slots := #[.long (-127)], vm := .none },
  { cls := 18, slots := #[.long (-126)], vm := .none },
  { cls := 18, slots := #[.long (-125)], vm := .none },
  { cls := 18, slots := #[.long (-124)], vm := .none },
  { cls := 18, slots := #[.long (-123)], vm := .none },
  { cls := 18, slots := #[.long (-122)], vm := .none },
  { cls := 18, slots := #[.long (-121)], vm := .none },
  { cls := 18, slots := #[.long (-120)], vm := .none },
  { cls := 18, slots := #[.long (-119)], vm := .none },
  { cls := 18, slots := #[.long (-118)], vm := .none },
  { cls := 18, slots := #[.long (-117)], vm := .none },
  { cls := 18, slots := #[.long (-116)], vm := .none },
  { cls := 18, slots := #[.long (-115)], vm := .none },
  { cls := 18, slots := #[.long (-114)], vm := .none },
  { cls := 18, slots := #[.long (-113)], vm := .none },
  { cls := 18, slots := #[.long (-112)], vm := .none },
  { cls := 18, slots := #[.long (-111)], vm := .none },
  { cls := 18, slots := #[.long (-110)], vm := .none },
  { cls := 18, slots := #[.long (-109)], vm := .none },
  { cls := 18, slots := #[.long (-108)], vm := .none },
  { cls := 18, slots := #[.long (-107)], vm := .none },
  { cls := 18, slots := #[.long (-106)], vm := .none },
  { cls := 18, slots := #[.long (-105)], vm := .none },
  { cls := 18, slots := #[.long (-104)], vm := .none },
  { cls := 18, slots := #[.long (-103)], vm := .none },
  { cls := 18, slots := #[.long (-102)], vm := .none },
  { cls := 18, slots := #[.long (-101)], vm := .none },
  { cls := 18, slots := #[.long (-100)], vm := .none },
  { cls := 18, slots := #[.long (-99)], vm := .none },
  { cls := 18, slots := #[.long (-98)], vm := .none },
  { cls := 18, slots := #[.long (-97)], vm := .none },
  { cls := 18, slots := #[.long (-96)], vm := .none },
  { cls := 18, slots := #[.long (-95)], vm := .none },
  { cls := 18, slots := #[.long (-94)], vm := .none },
  { cls := 18, slots := #[.long (-93)], vm := .none },
  { cls := 18, slots := #[.long (-92)], vm := .none },
  { cls := 18, slots := #[.long (-91)], vm := .none },
  { cls := 18, slots := #[.long (-90)], vm := .none },
  { cls := 18, slots := #[.long (-89)], vm := .none },
  { cls := 18, slots := #[.long (-88)], vm := .none },
  { cls := 18, slots := #[.long (-87)], vm := .none },
  { cls := 18, slots := #[.long (-86)], vm := .none },
  { cls := 18, slots := #[.long (-85)], vm := .none },
  { cls := 18, slots := #[.long (-84)], vm := .none },
  { cls := 18, slots := #[.long (-83)], vm := .none },
  { cls := 18, slots := #[.long (-82)], vm := .none },
  { cls := 18, slots := #[.long (-81)], vm := .none },
  { cls := 18, slots := #[.long (-80)], vm := .none },
  { cls := 18, slots := #[.long (-79)], vm := .none },
  { cls := 18, slots := #[.long (-78)], vm := .none },
  { cls := 18, slots := #[.long (-77)], vm := .none },
  { cls := 18, slots := #[.long (-76)], vm := .none },
  { cls := 18, slots := #[.long (-75)], vm := .none },
  { cls := 18, slots := #[.long (-74)], vm := .none },
  { cls := 18, slots := #[.long (-73)], vm := .none },
  { cls := 18, slots := #[.long (-72)], vm := .none },
  { cls := 18, slots := #[.long (-71)], vm := .none },
  { cls := 18, slots := #[.long (-70)], vm := .none },
  { cls := 18, slots := #[.long (-69)], vm := .none },
  { cls := 18, slots := #[.long (-68)], vm := .none },
  { cls := 18, slots := #[.long (-67)], vm := .none },
  { cls := 18, slots := #[.long (-66)], vm := .none },
  { cls := 18, slots := #[.long (-65)], vm := .none },
  { cls := 18, slots := #[.long (-64)], vm := .none },
  { cls := 18, slots := #[.long (-63)], vm := .none },
  { cls := 18, slots := #[.long (-62)], vm := .none },
  { cls := 18, slots := #[.long (-61)], vm := .none },
  { cls := 18, slots := #[.long (-60)], vm := .none },
  { cls := 18, slots := #[.long (-59)], vm := .none },
  { cls := 18, slots := #[.long (-58)], vm := .none },
  { cls := 18, slots := #[.long (-57)], vm := .none },
  { cls := 18, slots := #[.long (-56)], vm := .none },
  { cls := 18, slots := #[.long (-55)], vm := .none },
  { cls := 18, slots := #[.long (-54)], vm := .none },
  { cls := 18, slots := #[.long (-53)], vm := .none },
  { cls := 18, slots := #[.long (-52)], vm := .none },
  { cls := 18, slots := #[.long (-51)], vm := .none },
  { cls := 18, slots := #[.long (-50)], vm := .none },
  { cls := 18, slots := #[.long (-49)], vm := .none },
  { cls := 18, slots := #[.long (-48)], vm := .none },
  { cls := 18, slots := #[.long (-47)], vm := .none },
  { cls := 18, slots := #[.long (-46)], vm := .none },
  { cls := 18, slots := #[.long (-45)], vm := .none },
  { cls := 18, slots := #[.long (-44)], vm := .none },
  { cls := 18, slots := #[.long (-43)], vm := .none },
  { cls := 18, slots := #[.long (-42)], vm := .none },
  { cls := 18, slots := #[.long (-41)], vm := .none },
  { cls := 18, slots := #[.long (-40)], vm := .none },
  { cls := 18, slots := #[.long (-39)], vm := .none },
  { cls := 18, slots := #[.long (-38)], vm := .none },
  { cls := 18, slots := #[.long (-37)], vm := .none },
  { cls := 18, slots := #[.long (-36)], vm := .none },
  { cls := 18, slots := #[.long (-35)], vm := .none },
  { cls := 18, slots := #[.long (-34)], vm := .none },
  { cls := 18, slots := #[.long (-33)], vm := .none },
  { cls := 18, slots := #[.long (-32)], vm := .none },
  { cls := 18, slots := #[.long (-31)], vm := .none },
  { cls := 18, slots := #[.long (-30)], vm := .none },
  { cls := 18, slots := #[.long (-29)], vm := .none },
  { cls := 18, slots := #[.long (-28)], vm := .none },
  { cls := 18, slots := #[.long (-27)], vm := .none },
  { cls := 18, slots := #[.long (-26)], vm := .none },
  { cls := 18, slots := #[.long (-25)], vm := .none },
  { cls := 18, slots := #[.long (-24)], vm := .none },
  { cls := 18, slots := #[.long (-23)], vm := .none },
  { cls := 18, slots := #[.long (-22)], vm := .none },
  { cls := 18, slots := #[.long (-21)], vm := .none },
  { cls := 18, slots := #[.long (-20)], vm := .none },
  { cls := 18, slots := #[.long (-19)], vm := .none },
  { cls := 18, slots := #[.long (-18)], vm := .none },
  { cls := 18, slots := #[.long (-17)], vm := .none },
  { cls := 18, slots := #[.long (-16)], vm := .none },
  { cls := 18, slots := #[.long (-15)], vm := .none },
  { cls := 18, slots := #[.long (-14)], vm := .none },
  { cls := 18, slots := #[.long (-13)], vm := .none },
  { cls := 18, slots := #[.long (-12)], vm := .none },
  { cls := 18, slots := #[.long (-11)], vm := .none },
  { cls := 18, slots := #[.long (-10)], vm := .none },
  { cls := 18, slots := #[.long (-9)], vm := .none },
  { cls := 18, slots := #[.long (-8)], vm := .none },
  { cls := 18, slots := #[.long (-7)], vm := .none },
  { cls := 18, slots := #[.long (-6)], vm := .none },
  { cls := 18, slots := #[.long (-5)], vm := .none },
  { cls := 18, slots := #[.long (-4)], vm := .none },
  { cls := 18, slots := #[.long (-3)], vm := .none },
  { cls := 18, slots := #[.long (-2)], vm := .none },
  { cls := 18, slots := #[.long (-1)], vm := .none },
  { cls := 18, slots := #[.long (0)], vm := .none },
  { cls := 18, slots := #[.long (1)], vm := .none },
  { cls := 18, slots := #[.long (2)], vm := .none },
  { cls := 18, slots := #[.long (3)], vm := .none },
  { cls := 18, slots := #[.long (4)], vm := .none },
  { cls := 18, slots := #[.long (5)], vm := .none },
  { cls := 18, slots := #[.long (6)], vm := .none },
  { cls := 18, slots := #[.long (7)], vm := .none },
  { cls := 18, slots := #[.long (8)], vm := .none },
  { cls := 18, slots := #[.long (9)], vm := .none },
  { cls := 18, slots := #[.long (10)], vm := .none },
  { cls := 18, slots := #[.long (11)], vm := .none },
  { cls := 18, slots := #[.long (12)], vm := .none },
  { cls := 18, slots := #[.long (13)], vm := .none },
  { cls := 18, slots := #[.long (14)], vm := .none },
  { cls := 18, slots := #[.long (15)], vm := .none },
  { cls := 18, slots := #[.long (16)], vm := .none },
  { cls := 18, slots := #[.long (17)], vm := .none },
  { cls := 18, slots := #[.long (18)], vm := .none },
  { cls := 18, slots := #[.long (19)], vm := .none },
  { cls := 18, slots := #[.long (20)], vm := .none },
  { cls := 18, slots := #[.long (21)], vm := .none },
  { cls := 18, slots := #[.long (22)], vm := .none },
  { cls := 18, slots := #[.long (23)], vm := .none },
  { cls := 18, slots := #[.long (24)], vm := .none },
  { cls := 18, slots := #[.long (25)], vm := .none },
  { cls := 18, slots := #[.long (26)], vm := .none },
  { cls := 18, slots := #[.long (27)], vm := .none },
  { cls := 18, slots := #[.long (28)], vm := .none },
  { cls := 18, slots := #[.long (29)], vm := .none },
  { cls := 18, slots := #[.long (30)], vm := .none },
  { cls := 18, slots := #[.long (31)], vm := .none },
  { cls := 18, slots := #[.long (32)], vm := .none },
  { cls := 18, slots := #[.long (33)], vm := .none },
  { cls := 18, slots := #[.long (34)], vm := .none },
  { cls := 18, slots := #[.long (35)], vm := .none },
  { cls := 18, slots := #[.long (36)], vm := .none },
  { cls := 18, slots := #[.long (37)], vm := .none },
  { cls := 18, slots := #[.long (38)], vm := .none },
  { cls := 18, slots := #[.long (39)], vm := .none },
  { cls := 18, slots := #[.long (40)], vm := .none },
  { cls := 18, slots := #[.long (41)], vm := .none },
  { cls := 18, slots := #[.long (42)], vm := .none },
  { cls := 18, slots := #[.long (43)], vm := .none },
  { cls := 18, slots := #[.long (44)], vm := .none },
  { cls := 18, slots := #[.long (45)], vm := .none },
  { cls := 18, slots := #[.long (46)], vm := .none },
  { cls := 18, slots := #[.long (47)], vm := .none },
  { cls := 18, slots := #[.long (48)], vm := .none },
  { cls := 18, slots := #[.long (49)], vm := .none },
  { cls := 18, slots := #[.long (50)], vm := .none },
  { cls := 18, slots := #[.long (51)], vm := .none },
  { cls := 18, slots := #[.long (52)], vm := .none },
  { cls := 18, slots := #[.long (53)], vm := .none },
  { cls := 18, slots := #[.long (54)], vm := .none },
  { cls := 18, slots := #[.long (55)], vm := .none },
  { cls := 18, slots := #[.long (56)], vm := .none },
  { cls := 18, slots := #[.long (57)], vm := .none },
  { cls := 18, slots := #[.long (58)], vm := .none },
  { cls := 18, slots := #[.long (59)], vm := .none },
  { cls := 18, slots := #[.long (60)], vm := .none },
  { cls := 18, slots := #[.long (61)], vm := .none },
  { cls := 18, slots := #[.long (62)], vm := .none },
  { cls := 18, slots := #[.long (63)], vm := .none },
  { cls := 18, slots := #[.long (64)], vm := .none },
  { cls := 18, slots := #[.long (65)], vm := .none },
  { cls := 18, slots := #[.long (66)], vm := .none },
  { cls := 18, slots := #[.long (67)], vm := .none },
  { cls := 18, slots := #[.long (68)], vm := .none },
  { cls := 18, slots := #[.long (69)], vm := .none },
  { cls := 18, slots := #[.long (70)], vm := .none },
  { cls := 18, slots := #[.long (71)], vm := .none },
  { cls := 18, slots := #[.long (72)], vm := .none },
  { cls := 18, slots := #[.long (73)], vm := .none },
  { cls := 18, slots := #[.long (74)], vm := .none },
  { cls := 18, slots := #[.long (75)], vm := .none },
  { cls := 18, slots := #[.long (76)], vm := .none },
  { cls := 18, slots := #[.long (77)], vm := .none },
  { cls := 18, slots := #[.long (78)], vm := .none },
  { cls := 18, slots := #[.long (79)], vm := .none },
  { cls := 18, slots := #[.long (80)], vm := .none },
  { cls := 18, slots := #[.long (81)], vm := .none },
  { cls := 18, slots := #[.long (82)], vm := .none },
  { cls := 18, slots := #[.long (83)], vm := .none },
  { cls := 18, slots := #[.long (84)], vm := .none },
  { cls := 18, slots := #[.long (85)], vm := .none },
  { cls := 18, slots := #[.long (86)], vm := .none },
  { cls := 18, slots := #[.long (87)], vm := .none },
  { cls := 18, slots := #[.long (88)], vm := .none },
  { cls := 18, slots := #[.long (89)], vm := .none },
  { cls := 18, slots := #[.long (90)], vm := .none },
  { cls := 18, slots := #[.long (91)], vm := .none },
  { cls := 18, slots := #[.long (92)], vm := .none },
  { cls := 18, slots := #[.long (93)], vm := .none },
  { cls := 18, slots := #[.long (94)], vm := .none },
  { cls := 18, slots := #[.long (95)], vm := .none },
  { cls := 18, slots := #[.long (96)], vm := .none },
  { cls := 18, slots := #[.long (97)], vm := .none },
  { cls := 18, slots := #[.long (98)], vm := .none },
  { cls := 18, slots := #[.long (99)], vm := .none },
  { cls := 18, slots := #[.long (100)], vm := .none },
  { cls := 18, slots := #[.long (101)], vm := .none },
  { cls := 18, slots := #[.long (102)], vm := .none },
  { cls := 18, slots := #[.long (103)], vm := .none },
  { cls := 18, slots := #[.long (104)], vm := .none },
  { cls := 18, slots := #[.long (105)], vm := .none },
  { cls := 18, slots := #[.long (106)], vm := .none },
  { cls := 18, slots := #[.long (107)], vm := .none },
  { cls := 18, slots := #[.long (108)], vm := .none },
  { cls := 18, slots := #[.long (109)], vm := .none },
  { cls := 18, slots := #[.long (110)], vm := .none },
  { cls := 18, slots := #[.long (111)], vm := .none },
  { cls := 18, slots := #[.long (112)], vm := .none },
  { cls := 18, slots := #[.long (113)], vm := .none },
  { cls := 18, slots := #[.long (114)], vm := .none },
  { cls := 18, slots := #[.long (115)], vm := .none },
  { cls := 18, slots := #[.long (116)], vm := .none },
  { cls := 18, slots := #[.long (117)], vm := .none },
  { cls := 18, slots := #[.long (118)], vm := .none },
  { cls := 18, slots := #[.long (119)], vm := .none },
  { cls := 18, slots := #[.long (120)], vm := .none },
  { cls := 18, slots := #[.long (121)], vm := .none },
  { cls := 18, slots := #[.long (122)], vm := .none },
  { cls := 18, slots := #[.long (123)], vm := .none },
  { cls := 18, slots := #[.long (124)], vm := .none },
  { cls := 18, slots := #[.long (125)], vm := .none },
  { cls := 18, slots := #[.long (126)], vm := .none },
  { cls := 18, slots := #[.long (127)], vm := .none },
  { cls := 26, slots := #[], vm := .none },
  { cls := 26, slots := #[], vm := .none }]
def classes : Array Class := #[k0, k1, k2, k3, k4, k5, k6, k7, k8, k9, k10, k11, k12, k13, k14, k15, k16, k17, k18, k19, k20, k21, k22, k23, k24, k25, k26]
def interned : List (Array UInt16 × Addr) := []
def slotsUsed : Nat := 519
def theMethod : MethodId := ⟨1, 1⟩
def args0 : Array Value := #[.long 5, .long 6, .long 7, .long 8, .long 9, .int 4]
def aboutOver (below : List Frame) : State where
  vm := { classes := classes, interned := interned.toArray }
  heap := heap
  slotsUsed := slotsUsed
  threads := #[{ frames := .invoking theMethod args0 :: below }]
def below0 : List Frame := [.native { method := ⟨0, 0⟩, args := #[] }]
def about1 : State := aboutOver below0
def p0 : Program := .bare "" "" ""
def e0 : Env := launch0.env 0 0 0
theorem w_frames : about1.frames = Frame.invoking theMethod args0 :: below0 := rfl
set_option maxRecDepth 65536 in
theorem w_args : argsFit about1.vm theMethod args0 = true := by decide +kernel
set_option maxRecDepth 65536 in
theorem w_heap : heapFits about1 = true := by decide +kernel
set_option maxRecDepth 65536 in
theorem w_runnable : about1.curStatus? = some .runnable := by decide +kernel
set_option maxRecDepth 65536 in
theorem w_alone : about1.alone = true := by decide +kernel
set_option maxRecDepth 65536 in
theorem w_named : about1.methodNamed? x = some theMethod := by decide +kernel
set_option maxRecDepth 65536 in
theorem w_hears : about1.hears theMethod below0 = true := by decide +kernel
set_option maxRecDepth 65536 in
theorem w_ripe : about1.ripe theMethod args0 below0 = true := by decide +kernel
theorem w_running : about1.status = .running := rfl
set_option maxRecDepth 65536 in
theorem w_room : about1.hasRoom e0.platform room_1 = true :=
  launch0.hasRoom_least _ room_1 (by decide +kernel) (by decide +kernel) (by decide +kernel) (by decide +kernel) (by decide +kernel) (by decide +kernel)
theorem allAtoms_all (ts : List Jvm.Cond) (a : Array Jvm.Value) (st : Jvm.State) : (allAtoms ts).before a st = ts.all (fun c => c.before a st) := by
  induction ts with
  | nil => rfl
  | cons c t ih =>
    show (Jvm.Cond.and c (allAtoms t)).before a st = _
    rw [Jvm.Cond.before_and, ih, List.all_cons]
def words1 : List Jvm.Cond := Jvm.Cond.code x code maxLocals ret :: tables_1
/-- a 'code' word, met by the world's own term for the bytes: nothing is compared byte by byte -/
theorem code_word {y : MethodName} {bytes : ByteArray} {mx : Nat} {rt : Option FieldType} {a : Array Value} {s : State} {m : MethodId} {meth : Method} {c : Code} (h1 : s.methodNamed? y = some m) (h2 : s.vm.method? m = some meth) (h3 : meth.code = some c) (h4 : c.code = bytes)
    (h5 : (c.maxLocals == mx && c.exceptionTable.isEmpty && decide (c.maxStack ≤ mostOperands) && decide (meth.sig.returnType = rt) && !meth.locks && decide (parseMethodDescriptor y.desc = some meth.sig)) = true) : (Jvm.Cond.code y bytes mx rt).before a s = true := by
  simp only [Bool.and_eq_true, beq_iff_eq, Bool.not_eq_true', decide_eq_true_eq] at h5
  obtain ⟨⟨⟨⟨⟨g1, g2⟩, g3⟩, g4⟩, g5⟩, g6⟩ := h5
  simp [Cond.before, Cond.holds, Cond.value, h1, h2, h3, h4, g1, g2, g3, g4, g5, g6]
def isCode : Jvm.Cond → Bool
  | .code _ _ _ _ => true
  | _ => false
theorem all_split {L : List Jvm.Cond} {P : Jvm.Cond → Bool} (h1 : L.all (fun c => isCode c || P c) = true) (h2 : ∀ c ∈ L.filter isCode, P c = true) : L.all P = true := by
  refine List.all_eq_true.mpr fun c hc => ?_
  have h := List.all_eq_true.mp h1 c hc
  rcases Bool.eq_false_or_eq_true (isCode c) with hi | hi
  · exact h2 c (List.mem_filter.mpr ⟨hc, hi⟩)
  · simpa [hi] using h
set_option maxRecDepth 65536 in
theorem w_c0 : (Jvm.Cond.code x code maxLocals ret).before args0 about1 = true := code_word (m := ⟨1, 1⟩) (meth := k1m1) (c := k1c1) (by decide +kernel) rfl rfl rfl (by decide +kernel)
set_option maxRecDepth 65536 in
theorem w_c1 : (Jvm.Cond.code ({ cls := "java/util/ArrayList", name := "<init>", desc := "()V" } : Jvm.MethodName) jdk_38_method_2_code (1 : Nat) (Option.none : Option Jvm.ClassFile.FieldType)).before args0 about1 = true := code_word (m := ⟨11, 0⟩) (meth := k11m0) (c := k11c0) (by decide +kernel) rfl rfl rfl (by decide +kernel)
set_option maxRecDepth 65536 in
theorem w_c2 : (Jvm.Cond.code ({ cls := "java/util/AbstractList", name := "<init>", desc := "()V" } : Jvm.MethodName) jdk_39_method_1_code (1 : Nat) (Option.none : Option Jvm.ClassFile.FieldType)).before args0 about1 = true := code_word (m := ⟨7, 0⟩) (meth := k7m0) (c := k7c0) (by decide +kernel) rfl rfl rfl (by decide +kernel)
set_option maxRecDepth 65536 in
theorem w_c3 : (Jvm.Cond.code ({ cls := "java/util/AbstractCollection", name := "<init>", desc := "()V" } : Jvm.MethodName) jdk_22_method_1_code (1 : Nat) (Option.none : Option Jvm.ClassFile.FieldType)).before args0 about1 = true := code_word (m := ⟨4, 0⟩) (meth := k4m0) (c := k4c0) (by decide +kernel) rfl rfl rfl (by decide +kernel)
set_option maxRecDepth 65536 in
theorem w_c4 : (Jvm.Cond.code ({ cls := "java/lang/Object", name := "<init>", desc := "()V" } : Jvm.MethodName) object_method_1_code (1 : Nat) (Option.none : Option Jvm.ClassFile.FieldType)).before args0 about1 = true := code_word (m := ⟨0, 0⟩) (meth := k0m0) (c := k0c0) (by decide +kernel) rfl rfl rfl (by decide +kernel)
set_option maxRecDepth 65536 in
theorem w_c5 : (Jvm.Cond.code ({ cls := "com/example/cast3/cast3/Inbox$Run", name := "<init>", desc := "(JJJJJLjava/util/List;)V" } : Jvm.MethodName) prog_6_method_1_code (12 : Nat) (Option.none : Option Jvm.ClassFile.FieldType)).before args0 about1 = true := code_word (m := ⟨13, 0⟩) (meth := k13m0) (c := k13c0) (by decide +kernel) rfl rfl rfl (by decide +kernel)
set_option maxRecDepth 65536 in
theorem w_c6 : (Jvm.Cond.code ({ cls := "java/lang/Record", name := "<init>", desc := "()V" } : Jvm.MethodName) jdk_30_method_1_code (1 : Nat) (Option.none : Option Jvm.ClassFile.FieldType)).before args0 about1 = true := code_word (m := ⟨12, 0⟩) (meth := k12m0) (c := k12c0) (by decide +kernel) rfl rfl rfl (by decide +kernel)
set_option maxRecDepth 65536 in
theorem w_c7 : (Jvm.Cond.code ({ cls := "com/example/cast3/cast3/Inbox$Run", name := "last", desc := "()Z" } : Jvm.MethodName) prog_6_method_2_code (1 : Nat) (Option.some Jvm.ClassFile.FieldType.boolean)).before args0 about1 = true := code_word (m := ⟨13, 1⟩) (meth := k13m1) (c := k13c1) (by decide +kernel) rfl rfl rfl (by decide +kernel)
set_option maxRecDepth 65536 in
theorem w_c8 : (Jvm.Cond.code ({ cls := "java/lang/Long", name := "valueOf", desc := "(J)Ljava/lang/Long;" } : Jvm.MethodName) jdk_35_method_24_code (3 : Nat) (Option.some (Jvm.ClassFile.FieldType.object "java/lang/Long"))).before args0 about1 = true := code_word (m := ⟨18, 0⟩) (meth := k18m0) (c := k18c0) (by decide +kernel) rfl rfl rfl (by decide +kernel)
set_option maxRecDepth 65536 in
theorem w_c9 : (Jvm.Cond.code ({ cls := "java/util/ArrayList", name := "add", desc := "(Ljava/lang/Object;)Z" } : Jvm.MethodName) jdk_38_method_25_code (2 : Nat) (Option.some Jvm.ClassFile.FieldType.boolean)).before args0 about1 = true := code_word (m := ⟨11, 4⟩) (meth := k11m4) (c := k11c4) (by decide +kernel) rfl rfl rfl (by decide +kernel)
set_option maxRecDepth 65536 in
theorem w_c10 : (Jvm.Cond.code ({ cls := "java/util/ArrayList", name := "add", desc := "(Ljava/lang/Object;[Ljava/lang/Object;I)V" } : Jvm.MethodName) jdk_38_method_24_code (4 : Nat) (Option.none : Option Jvm.ClassFile.FieldType)).before args0 about1 = true := code_word (m := ⟨11, 3⟩) (meth := k11m3) (c := k11c3) (by decide +kernel) rfl rfl rfl (by decide +kernel)
set_option maxRecDepth 65536 in
theorem w_c11 : (Jvm.Cond.code ({ cls := "java/util/ArrayList", name := "grow", desc := "()[Ljava/lang/Object;" } : Jvm.MethodName) jdk_38_method_7_code (1 : Nat) (Option.some (Jvm.ClassFile.FieldType.array (Jvm.ClassFile.FieldType.object "java/lang/Object")))).before args0 about1 = true := code_word (m := ⟨11, 2⟩) (meth := k11m2) (c := k11c2) (by decide +kernel) rfl rfl rfl (by decide +kernel)
set_option maxRecDepth 65536 in
theorem w_c12 : (Jvm.Cond.code ({ cls := "java/util/ArrayList", name := "grow", desc := "(I)[Ljava/lang/Object;" } : Jvm.MethodName) jdk_38_method_6_code (4 : Nat) (Option.some (Jvm.ClassFile.FieldType.array (Jvm.ClassFile.FieldType.object "java/lang/Object")))).before args0 about1 = true := code_word (m := ⟨11, 1⟩) (meth := k11m1) (c := k11c1) (by decide +kernel) rfl rfl rfl (by decide +kernel)
set_option maxRecDepth 65536 in
theorem w_c13 : (Jvm.Cond.code ({ cls := "java/lang/Math", name := "max", desc := "(II)I" } : Jvm.MethodName) jdk_29_method_65_code (2 : Nat) (Option.some Jvm.ClassFile.FieldType.int)).before args0 about1 = true := code_word (m := ⟨20, 1⟩) (meth := k20m1) (c := k20c1) (by decide +kernel) rfl rfl rfl (by decide +kernel)
set_option maxRecDepth 65536 in
theorem w_c14 : (Jvm.Cond.code ({ cls := "java/lang/Long", name := "<init>", desc := "(J)V" } : Jvm.MethodName) jdk_35_method_26_code (3 : Nat) (Option.none : Option Jvm.ClassFile.FieldType)).before args0 about1 = true := code_word (m := ⟨18, 1⟩) (meth := k18m1) (c := k18c1) (by decide +kernel) rfl rfl rfl (by decide +kernel)
set_option maxRecDepth 65536 in
theorem w_c15 : (Jvm.Cond.code ({ cls := "java/lang/Number", name := "<init>", desc := "()V" } : Jvm.MethodName) jdk_18_method_1_code (1 : Nat) (Option.none : Option Jvm.ClassFile.FieldType)).before args0 about1 = true := code_word (m := ⟨14, 0⟩) (meth := k14m0) (c := k14c0) (by decide +kernel) rfl rfl rfl (by decide +kernel)
def codes1 : List Jvm.Cond := [Jvm.Cond.code x code maxLocals ret, Jvm.Cond.code ({ cls := "java/util/ArrayList", name := "<init>", desc := "()V" } : Jvm.MethodName) jdk_38_method_2_code (1 : Nat) (Option.none : Option Jvm.ClassFile.FieldType), Jvm.Cond.code ({ cls := "java/util/AbstractList", name := "<init>", desc := "()V" } : Jvm.MethodName) jdk_39_method_1_code (1 : Nat) (Option.none : Option Jvm.ClassFile.FieldType), Jvm.Cond.code ({ cls := "java/util/AbstractCollection", name := "<init>", desc := "()V" } : Jvm.MethodName) jdk_22_method_1_code (1 : Nat) (Option.none : Option Jvm.ClassFile.FieldType), Jvm.Cond.code ({ cls := "java/lang/Object", name := "<init>", desc := "()V" } : Jvm.MethodName) object_method_1_code (1 : Nat) (Option.none : Option Jvm.ClassFile.FieldType), Jvm.Cond.code ({ cls := "com/example/cast3/cast3/Inbox$Run", name := "<init>", desc := "(JJJJJLjava/util/List;)V" } : Jvm.MethodName) prog_6_method_1_code (12 : Nat) (Option.none : Option Jvm.ClassFile.FieldType), Jvm.Cond.code ({ cls := "java/lang/Record", name := "<init>", desc := "()V" } : Jvm.MethodName) jdk_30_method_1_code (1 : Nat) (Option.none : Option Jvm.ClassFile.FieldType), Jvm.Cond.code ({ cls := "com/example/cast3/cast3/Inbox$Run", name := "last", desc := "()Z" } : Jvm.MethodName) prog_6_method_2_code (1 : Nat) (Option.some Jvm.ClassFile.FieldType.boolean), Jvm.Cond.code ({ cls := "java/lang/Long", name := "valueOf", desc := "(J)Ljava/lang/Long;" } : Jvm.MethodName) jdk_35_method_24_code (3 : Nat) (Option.some (Jvm.ClassFile.FieldType.object "java/lang/Long")), Jvm.Cond.code ({ cls := "java/util/ArrayList", name := "add", desc := "(Ljava/lang/Object;)Z" } : Jvm.MethodName) jdk_38_method_25_code (2 : Nat) (Option.some Jvm.ClassFile.FieldType.boolean), Jvm.Cond.code ({ cls := "java/util/ArrayList", name := "add", desc := "(Ljava/lang/Object;[Ljava/lang/Object;I)V" } : Jvm.MethodName) jdk_38_method_24_code (4 : Nat) (Option.none : Option Jvm.ClassFile.FieldType), Jvm.Cond.code ({ cls := "java/util/ArrayList", name := "grow", desc := "()[Ljava/lang/Object;" } : Jvm.MethodName) jdk_38_method_7_code (1 : Nat) (Option.some (Jvm.ClassFile.FieldType.array (Jvm.ClassFile.FieldType.object "java/lang/Object"))), Jvm.Cond.code ({ cls := "java/util/ArrayList", name := "grow", desc := "(I)[Ljava/lang/Object;" } : Jvm.MethodName) jdk_38_method_6_code (4 : Nat) (Option.some (Jvm.ClassFile.FieldType.array (Jvm.ClassFile.FieldType.object "java/lang/Object"))), Jvm.Cond.code ({ cls := "java/lang/Math", name := "max", desc := "(II)I" } : Jvm.MethodName) jdk_29_method_65_code (2 : Nat) (Option.some Jvm.ClassFile.FieldType.int), Jvm.Cond.code ({ cls := "java/lang/Long", name := "<init>", desc := "(J)V" } : Jvm.MethodName) jdk_35_method_26_code (3 : Nat) (Option.none : Option Jvm.ClassFile.FieldType), Jvm.Cond.code ({ cls := "java/lang/Number", name := "<init>", desc := "()V" } : Jvm.MethodName) jdk_18_method_1_code (1 : Nat) (Option.none : Option Jvm.ClassFile.FieldType)]
set_option maxRecDepth 65536 in
theorem codes_eq : words1.filter isCode = codes1 := rfl
theorem w_codes : ∀ c ∈ words1.filter isCode, c.before args0 about1 = true := by
  rw [codes_eq]
  intro c hc
  simp only [codes1, List.mem_cons, List.not_mem_nil, or_false] at hc
  rcases hc with rfl | rfl | rfl | rfl | rfl | rfl | rfl | rfl | rfl | rfl | rfl | rfl | rfl | rfl | rfl | rfl
  · exact w_c0
  · exact w_c1
  · exact w_c2
  · exact w_c3
  · exact w_c4
  · exact w_c5
  · exact w_c6
  · exact w_c7
  · exact w_c8
  · exact w_c9
  · exact w_c10
  · exact w_c11
  · exact w_c12
  · exact w_c13
  · exact w_c14
  · exact w_c15
set_option maxRecDepth 65536 in
theorem w_t1 : (words1.take 24).all (fun c => isCode c || c.before args0 about1) = true := by decide +kernel
set_option maxRecDepth 65536 in
theorem w_t2 : ((words1.drop 24).take 24).all (fun c => isCode c || c.before args0 about1) = true := by decide +kernel
set_option maxRecDepth 65536 in
theorem w_t3 : (((words1.drop 24).drop 24).take 24).all (fun c => isCode c || c.before args0 about1) = true := by decide +kernel
set_option maxRecDepth 65536 in
theorem w_t4 : ((((words1.drop 24).drop 24).drop 24).take 24).all (fun c => isCode c || c.before args0 about1) = true := by decide +kernel
set_option maxRecDepth 65536 in
theorem w_t5 : ((((words1.drop 24).drop 24).drop 24).drop 24).all (fun c => isCode c || c.before args0 about1) = true := by decide +kernel
theorem w_tables : (allAtoms (Jvm.Cond.code x code maxLocals ret :: tables_1)).before args0 about1 = true := by
  rw [allAtoms_all]
  show words1.all (fun c => c.before args0 about1) = true
  refine all_split ?_ w_codes
  rw [← List.take_append_drop 24 words1, List.all_append, w_t1, ← List.take_append_drop 24 (words1.drop 24), List.all_append, w_t2, ← List.take_append_drop 24 ((words1.drop 24).drop 24), List.all_append, w_t3, ← List.take_append_drop 24 (((words1.drop 24).drop 24).drop 24), List.all_append, w_t4, w_t5]
  rfl
set_option maxRecDepth 65536 in
theorem w_rest : rest_1_c.before args0 about1 = true := by decide +kernel
set_option maxRecDepth 65536 in
theorem w_case : (Jvm.Cond.and given_1 narrow_1).before args0 about1 = true := by decide +kernel
theorem w_applies : (headSpec (Jvm.Cond.code x code maxLocals ret :: tables_1) room_1).applies x e0.platform about1 = true :=
  (Spec.applies_iff w_frames).mpr ⟨w_running, w_runnable, w_alone, w_named, w_hears, w_ripe, w_room, w_tables⟩
theorem atStart : AtStart classFile x code maxLocals ret World_1 tables_1 room_1 Calls_1 rest_1 Pre_1 launch0 p0 e0 about1 theMethod args0 below0 :=
  ⟨lists_1, trivial, launch0.admits_env _ _ _, launch0.least_env, fairChoices_fair.cas, fairChoices_fair.clock, w_frames, w_args, w_heap, w_applies, trivial, w_rest, w_case⟩
end start1
theorem witness_1 : WitnessClaimed_1 := ⟨start1.p0, start1.e0, start1.about1, start1.theMethod, start1.args0, start1.below0, start1.atStart⟩
end Jvm.Pilot.@@N@@
