import JvmDerived
import JvmDerived.Pilot.@@N@@Statement
import JvmDerived.Pilot.@@N@@Code
set_option linter.unusedVariables false
set_option linter.unusedSimpArgs false
namespace Jvm.RoadKit
open Sem ClassFile Op Lib Jvm.Stand Jvm.Free Jvm.LawKit
section New
variable {p : Program} {l : Launch} {e : Env} {R : Room} {s : State} {m : MethodId} {args : Array Value} {below : List Frame} {meth : Method} {c : Code} {T : State} {locs : List Loc} {cells slots : Nat}
theorem retI (X : Stand p l e R s m args below meth c T locs cells slots) (hx : p.tables.exec = Jvm.exec) {pc : Nat} {Ls : Array Slot} {z : Int32} {rest : List Value} (hret : meth.sig.returnType = some .int) (hd : decode c.code pc = .ok (.ireturn, 1)) {fs : List Frame}
    (hl : ∀ (f : JFrame) (acts : List Action), f.method = m → f.locked = none → f.entered = [] → (doReturn e (T.setTop f) acts (some (.int z))).1 = T.setFrames fs) : Steps p.tables e below (T.setTop (mkF m pc Ls (.int z :: rest))) (T.setFrames fs) := by
  have hm' : T.vm.method? m = some meth := X.method'
  have hn : narrow .int (.int z) = .int z := rfl
  show Steps p.tables e below (T.setTop { method := m, pc := pc, locals := Ls, stack := _ :: rest, locked := none }) _
  jvm_step X.here [X.here.top, hx, hd, hm', hret, hn]
  first | (intro acts; rw [hl _ acts rfl rfl rfl]) | rw [hl _ _ rfl rfl rfl]
  exact Steps.refl _
/-- from the state A the body comes to its end, and Q holds there -/
def own_G (tb : Tables) (e : Env) (below : List Frame) (Q : Outcome → State → Prop) (A : State) : Prop := ∃ s₂ o, Steps tb e below A s₂ ∧ s₂.status = .running ∧ Ended s₂ below o ∧ Q o s₂
theorem own_fs {tb : Tables} {Q : Outcome → State → Prop} {A B : State} (h : Steps tb e below A B) (g : own_G tb e below Q B) : own_G tb e below Q A := by
  obtain ⟨s₂, o, h1, r⟩ := g
  exact ⟨s₂, o, h.trans h1, r⟩
/-- what a body's contract says of its end -/
def own_P (s : State) (QQ : Option Value → Heap → List Loc → Prop) (rc rs : Nat) (o : Outcome) (U : State) : Prop := ∃ v L, o = .returned v ∧ QQ v U.heap L ∧ FrameEnd s o U L rc rs
variable {QQ : Option Value → Heap → List Loc → Prop} {rc rs : Nat} {h : Heap}
theorem own_start {tb : Tables} {g g' : JFrame} (q : g = g') (k : own_G tb e below (own_P s QQ rc rs) (T.setTop g')) : ∃ s₂ o, Steps tb e below (T.setTop g) s₂ ∧ s₂.status = .running ∧ Ended s₂ below o ∧ ∃ v L, o = .returned v ∧ QQ v s₂.heap L ∧ FrameEnd s o s₂ L rc rs := q ▸ k
theorem own_retI (X : Stand p l e R s m args below meth c T locs cells slots) (hx : p.tables.exec = Jvm.exec) {pc : Nat} {Ls : Array Slot} {z : Int32} {rest : List Value} (hret : meth.sig.returnType = some .int) (hlk : meth.locks = false) (hd : decode c.code pc = .ok (.ireturn, 1)) (hc : cells ≤ rc) (hs : slots ≤ rs) (eT : T.heap = h) (hQ : QQ (some (.int z)) h locs) :
    own_G p.tables e below (own_P s QQ rc rs) (T.setTop (mkF m pc Ls (.int z :: rest))) := by
  obtain ⟨fs, hr, hrun, hended, hW, hsame⟩ := X.leave (v := some (.int z)) (fun h => by rw [hret] at h; cases h) hlk
  exact ⟨_, _, retI X hx hret hd hr, hrun, hended, _, _, rfl, (by show QQ _ T.heap _; rw [eT]; exact hQ), ⟨_, rfl⟩, hW, hsame.mono hc hs⟩
theorem own_retN (X : Stand p l e R s m args below meth c T locs cells slots) (hx : p.tables.exec = Jvm.exec) {pc : Nat} {Ls : Array Slot} {z : Int32} {t : FieldType} {rest : List Value} (hret : meth.sig.returnType = some t) (hlk : meth.locks = false) (ht : t = .boolean ∨ t = .byte ∨ t = .char ∨ t = .short) (hd : decode c.code pc = .ok (.ireturn, 1)) (hc : cells ≤ rc) (hs : slots ≤ rs) (eT : T.heap = h) (hQ : QQ (some (.int (nar t z))) h locs) :
    own_G p.tables e below (own_P s QQ rc rs) (T.setTop (mkF m pc Ls (.int z :: rest))) := by
  obtain ⟨fs, hr, hrun, hended, hW, hsame⟩ := X.leave (v := some (.int (nar t z))) (fun h => by rw [hret] at h; cases h) hlk
  exact ⟨_, _, retN X hx hret ht hd hr, hrun, hended, _, _, rfl, (by show QQ _ T.heap _; rw [eT]; exact hQ), ⟨_, rfl⟩, hW, hsame.mono hc hs⟩
theorem own_retJ (X : Stand p l e R s m args below meth c T locs cells slots) (hx : p.tables.exec = Jvm.exec) {pc : Nat} {Ls : Array Slot} {z : Int64} {rest : List Value} (hret : meth.sig.returnType = some .long) (hlk : meth.locks = false) (hd : decode c.code pc = .ok (.lreturn, 1)) (hc : cells ≤ rc) (hs : slots ≤ rs) (eT : T.heap = h) (hQ : QQ (some (.long z)) h locs) :
    own_G p.tables e below (own_P s QQ rc rs) (T.setTop (mkF m pc Ls (.long z :: rest))) := by
  obtain ⟨fs, hr, hrun, hended, hW, hsame⟩ := X.leave (v := some (.long z)) (fun h => by rw [hret] at h; cases h) hlk
  exact ⟨_, _, retOut X hx hret rfl (Or.inr (Or.inl ⟨rfl, rfl, z, rfl⟩)) hd hr, hrun, hended, _, _, rfl, (by show QQ _ T.heap _; rw [eT]; exact hQ), ⟨_, rfl⟩, hW, hsame.mono hc hs⟩
theorem own_narR {t : FieldType} {w : Value} (hw : w.isRef = true) : narrow t w = w := by rcases ref_cases hw with rfl | ⟨a, rfl⟩ <;> cases t <;> rfl
theorem own_fitR {t : FieldType} {w : Value} (hw : w.isRef = true) (ht : t.isReference = true := by rfl) : fits t w = true := by rcases ref_cases hw with rfl | ⟨a, rfl⟩ <;> cases t <;> first | rfl | cases ht
theorem own_retA (X : Stand p l e R s m args below meth c T locs cells slots) (hx : p.tables.exec = Jvm.exec) {pc : Nat} {Ls : Array Slot} {w : Value} {t : FieldType} {rest : List Value} (hret : meth.sig.returnType = some t) (hlk : meth.locks = false) (ht : t.isReference = true) (hw : w.isRef = true) (hd : decode c.code pc = .ok (.areturn, 1)) (hc : cells ≤ rc) (hs : slots ≤ rs) (eT : T.heap = h) (hQ : QQ (some w) h locs) :
    own_G p.tables e below (own_P s QQ rc rs) (T.setTop (mkF m pc Ls (w :: rest))) := by
  obtain ⟨fs, hr, hrun, hended, hW, hsame⟩ := X.leave (v := some w) (fun h => by rw [hret] at h; cases h) hlk
  exact ⟨_, _, retOut X hx hret (own_narR hw) (Or.inr (Or.inr (Or.inr (Or.inr ⟨rfl, ht, hw⟩)))) hd hr, hrun, hended, _, _, rfl, (by show QQ _ T.heap _; rw [eT]; exact hQ), ⟨_, rfl⟩, hW, hsame.mono hc hs⟩
theorem own_retV (X : Stand p l e R s m args below meth c T locs cells slots) (hx : p.tables.exec = Jvm.exec) {pc : Nat} {Ls : Array Slot} (hret : meth.sig.returnType = none) (hlk : meth.locks = false) (hd : decode c.code pc = .ok (.return_, 1)) (hc : cells ≤ rc) (hs : slots ≤ rs) (eT : T.heap = h) (hQ : QQ none h locs) :
    own_G p.tables e below (own_P s QQ rc rs) (T.setTop (mkF m pc Ls [])) := by
  obtain ⟨fs, hr, hrun, hended, hW, hsame⟩ := X.leave (v := none) (fun _ => rfl) hlk
  exact ⟨_, _, X.returnOut hx hret hd hr, hrun, hended, _, _, rfl, (by show QQ _ T.heap _; rw [eT]; exact hQ), ⟨_, rfl⟩, hW, hsame.mono hc hs⟩
theorem own_nar0 : nar .boolean (0 : Int32) = (0 : Int32) := rfl
theorem own_nar1 : nar .boolean (1 : Int32) = (1 : Int32) := rfl
end New
end Jvm.RoadKit
namespace Jvm.Pilot.@@N@@
open Jvm Jvm.ClassFile Sem Op Lib Jvm.Free Jvm.Stand Jvm.LawKit Jvm.RoadKit Bundle Jvm.Pilot.@@N@@.Jvm.D
theorem own_pn0 : plainName "com/example/dibs/dibs/namespace/RequestIdHashCodePinLaw" = true := by first | (simp [plainName, overriddenIn]; done) | decide +kernel
theorem own_d1_0 : decode method_2_code 0 = .ok (.lload_n 0, 1) := by decide +kernel
theorem own_d1_1 : decode method_2_code 1 = .ok (.ldc2_w 9, 3) := by decide +kernel
theorem own_d1_4 : decode method_2_code 4 = .ok (.land, 1) := by decide +kernel
theorem own_d1_5 : decode method_2_code 5 = .ok (.lstore_n 2, 1) := by decide +kernel
theorem own_d1_6 : decode method_2_code 6 = .ok (.lload_n 2, 1) := by decide +kernel
theorem own_d1_7 : decode method_2_code 7 = .ok (.lconst 0, 1) := by decide +kernel
theorem own_d1_8 : decode method_2_code 8 = .ok (.lcmp, 1) := by decide +kernel
theorem own_d1_9 : decode method_2_code 9 = .ok (.ifCond .ne 7, 3) := by decide +kernel
theorem own_d1_12 : decode method_2_code 12 = .ok (.lconst 1, 1) := by decide +kernel
theorem own_d1_13 : decode method_2_code 13 = .ok (.goto 4, 3) := by decide +kernel
theorem own_d1_17 : decode method_2_code 17 = .ok (.lreturn, 1) := by decide +kernel
theorem own_d1_16 : decode method_2_code 16 = .ok (.lload_n 2, 1) := by decide +kernel
theorem own_pn1 : plainName "com/example/dibs/dibs/namespace/RequestId" = true := by first | (simp [plainName, overriddenIn]; done) | decide +kernel
theorem own_d2_0 : decode prog_44_method_1_code 0 = .ok (.aload_n 0, 1) := by decide +kernel
theorem own_d2_1 : decode prog_44_method_1_code 1 = .ok (.invokespecial 1, 3) := by decide +kernel
theorem own_d2_4 : decode prog_44_method_1_code 4 = .ok (.lload_n 1, 1) := by decide +kernel
theorem own_d2_5 : decode prog_44_method_1_code 5 = .ok (.lconst 0, 1) := by decide +kernel
theorem own_d2_6 : decode prog_44_method_1_code 6 = .ok (.lcmp, 1) := by decide +kernel
theorem own_d2_7 : decode prog_44_method_1_code 7 = .ok (.ifCond .le 9, 3) := by decide +kernel
theorem own_d2_10 : decode prog_44_method_1_code 10 = .ok (.lload_n 3, 1) := by decide +kernel
theorem own_d2_11 : decode prog_44_method_1_code 11 = .ok (.lconst 0, 1) := by decide +kernel
theorem own_d2_12 : decode prog_44_method_1_code 12 = .ok (.lcmp, 1) := by decide +kernel
theorem own_d2_13 : decode prog_44_method_1_code 13 = .ok (.ifCond .ge 18, 3) := by decide +kernel
theorem own_d2_31 : decode prog_44_method_1_code 31 = .ok (.aload_n 0, 1) := by decide +kernel
theorem own_d2_32 : decode prog_44_method_1_code 32 = .ok (.lload_n 1, 1) := by decide +kernel
theorem own_d2_33 : decode prog_44_method_1_code 33 = .ok (.putfield 16, 3) := by decide +kernel
theorem own_d2_36 : decode prog_44_method_1_code 36 = .ok (.aload_n 0, 1) := by decide +kernel
theorem own_d2_37 : decode prog_44_method_1_code 37 = .ok (.lload_n 3, 1) := by decide +kernel
theorem own_d2_38 : decode prog_44_method_1_code 38 = .ok (.putfield 22, 3) := by decide +kernel
theorem own_d2_41 : decode prog_44_method_1_code 41 = .ok (.return_, 1) := by decide +kernel
theorem own_pn2 : plainName "java/lang/Long" = true := by first | (simp [plainName, overriddenIn]; done) | decide +kernel
theorem own_d5_0 : decode jdk_35_method_36_code 0 = .ok (.lload_n 0, 1) := by decide +kernel
theorem own_d5_1 : decode jdk_35_method_36_code 1 = .ok (.lload_n 0, 1) := by decide +kernel
theorem own_d5_2 : decode jdk_35_method_36_code 2 = .ok (.bipush 32, 2) := by decide +kernel
theorem own_d5_4 : decode jdk_35_method_36_code 4 = .ok (.lushr, 1) := by decide +kernel
theorem own_d5_5 : decode jdk_35_method_36_code 5 = .ok (.lxor, 1) := by decide +kernel
theorem own_d5_6 : decode jdk_35_method_36_code 6 = .ok (.l2i, 1) := by decide +kernel
theorem own_d5_7 : decode jdk_35_method_36_code 7 = .ok (.ireturn, 1) := by decide +kernel
theorem own_d4_0 : decode prog_44_method_6_code 0 = .ok (.aload_n 0, 1) := by decide +kernel
theorem own_d4_1 : decode prog_44_method_6_code 1 = .ok (.getfield 16, 3) := by decide +kernel
theorem own_d4_4 : decode prog_44_method_6_code 4 = .ok (.invokestatic 70, 3) := by decide +kernel
theorem own_pd0 : parseMethodDescriptor "(J)I" = some ⟨[.long], some .int⟩ := by decide +kernel
theorem own_d4_7 : decode prog_44_method_6_code 7 = .ok (.bipush 31, 2) := by decide +kernel
theorem own_d4_9 : decode prog_44_method_6_code 9 = .ok (.imul, 1) := by decide +kernel
theorem own_d4_10 : decode prog_44_method_6_code 10 = .ok (.aload_n 0, 1) := by decide +kernel
theorem own_d4_11 : decode prog_44_method_6_code 11 = .ok (.getfield 22, 3) := by decide +kernel
theorem own_d4_14 : decode prog_44_method_6_code 14 = .ok (.invokestatic 70, 3) := by decide +kernel
theorem own_d4_17 : decode prog_44_method_6_code 17 = .ok (.iadd, 1) := by decide +kernel
theorem own_d4_18 : decode prog_44_method_6_code 18 = .ok (.ireturn, 1) := by decide +kernel
theorem own_d6_0 : decode prog_44_method_5_code 0 = .ok (.aload_n 1, 1) := by decide +kernel
theorem own_d6_1 : decode prog_44_method_5_code 1 = .ok (.instanceof 17, 3) := by decide +kernel
theorem own_d6_4 : decode prog_44_method_5_code 4 = .ok (.ifCond .eq 37, 3) := by decide +kernel
theorem own_d6_7 : decode prog_44_method_5_code 7 = .ok (.aload_n 1, 1) := by decide +kernel
theorem own_d6_8 : decode prog_44_method_5_code 8 = .ok (.checkcast 17, 3) := by decide +kernel
theorem own_d6_11 : decode prog_44_method_5_code 11 = .ok (.getfield 16, 3) := by decide +kernel
theorem own_d6_14 : decode prog_44_method_5_code 14 = .ok (.aload_n 0, 1) := by decide +kernel
theorem own_d6_15 : decode prog_44_method_5_code 15 = .ok (.getfield 16, 3) := by decide +kernel
theorem own_d6_18 : decode prog_44_method_5_code 18 = .ok (.lcmp, 1) := by decide +kernel
theorem own_d6_19 : decode prog_44_method_5_code 19 = .ok (.ifCond .ne 22, 3) := by decide +kernel
theorem own_d6_22 : decode prog_44_method_5_code 22 = .ok (.aload_n 1, 1) := by decide +kernel
theorem own_d6_23 : decode prog_44_method_5_code 23 = .ok (.checkcast 17, 3) := by decide +kernel
theorem own_d6_26 : decode prog_44_method_5_code 26 = .ok (.getfield 22, 3) := by decide +kernel
theorem own_d6_29 : decode prog_44_method_5_code 29 = .ok (.aload_n 0, 1) := by decide +kernel
theorem own_d6_30 : decode prog_44_method_5_code 30 = .ok (.getfield 22, 3) := by decide +kernel
theorem own_d6_33 : decode prog_44_method_5_code 33 = .ok (.lcmp, 1) := by decide +kernel
theorem own_d6_34 : decode prog_44_method_5_code 34 = .ok (.ifCond .ne 7, 3) := by decide +kernel
theorem own_d6_37 : decode prog_44_method_5_code 37 = .ok (.iconst 1, 1) := by decide +kernel
theorem own_d6_38 : decode prog_44_method_5_code 38 = .ok (.goto 4, 3) := by decide +kernel
theorem own_d6_42 : decode prog_44_method_5_code 42 = .ok (.ireturn, 1) := by decide +kernel
theorem own_d6_41 : decode prog_44_method_5_code 41 = .ok (.iconst 0, 1) := by decide +kernel
theorem own_pd1 : parseMethodDescriptor "(J)J" = some ⟨[.long], some .long⟩ := by decide +kernel
theorem own_pd2 : parseMethodDescriptor "(JJ)V" = some ⟨[.long, .long], none⟩ := by decide +kernel
theorem own_pd3 : parseMethodDescriptor "()I" = some ⟨[], some .int⟩ := by decide +kernel
theorem own_pd4 : parseMethodDescriptor "(Ljava/lang/Object;)Z" = some ⟨[(.object "java/lang/Object")], some .boolean⟩ := by decide +kernel
def own_cl (q : Int64) : Int64 := if (q &&& (9223372036854775807 : Int64)) = (0 : Int64) then (1 : Int64) else (q &&& (9223372036854775807 : Int64))
theorem own_mask (q : Int64) : 0 ≤ (q &&& (9223372036854775807 : Int64)).toInt := by
  rw [c_maskL q 9223372036854775807 63 (by decide) (by decide)]
  exact Int.emod_nonneg _ (by decide)
theorem own_maskn (q : Int64) : ¬ ((q &&& (9223372036854775807 : Int64)) < (0 : Int64)) := by
  have := own_mask q
  rw [Int64.lt_iff_toInt_lt, show (0 : Int64).toInt = 0 from by decide]; omega
theorem own_clpos (q : Int64) : (0 : Int64) < own_cl q := by
  unfold own_cl
  have h := own_mask q
  by_cases z : (q &&& (9223372036854775807 : Int64)) = (0 : Int64)
  · rw [if_pos z]; decide
  · rw [if_neg z, Int64.lt_iff_toInt_lt, show (0 : Int64).toInt = 0 from by decide]
    have : (q &&& (9223372036854775807 : Int64)).toInt ≠ 0 := fun e => z (Int64.toInt_inj.mp (by rw [e]; decide))
    omega
def own_lh (q : Int64) : Int32 := (q ^^^ ((q.toUInt64 >>> ((32 : Int32) &&& 0x3f).toInt64.toUInt64).toInt64)).toInt32
def own_rh (c n : Int64) : Int32 := ((own_lh c * (31 : Int32)) + own_lh n)
def own_eq (c1 n1 c2 n2 : Int64) : Int32 := if c2 = c1 then (if n2 = n1 then (1 : Int32) else (0 : Int32)) else (0 : Int32)
theorem own_dec (a b : Int64) : (a = b ∧ b = a) ∨ (¬ (a = b) ∧ ¬ (b = a)) := by
  by_cases h : a = b
  · exact Or.inl ⟨h, h.symm⟩
  · exact Or.inr ⟨h, fun q => h q.symm⟩

theorem own_client_ef (m : MethodId) (x0 : Int64) : entryFrame m #[(.long x0)] 4 = mkF m 0 #[.val (.long x0), .second, .unset, .unset] [] := by first | (simp [entryFrame, mkF, argsToLocals, Value.category]; done) | rfl
def own_client_Q (Z : State) (q1 : Int64) (h0 : Heap) (n0 : Nat) (v : Option Value) (h : Heap) (L : List Loc) : Prop := (v = some (.long (own_cl q1)) ∧ Fr n0 L ∧ h = h0)
set_option maxRecDepth 65536 in
set_option maxHeartbeats 40000000 in
theorem own_client (l : Launch) (Z : State) (a0 : Array Value) (hw : ∀ d ∈ tables_1, d.before a0 Z = true) (ws : List Jvm.Cond) (q1 : Int64) (h0 : Heap) (n0 : Nat) (Z0 : n0 ≤ h0.size)  :
    MetFree l (⟨"com/example/dibs/dibs/namespace/RequestIdHashCodePinLaw", "client", "(J)J"⟩ : MethodName) (head1 (Jvm.Cond.code (⟨"com/example/dibs/dibs/namespace/RequestIdHashCodePinLaw", "client", "(J)J"⟩ : MethodName) method_2_code 4 (some .long) :: ws) ({ frames := 0, cells := 0, slots := 0, locals := 0 } : Room)) (fun a U => a = #[(.long q1)] ∧ Z.Warmed39 U.vm ∧ U.heap = h0) (fun _ _ _ _ _ => True) (fun _ U o U' => ∃ v L, o = .returned v ∧ own_client_Q Z q1 h0 n0 v U'.heap L ∧ FrameEnd U o U' L ({ frames := 0, cells := 0, slots := 0, locals := 0 } : Room).cells ({ frames := 0, cells := 0, slots := 0, locals := 0 } : Room).slots) := by
  refine MetFree.of_bodySF (plainFor_of_name own_pn0) hisR ?_
  intro p e s m args below meth c s₁ Bd hml0 hP hK
  obtain ⟨rfl, hZ, hh⟩ := hP
  have hx := Bd.exec
  have hby := Bd.bytes
  have hlk : meth.locks = false := BodyLoose.notSynchronized Bd
  have hml : c.maxLocals = 4 := hml0
  have hown : s.vm.findClass "com/example/dibs/dibs/namespace/RequestIdHashCodePinLaw" = some m.cls := findClass_of_methodNamed Bd.named
  have hnm := (name_of_methodNamed Bd.named Bd.method).1
  have X0 : Stand p l e ({ frames := 0, cells := 0, slots := 0, locals := 0 } : Room) s m #[(.long q1)] below meth c s₁ [] 0 0 := Stand.of_body Bd
  have e0 : s₁.heap = h0 := by rw [← hh, Bd.state]; rfl
  have N0 := Fr.nil n0
  refine own_start (QQ := own_client_Q Z q1 h0 n0) (rc := ({ frames := 0, cells := 0, slots := 0, locals := 0 } : Room).cells) (rs := ({ frames := 0, cells := 0, slots := 0, locals := 0 } : Room).slots) (own_client_ef m q1 ) ?_
  show own_G p.tables e below _ (s₁.setTop (mkF m 0 #[.val (.long q1), .second, .unset, .unset] []))
  refine own_fs (XS.lloadN X0.here hx rfl (hb hby own_d1_0) rfl (Steps.refl _)) ?_
  show own_G p.tables e below _ (s₁.setTop (mkF m 1 #[.val (.long q1), .second, .unset, .unset] [(.long q1)]))
  refine own_fs (X0.ldc2Long hx hown (mvT hZ (hw _ (List.mem_of_getElem? (i := 4) rfl))) (g := (mkF m 1 #[.val (.long q1), .second, .unset, .unset] [(.long q1)])) rfl (hb hby own_d1_1) _ (Steps.refl _)) ?_
  show own_G p.tables e below _ (s₁.setTop (mkF m 4 #[.val (.long q1), .second, .unset, .unset] [(.long (9223372036854775807 : Int64)), (.long q1)]))
  refine own_fs (XS.land X0.here hx rfl (hb hby own_d1_4) rfl (Steps.refl _)) ?_
  show own_G p.tables e below _ (s₁.setTop (mkF m 5 #[.val (.long q1), .second, .unset, .unset] [(.long (q1 &&& (9223372036854775807 : Int64)))]))
  refine own_fs (XS.lstoreN X0.here hx rfl (hb hby own_d1_5) rfl (l' := #[.val (.long q1), .second, .val (.long (q1 &&& (9223372036854775807 : Int64))), .second]) rfl (Steps.refl _)) ?_
  show own_G p.tables e below _ (s₁.setTop (mkF m 6 #[.val (.long q1), .second, .val (.long (q1 &&& (9223372036854775807 : Int64))), .second] []))
  refine own_fs (XS.lloadN X0.here hx rfl (hb hby own_d1_6) rfl (Steps.refl _)) ?_
  show own_G p.tables e below _ (s₁.setTop (mkF m 7 #[.val (.long q1), .second, .val (.long (q1 &&& (9223372036854775807 : Int64))), .second] [(.long (q1 &&& (9223372036854775807 : Int64)))]))
  refine own_fs (XS.lconst X0.here hx rfl (hb hby own_d1_7) (Steps.refl _)) ?_
  show own_G p.tables e below _ (s₁.setTop (mkF m 8 #[.val (.long q1), .second, .val (.long (q1 &&& (9223372036854775807 : Int64))), .second] [(.long (0 : Int64)), (.long (q1 &&& (9223372036854775807 : Int64)))]))
  refine own_fs (XT.lcmp X0.here hx rfl (hb hby own_d1_8) rfl (Steps.refl _)) ?_
  show own_G p.tables e below _ (s₁.setTop (mkF m 9 #[.val (.long q1), .second, .val (.long (q1 &&& (9223372036854775807 : Int64))), .second] [(.int (XT.cmpL (q1 &&& (9223372036854775807 : Int64)) (0 : Int64)))]))
  by_cases hc9 : (q1 &&& (9223372036854775807 : Int64)) = (0 : Int64)
  · refine own_fs (XS.ifNo X0.here hx rfl (hb hby own_d1_9) rfl (XT.ll_ne_f hc9) (Steps.refl _)) ?_
    show own_G p.tables e below _ (s₁.setTop (mkF m 12 #[.val (.long q1), .second, .val (.long (q1 &&& (9223372036854775807 : Int64))), .second] []))
    refine own_fs (XS.lconst X0.here hx rfl (hb hby own_d1_12) (Steps.refl _)) ?_
    show own_G p.tables e below _ (s₁.setTop (mkF m 13 #[.val (.long q1), .second, .val (.long (q1 &&& (9223372036854775807 : Int64))), .second] [(.long (1 : Int64))]))
    refine own_fs (XS.goto X0.here hx rfl (pc0 := 13) (pc' := 17) rfl (hb hby own_d1_13) (by decide) (by decide) (Steps.refl _)) ?_
    show own_G p.tables e below _ (s₁.setTop (mkF m 17 #[.val (.long q1), .second, .val (.long (q1 &&& (9223372036854775807 : Int64))), .second] [(.long (1 : Int64))]))
    exact own_retJ X0 hx Bd.returns hlk (hb hby own_d1_17) (by decide) (by decide) e0 ⟨(by simp only [own_cl, hc9, ↓reduceIte]), N0, rfl⟩
  · refine own_fs (XS.ifYes X0.here hx rfl (pc0 := 9) (pc' := 16) rfl (hb hby own_d1_9) rfl (XT.ll_ne_t hc9) (by decide) (by decide) (Steps.refl _)) ?_
    show own_G p.tables e below _ (s₁.setTop (mkF m 16 #[.val (.long q1), .second, .val (.long (q1 &&& (9223372036854775807 : Int64))), .second] []))
    refine own_fs (XS.lloadN X0.here hx rfl (hb hby own_d1_16) rfl (Steps.refl _)) ?_
    show own_G p.tables e below _ (s₁.setTop (mkF m 17 #[.val (.long q1), .second, .val (.long (q1 &&& (9223372036854775807 : Int64))), .second] [(.long (q1 &&& (9223372036854775807 : Int64)))]))
    exact own_retJ X0 hx Bd.returns hlk (hb hby own_d1_17) (by decide) (by decide) e0 ⟨(by simp only [own_cl, hc9, ↓reduceIte]), N0, rfl⟩
theorem own_init_ef (m : MethodId) (x0 : Addr) (x1 : Int64) (x2 : Int64) : entryFrame m #[(.ref x0), (.long x1), (.long x2)] 5 = mkF m 0 #[.val (.ref x0), .val (.long x1), .second, .val (.long x2), .second] [] := by first | (simp [entryFrame, mkF, argsToLocals, Value.category]; done) | rfl
def own_init_Q (Z : State) (a1 : Addr) (q1 : Int64) (q2 : Int64) (u1 : Int64) (u2 : Int64) (h0 : Heap) (n0 : Nat) (v : Option Value) (h : Heap) (L : List Loc) : Prop := (v = none ∧ Fr n0 L ∧ Keep h0 h [a1] ∧ (Fld Z h a1 "com/example/dibs/dibs/namespace/RequestId" "client" "J" (.long q1)) ∧ (Fld Z h a1 "com/example/dibs/dibs/namespace/RequestId" "number" "J" (.long q2)))
set_option maxRecDepth 65536 in
set_option maxHeartbeats 40000000 in
theorem own_init (l : Launch) (Z : State) (a0 : Array Value) (hw : ∀ d ∈ tables_1, d.before a0 Z = true) (ws : List Jvm.Cond) (a1 : Addr) (q1 : Int64) (q2 : Int64) (u1 : Int64) (u2 : Int64) (h0 : Heap) (n0 : Nat) (Z0 : n0 ≤ h0.size) (hE_a1 : Exa Z h0 a1 "com/example/dibs/dibs/namespace/RequestId") (hF_client_a1 : Fld Z h0 a1 "com/example/dibs/dibs/namespace/RequestId" "client" "J" (.long u1)) (hF_number_a1 : Fld Z h0 a1 "com/example/dibs/dibs/namespace/RequestId" "number" "J" (.long u2)) (ge_a1 : n0 ≤ a1) (hpos : (0 : Int64) < q1) (hnn : ¬ (q2 < (0 : Int64))) :
    MetFree l (⟨"com/example/dibs/dibs/namespace/RequestId", "<init>", "(JJ)V"⟩ : MethodName) (head1 (Jvm.Cond.code (⟨"com/example/dibs/dibs/namespace/RequestId", "<init>", "(JJ)V"⟩ : MethodName) prog_44_method_1_code 5 none :: ws) ({ frames := 1, cells := 0, slots := 0, locals := 12 } : Room)) (fun a U => a = #[(.ref a1), (.long q1), (.long q2)] ∧ Z.Warmed39 U.vm ∧ U.heap = h0) (fun _ _ _ _ _ => True) (fun _ U o U' => ∃ v L, o = .returned v ∧ own_init_Q Z a1 q1 q2 u1 u2 h0 n0 v U'.heap L ∧ FrameEnd U o U' L ({ frames := 1, cells := 0, slots := 0, locals := 12 } : Room).cells ({ frames := 1, cells := 0, slots := 0, locals := 12 } : Room).slots) := by
  refine MetFree.of_bodySF (plainFor_of_name own_pn1) hisR ?_
  intro p e s m args below meth c s₁ Bd hml0 hP hK
  obtain ⟨rfl, hZ, hh⟩ := hP
  have hx := Bd.exec
  have hby := Bd.bytes
  have hlk : meth.locks = false := BodyLoose.notSynchronized Bd
  have hml : c.maxLocals = 5 := hml0
  have hown : s.vm.findClass "com/example/dibs/dibs/namespace/RequestId" = some m.cls := findClass_of_methodNamed Bd.named
  have hnm := (name_of_methodNamed Bd.named Bd.method).1
  have X0 : Stand p l e ({ frames := 1, cells := 0, slots := 0, locals := 12 } : Room) s m #[(.ref a1), (.long q1), (.long q2)] below meth c s₁ [] 0 0 := Stand.of_body Bd
  have e0 : s₁.heap = h0 := by rw [← hh, Bd.state]; rfl
  have N0 := Fr.nil n0
  refine own_start (QQ := own_init_Q Z a1 q1 q2 u1 u2 h0 n0) (rc := ({ frames := 1, cells := 0, slots := 0, locals := 12 } : Room).cells) (rs := ({ frames := 1, cells := 0, slots := 0, locals := 12 } : Room).slots) (own_init_ef m a1 q1 q2 ) ?_
  show own_G p.tables e below _ (s₁.setTop (mkF m 0 #[.val (.ref a1), .val (.long q1), .second, .val (.long q2), .second] []))
  refine own_fs (XS.aloadN X0.here hx rfl (hb hby own_d2_0) rfl rfl (Steps.refl _)) ?_
  show own_G p.tables e below _ (s₁.setTop (mkF m 1 #[.val (.ref a1), .val (.long q1), .second, .val (.long q2), .second] [(.ref a1)]))
  obtain ⟨T1, X1, e1, st1⟩ := initO X0 hx hZ hown (hw _ (List.mem_of_getElem? (i := 11) rfl)) (hw _ (List.mem_of_getElem? (i := 12) rfl)) (hw _ (List.mem_of_getElem? (i := 13) rfl)) e0 (g := (mkF m 1 #[.val (.ref a1), .val (.long q1), .second, .val (.long q2), .second] [(.ref a1)])) rfl (by rw [hml]; rfl) rfl (hb hby own_d2_1) (by decide) (W := 0) (by show 2 * 0 + _ ≤ _; exact Nat.le_of_eq rfl) (by decide)
  refine own_fs (st1 _ (Steps.refl _)) ?_
  show own_G p.tables e below _ (T1.setTop (mkF m 4 #[.val (.ref a1), .val (.long q1), .second, .val (.long q2), .second] []))
  refine own_fs (XS.lloadN X1.here hx rfl (hb hby own_d2_4) rfl (Steps.refl _)) ?_
  show own_G p.tables e below _ (T1.setTop (mkF m 5 #[.val (.ref a1), .val (.long q1), .second, .val (.long q2), .second] [(.long q1)]))
  refine own_fs (XS.lconst X1.here hx rfl (hb hby own_d2_5) (Steps.refl _)) ?_
  show own_G p.tables e below _ (T1.setTop (mkF m 6 #[.val (.ref a1), .val (.long q1), .second, .val (.long q2), .second] [(.long (0 : Int64)), (.long q1)]))
  refine own_fs (XT.lcmp X1.here hx rfl (hb hby own_d2_6) rfl (Steps.refl _)) ?_
  show own_G p.tables e below _ (T1.setTop (mkF m 7 #[.val (.ref a1), .val (.long q1), .second, .val (.long q2), .second] [(.int (XT.cmpL q1 (0 : Int64)))]))
  refine own_fs (XS.ifNo X1.here hx rfl (hb hby own_d2_7) rfl (XT.ll_le_f hpos) (Steps.refl _)) ?_
  show own_G p.tables e below _ (T1.setTop (mkF m 10 #[.val (.ref a1), .val (.long q1), .second, .val (.long q2), .second] []))
  refine own_fs (XS.lloadN X1.here hx rfl (hb hby own_d2_10) rfl (Steps.refl _)) ?_
  show own_G p.tables e below _ (T1.setTop (mkF m 11 #[.val (.ref a1), .val (.long q1), .second, .val (.long q2), .second] [(.long q2)]))
  refine own_fs (XS.lconst X1.here hx rfl (hb hby own_d2_11) (Steps.refl _)) ?_
  show own_G p.tables e below _ (T1.setTop (mkF m 12 #[.val (.ref a1), .val (.long q1), .second, .val (.long q2), .second] [(.long (0 : Int64)), (.long q2)]))
  refine own_fs (XT.lcmp X1.here hx rfl (hb hby own_d2_12) rfl (Steps.refl _)) ?_
  show own_G p.tables e below _ (T1.setTop (mkF m 13 #[.val (.ref a1), .val (.long q1), .second, .val (.long q2), .second] [(.int (XT.cmpL q2 (0 : Int64)))]))
  refine own_fs (XS.ifYes X1.here hx rfl (pc0 := 13) (pc' := 31) rfl (hb hby own_d2_13) rfl (XT.ll_ge_t hnn) (by decide) (by decide) (Steps.refl _)) ?_
  show own_G p.tables e below _ (T1.setTop (mkF m 31 #[.val (.ref a1), .val (.long q1), .second, .val (.long q2), .second] []))
  refine own_fs (XS.aloadN X1.here hx rfl (hb hby own_d2_31) rfl rfl (Steps.refl _)) ?_
  show own_G p.tables e below _ (T1.setTop (mkF m 32 #[.val (.ref a1), .val (.long q1), .second, .val (.long q2), .second] [(.ref a1)]))
  refine own_fs (XS.lloadN X1.here hx rfl (hb hby own_d2_32) rfl (Steps.refl _)) ?_
  show own_G p.tables e below _ (T1.setTop (mkF m 33 #[.val (.ref a1), .val (.long q1), .second, .val (.long q2), .second] [(.long q1), (.ref a1)]))
  obtain ⟨T2, h2, X2, e2, W2, st2⟩ := putF X1 hx hZ hown (host := "") (Or.inl (hw _ (List.mem_of_getElem? (i := 14) rfl))) Via.refl e1 hF_client_a1 hE_a1 (Or.inr ⟨(hw _ (List.mem_of_getElem? (i := 15) rfl)), rfl, hnm⟩) (hw _ (List.mem_of_getElem? (i := 6) rfl)) (ty := .long) (by decide) rfl rfl (g := (mkF m 33 #[.val (.ref a1), .val (.long q1), .second, .val (.long q2), .second] [(.long q1), (.ref a1)])) rfl rfl (hb hby own_d2_33)
  refine own_fs (st2 _ (Steps.refl _)) ?_
  have Fw2 := Fld.same W2 hF_client_a1
  have N2 := Fr.snoc X2 N0 ge_a1
  show own_G p.tables e below _ (T2.setTop (mkF m 36 #[.val (.ref a1), .val (.long q1), .second, .val (.long q2), .second] []))
  refine own_fs (XS.aloadN X2.here hx rfl (hb hby own_d2_36) rfl rfl (Steps.refl _)) ?_
  show own_G p.tables e below _ (T2.setTop (mkF m 37 #[.val (.ref a1), .val (.long q1), .second, .val (.long q2), .second] [(.ref a1)]))
  refine own_fs (XS.lloadN X2.here hx rfl (hb hby own_d2_37) rfl (Steps.refl _)) ?_
  show own_G p.tables e below _ (T2.setTop (mkF m 38 #[.val (.ref a1), .val (.long q1), .second, .val (.long q2), .second] [(.long q2), (.ref a1)]))
  obtain ⟨T3, h3, X3, e3, W3, st3⟩ := putF X2 hx hZ hown (host := "") (Or.inl (hw _ (List.mem_of_getElem? (i := 16) rfl))) Via.refl e2 (Fld.other W2 hF_number_a1 (Or.inr (slot_ne (Or.inr (hw _ (List.mem_of_getElem? (i := 17) rfl))) (Or.inr (hw _ (List.mem_of_getElem? (i := 15) rfl))) (by decide) (t := .long) (t' := .long) (by decide) (by decide)))) (Exa.wr W2 hE_a1) (Or.inr ⟨(hw _ (List.mem_of_getElem? (i := 17) rfl)), rfl, hnm⟩) (hw _ (List.mem_of_getElem? (i := 6) rfl)) (ty := .long) (by decide) rfl rfl (g := (mkF m 38 #[.val (.ref a1), .val (.long q1), .second, .val (.long q2), .second] [(.long q2), (.ref a1)])) rfl rfl (hb hby own_d2_38)
  refine own_fs (st3 _ (Steps.refl _)) ?_
  have Fw3 := Fld.same W3 (Fld.other W2 hF_number_a1 (Or.inr (slot_ne (Or.inr (hw _ (List.mem_of_getElem? (i := 17) rfl))) (Or.inr (hw _ (List.mem_of_getElem? (i := 15) rfl))) (by decide) (t := .long) (t' := .long) (by decide) (by decide))))
  have N3 := Fr.snoc X3 N2 ge_a1
  show own_G p.tables e below _ (T3.setTop (mkF m 41 #[.val (.ref a1), .val (.long q1), .second, .val (.long q2), .second] []))
  exact own_retV X3 hx Bd.returns hlk (hb hby own_d2_41) (by decide) (by decide) e3 ⟨rfl, N3, (((Keep.refl _ _).wr W2 (Or.inl (List.mem_of_getElem? (i := 0) rfl))).wr W3 (Or.inl (List.mem_of_getElem? (i := 0) rfl))), (Fld.other W3 Fw2 (Or.inr (slot_ne (Or.inr (hw _ (List.mem_of_getElem? (i := 15) rfl))) (Or.inr (hw _ (List.mem_of_getElem? (i := 17) rfl))) (by decide) (t := .long) (t' := .long) (by decide) (by decide)))), Fw3⟩
theorem own_longhash_ef (m : MethodId) (x0 : Int64) : entryFrame m #[(.long x0)] 2 = mkF m 0 #[.val (.long x0), .second] [] := by first | (simp [entryFrame, mkF, argsToLocals, Value.category]; done) | rfl
def own_longhash_Q (Z : State) (q1 : Int64) (h0 : Heap) (n0 : Nat) (v : Option Value) (h : Heap) (L : List Loc) : Prop := (v = some (.int (own_lh q1)) ∧ Fr n0 L ∧ h = h0)
set_option maxRecDepth 65536 in
set_option maxHeartbeats 40000000 in
theorem own_longhash (l : Launch) (Z : State) (a0 : Array Value) (hw : ∀ d ∈ tables_1, d.before a0 Z = true) (ws : List Jvm.Cond) (q1 : Int64) (h0 : Heap) (n0 : Nat) (Z0 : n0 ≤ h0.size)  :
    MetFree l (⟨"java/lang/Long", "hashCode", "(J)I"⟩ : MethodName) (head1 (Jvm.Cond.code (⟨"java/lang/Long", "hashCode", "(J)I"⟩ : MethodName) jdk_35_method_36_code 2 (some .int) :: ws) ({ frames := 0, cells := 0, slots := 0, locals := 0 } : Room)) (fun a U => a = #[(.long q1)] ∧ Z.Warmed39 U.vm ∧ U.heap = h0) (fun _ _ _ _ _ => True) (fun _ U o U' => ∃ v L, o = .returned v ∧ own_longhash_Q Z q1 h0 n0 v U'.heap L ∧ FrameEnd U o U' L ({ frames := 0, cells := 0, slots := 0, locals := 0 } : Room).cells ({ frames := 0, cells := 0, slots := 0, locals := 0 } : Room).slots) := by
  refine MetFree.of_bodySF (plainFor_of_name own_pn2) hisR ?_
  intro p e s m args below meth c s₁ Bd hml0 hP hK
  obtain ⟨rfl, hZ, hh⟩ := hP
  have hx := Bd.exec
  have hby := Bd.bytes
  have hlk : meth.locks = false := BodyLoose.notSynchronized Bd
  have hml : c.maxLocals = 2 := hml0
  have hown : s.vm.findClass "java/lang/Long" = some m.cls := findClass_of_methodNamed Bd.named
  have hnm := (name_of_methodNamed Bd.named Bd.method).1
  have X0 : Stand p l e ({ frames := 0, cells := 0, slots := 0, locals := 0 } : Room) s m #[(.long q1)] below meth c s₁ [] 0 0 := Stand.of_body Bd
  have e0 : s₁.heap = h0 := by rw [← hh, Bd.state]; rfl
  have N0 := Fr.nil n0
  refine own_start (QQ := own_longhash_Q Z q1 h0 n0) (rc := ({ frames := 0, cells := 0, slots := 0, locals := 0 } : Room).cells) (rs := ({ frames := 0, cells := 0, slots := 0, locals := 0 } : Room).slots) (own_longhash_ef m q1 ) ?_
  show own_G p.tables e below _ (s₁.setTop (mkF m 0 #[.val (.long q1), .second] []))
  refine own_fs (XS.lloadN X0.here hx rfl (hb hby own_d5_0) rfl (Steps.refl _)) ?_
  show own_G p.tables e below _ (s₁.setTop (mkF m 1 #[.val (.long q1), .second] [(.long q1)]))
  refine own_fs (XS.lloadN X0.here hx rfl (hb hby own_d5_1) rfl (Steps.refl _)) ?_
  show own_G p.tables e below _ (s₁.setTop (mkF m 2 #[.val (.long q1), .second] [(.long q1), (.long q1)]))
  refine own_fs (XS.bipush X0.here hx rfl (hb hby own_d5_2) (Steps.refl _)) ?_
  show own_G p.tables e below _ (s₁.setTop (mkF m 4 #[.val (.long q1), .second] [(.int (32 : Int32)), (.long q1), (.long q1)]))
  refine own_fs (XS.lushr X0.here hx rfl (hb hby own_d5_4) rfl (Steps.refl _)) ?_
  show own_G p.tables e below _ (s₁.setTop (mkF m 5 #[.val (.long q1), .second] [(.long ((q1.toUInt64 >>> ((32 : Int32) &&& 0x3f).toInt64.toUInt64).toInt64)), (.long q1)]))
  refine own_fs (XS.lxor X0.here hx rfl (hb hby own_d5_5) rfl (Steps.refl _)) ?_
  show own_G p.tables e below _ (s₁.setTop (mkF m 6 #[.val (.long q1), .second] [(.long (q1 ^^^ ((q1.toUInt64 >>> ((32 : Int32) &&& 0x3f).toInt64.toUInt64).toInt64)))]))
  refine own_fs (XS.l2i X0.here hx rfl (hb hby own_d5_6) rfl (Steps.refl _)) ?_
  show own_G p.tables e below _ (s₁.setTop (mkF m 7 #[.val (.long q1), .second] [(.int ((q1 ^^^ ((q1.toUInt64 >>> ((32 : Int32) &&& 0x3f).toInt64.toUInt64).toInt64)).toInt32))]))
  exact own_retI X0 hx Bd.returns hlk (hb hby own_d5_7) (by decide) (by decide) e0 ⟨rfl, N0, rfl⟩
theorem own_reqhash_ef (m : MethodId) (x0 : Addr) : entryFrame m #[(.ref x0)] 1 = mkF m 0 #[.val (.ref x0)] [] := by first | (simp [entryFrame, mkF, argsToLocals, Value.category]; done) | rfl
def own_reqhash_Q (Z : State) (a1 : Addr) (c1 : Int64) (n1 : Int64) (h0 : Heap) (n0 : Nat) (v : Option Value) (h : Heap) (L : List Loc) : Prop := (v = some (.int (own_rh c1 n1)) ∧ Fr n0 L ∧ h = h0)
set_option maxRecDepth 65536 in
set_option maxHeartbeats 40000000 in
theorem own_reqhash (l : Launch) (Z : State) (a0 : Array Value) (hw : ∀ d ∈ tables_1, d.before a0 Z = true) (ws : List Jvm.Cond) (a1 : Addr) (c1 : Int64) (n1 : Int64) (h0 : Heap) (n0 : Nat) (Z0 : n0 ≤ h0.size) (hF_client_a1 : Fld Z h0 a1 "com/example/dibs/dibs/namespace/RequestId" "client" "J" (.long c1)) (hF_number_a1 : Fld Z h0 a1 "com/example/dibs/dibs/namespace/RequestId" "number" "J" (.long n1)) :
    MetFree l (⟨"com/example/dibs/dibs/namespace/RequestId", "hashCode", "()I"⟩ : MethodName) (head1 (Jvm.Cond.code (⟨"com/example/dibs/dibs/namespace/RequestId", "hashCode", "()I"⟩ : MethodName) prog_44_method_6_code 1 (some .int) :: ws) ({ frames := 1, cells := 0, slots := 0, locals := 14 } : Room)) (fun a U => a = #[(.ref a1)] ∧ Z.Warmed39 U.vm ∧ U.heap = h0) (fun _ _ _ _ _ => True) (fun _ U o U' => ∃ v L, o = .returned v ∧ own_reqhash_Q Z a1 c1 n1 h0 n0 v U'.heap L ∧ FrameEnd U o U' L ({ frames := 1, cells := 0, slots := 0, locals := 14 } : Room).cells ({ frames := 1, cells := 0, slots := 0, locals := 14 } : Room).slots) := by
  refine MetFree.of_bodySF (plainFor_of_name own_pn1) hisR ?_
  intro p e s m args below meth c s₁ Bd hml0 hP hK
  obtain ⟨rfl, hZ, hh⟩ := hP
  have hx := Bd.exec
  have hby := Bd.bytes
  have hlk : meth.locks = false := BodyLoose.notSynchronized Bd
  have hml : c.maxLocals = 1 := hml0
  have hown : s.vm.findClass "com/example/dibs/dibs/namespace/RequestId" = some m.cls := findClass_of_methodNamed Bd.named
  have hnm := (name_of_methodNamed Bd.named Bd.method).1
  have X0 : Stand p l e ({ frames := 1, cells := 0, slots := 0, locals := 14 } : Room) s m #[(.ref a1)] below meth c s₁ [] 0 0 := Stand.of_body Bd
  have e0 : s₁.heap = h0 := by rw [← hh, Bd.state]; rfl
  have N0 := Fr.nil n0
  refine own_start (QQ := own_reqhash_Q Z a1 c1 n1 h0 n0) (rc := ({ frames := 1, cells := 0, slots := 0, locals := 14 } : Room).cells) (rs := ({ frames := 1, cells := 0, slots := 0, locals := 14 } : Room).slots) (own_reqhash_ef m a1 ) ?_
  show own_G p.tables e below _ (s₁.setTop (mkF m 0 #[.val (.ref a1)] []))
  refine own_fs (XS.aloadN X0.here hx rfl (hb hby own_d4_0) rfl rfl (Steps.refl _)) ?_
  show own_G p.tables e below _ (s₁.setTop (mkF m 1 #[.val (.ref a1)] [(.ref a1)]))
  obtain ⟨T1, X1, e1, st1⟩ := getF X0 hx hZ hown (host := "") (Or.inl (hw _ (List.mem_of_getElem? (i := 14) rfl))) Via.refl e0 hF_client_a1 (g := (mkF m 1 #[.val (.ref a1)] [(.ref a1)])) rfl rfl (hb hby own_d4_1)
  refine own_fs (st1 _ (Steps.refl _)) ?_
  show own_G p.tables e below _ (T1.setTop (mkF m 4 #[.val (.ref a1)] [(.long c1)]))
  have Zs4 : n0 ≤ h0.size := Z0
  obtain ⟨_, _, ⟨T3, L3, k3, n3⟩, -, X3, ⟨Lc3, hQ3, l3, y3, z3⟩, st3⟩ := Jvm.LawKit.callS X1 hx (y := (⟨"java/lang/Long", "hashCode", "(J)I"⟩ : MethodName)) hown (mvT hZ (hw _ (List.mem_of_getElem? (i := 23) rfl))) (mvT hZ (hw _ (List.mem_of_getElem? (i := 24) rfl))) (mvT hZ (hw _ (List.mem_of_getElem? (i := 25) rfl))) (mvT hZ (hw _ (List.mem_of_getElem? (i := 26) rfl))) (by decide) (backOf (W := 0) (own_longhash l Z a0 hw [] c1 h0 n0 Zs4 ) hZ (hw _ (List.mem_of_getElem? (i := 26) rfl)) (hw _ (List.mem_of_getElem? (i := 25) rfl)) (by decide) (by decide)) (g := (mkF m 4 #[.val (.ref a1)] [(.long c1)])) rfl (by rw [hml]; rfl) (argsL := [(.long c1)]) (rest := []) (lenOf own_pd0 rfl) rfl (by show 2 * 0 + _ ≤ _; exact Nat.le_of_eq rfl) (hb hby own_d4_4) (fun _ _ => ⟨rfl, e1, (by decide : 0 + 0 ≤ _), (by decide : 0 + 0 ≤ _)⟩)
  dsimp only [Pt.U, Pt.locs, Pt.cells, Pt.slots] at X3 l3 y3 z3 st3 hQ3
  subst l3 y3 z3
  obtain ⟨rfl, Nq3, e3⟩ := hQ3
  have N3 := Fr.app N0 Nq3
  refine own_fs (st3 _ (Steps.refl _)) ?_
  show own_G p.tables e below _ (T3.setTop (mkF m 7 #[.val (.ref a1)] [(.int (own_lh c1))]))
  refine own_fs (XS.bipush X3.here hx rfl (hb hby own_d4_7) (Steps.refl _)) ?_
  show own_G p.tables e below _ (T3.setTop (mkF m 9 #[.val (.ref a1)] [(.int (31 : Int32)), (.int (own_lh c1))]))
  refine own_fs (XS.imul X3.here hx rfl (hb hby own_d4_9) rfl (Steps.refl _)) ?_
  show own_G p.tables e below _ (T3.setTop (mkF m 10 #[.val (.ref a1)] [(.int ((own_lh c1) * (31 : Int32)))]))
  refine own_fs (XS.aloadN X3.here hx rfl (hb hby own_d4_10) rfl rfl (Steps.refl _)) ?_
  show own_G p.tables e below _ (T3.setTop (mkF m 11 #[.val (.ref a1)] [(.ref a1), (.int ((own_lh c1) * (31 : Int32)))]))
  obtain ⟨T5, X5, e5, st5⟩ := getF X3 hx hZ hown (host := "") (Or.inl (hw _ (List.mem_of_getElem? (i := 16) rfl))) Via.refl e3 hF_number_a1 (g := (mkF m 11 #[.val (.ref a1)] [(.ref a1), (.int ((own_lh c1) * (31 : Int32)))])) rfl rfl (hb hby own_d4_11)
  refine own_fs (st5 _ (Steps.refl _)) ?_
  show own_G p.tables e below _ (T5.setTop (mkF m 14 #[.val (.ref a1)] [(.long n1), (.int ((own_lh c1) * (31 : Int32)))]))
  have Zs8 : n0 ≤ h0.size := Z0
  obtain ⟨_, _, ⟨T7, L7, k7, n7⟩, -, X7, ⟨Lc7, hQ7, l7, y7, z7⟩, st7⟩ := Jvm.LawKit.callS X5 hx (y := (⟨"java/lang/Long", "hashCode", "(J)I"⟩ : MethodName)) hown (mvT hZ (hw _ (List.mem_of_getElem? (i := 23) rfl))) (mvT hZ (hw _ (List.mem_of_getElem? (i := 24) rfl))) (mvT hZ (hw _ (List.mem_of_getElem? (i := 25) rfl))) (mvT hZ (hw _ (List.mem_of_getElem? (i := 26) rfl))) (by decide) (backOf (W := 1) (own_longhash l Z a0 hw [] n1 h0 n0 Zs8 ) hZ (hw _ (List.mem_of_getElem? (i := 26) rfl)) (hw _ (List.mem_of_getElem? (i := 25) rfl)) (by decide) (by decide)) (g := (mkF m 14 #[.val (.ref a1)] [(.long n1), (.int ((own_lh c1) * (31 : Int32)))])) rfl (by rw [hml]; rfl) (argsL := [(.long n1)]) (rest := [(.int ((own_lh c1) * (31 : Int32)))]) (lenOf own_pd0 rfl) rfl (by show 2 * 0 + _ ≤ _; exact Nat.le_of_eq rfl) (hb hby own_d4_14) (fun _ _ => ⟨rfl, e5, (by decide : 0 + 0 ≤ _), (by decide : 0 + 0 ≤ _)⟩)
  dsimp only [Pt.U, Pt.locs, Pt.cells, Pt.slots] at X7 l7 y7 z7 st7 hQ7
  subst l7 y7 z7
  obtain ⟨rfl, Nq7, e7⟩ := hQ7
  have N7 := Fr.app N3 Nq7
  refine own_fs (st7 _ (Steps.refl _)) ?_
  show own_G p.tables e below _ (T7.setTop (mkF m 17 #[.val (.ref a1)] [(.int (own_lh n1)), (.int ((own_lh c1) * (31 : Int32)))]))
  refine own_fs (XS.iadd X7.here hx rfl (hb hby own_d4_17) rfl (Steps.refl _)) ?_
  show own_G p.tables e below _ (T7.setTop (mkF m 18 #[.val (.ref a1)] [(.int (((own_lh c1) * (31 : Int32)) + (own_lh n1)))]))
  exact own_retI X7 hx Bd.returns hlk (hb hby own_d4_18) (by decide) (by decide) e7 ⟨rfl, N7, rfl⟩
theorem own_equals_ef (m : MethodId) (x0 : Addr) (x1 : Addr) : entryFrame m #[(.ref x0), (.ref x1)] 2 = mkF m 0 #[.val (.ref x0), .val (.ref x1)] [] := by first | (simp [entryFrame, mkF, argsToLocals, Value.category]; done) | rfl
def own_equals_Q (Z : State) (a1 : Addr) (a2 : Addr) (c1 : Int64) (n1 : Int64) (c2 : Int64) (n2 : Int64) (h0 : Heap) (n0 : Nat) (v : Option Value) (h : Heap) (L : List Loc) : Prop := (v = some (.int (own_eq c1 n1 c2 n2)) ∧ Fr n0 L ∧ h = h0)
set_option maxRecDepth 65536 in
set_option maxHeartbeats 40000000 in
theorem own_equals (l : Launch) (Z : State) (a0 : Array Value) (hw : ∀ d ∈ tables_1, d.before a0 Z = true) (ws : List Jvm.Cond) (a1 : Addr) (a2 : Addr) (c1 : Int64) (n1 : Int64) (c2 : Int64) (n2 : Int64) (h0 : Heap) (n0 : Nat) (Z0 : n0 ≤ h0.size) (hF_client_a1 : Fld Z h0 a1 "com/example/dibs/dibs/namespace/RequestId" "client" "J" (.long c1)) (hF_number_a1 : Fld Z h0 a1 "com/example/dibs/dibs/namespace/RequestId" "number" "J" (.long n1)) (hF_client_a2 : Fld Z h0 a2 "com/example/dibs/dibs/namespace/RequestId" "client" "J" (.long c2)) (hF_number_a2 : Fld Z h0 a2 "com/example/dibs/dibs/namespace/RequestId" "number" "J" (.long n2)) (hE_a2 : Exa Z h0 a2 "com/example/dibs/dibs/namespace/RequestId") :
    MetFree l (⟨"com/example/dibs/dibs/namespace/RequestId", "equals", "(Ljava/lang/Object;)Z"⟩ : MethodName) (head1 (Jvm.Cond.code (⟨"com/example/dibs/dibs/namespace/RequestId", "equals", "(Ljava/lang/Object;)Z"⟩ : MethodName) prog_44_method_5_code 2 (some .boolean) :: ws) ({ frames := 0, cells := 0, slots := 0, locals := 0 } : Room)) (fun a U => a = #[(.ref a1), (.ref a2)] ∧ Z.Warmed39 U.vm ∧ U.heap = h0) (fun _ _ _ _ _ => True) (fun _ U o U' => ∃ v L, o = .returned v ∧ own_equals_Q Z a1 a2 c1 n1 c2 n2 h0 n0 v U'.heap L ∧ FrameEnd U o U' L ({ frames := 0, cells := 0, slots := 0, locals := 0 } : Room).cells ({ frames := 0, cells := 0, slots := 0, locals := 0 } : Room).slots) := by
  refine MetFree.of_bodySF (plainFor_of_name own_pn1) hisR ?_
  intro p e s m args below meth c s₁ Bd hml0 hP hK
  obtain ⟨rfl, hZ, hh⟩ := hP
  have hx := Bd.exec
  have hby := Bd.bytes
  have hlk : meth.locks = false := BodyLoose.notSynchronized Bd
  have hml : c.maxLocals = 2 := hml0
  have hown : s.vm.findClass "com/example/dibs/dibs/namespace/RequestId" = some m.cls := findClass_of_methodNamed Bd.named
  have hnm := (name_of_methodNamed Bd.named Bd.method).1
  have X0 : Stand p l e ({ frames := 0, cells := 0, slots := 0, locals := 0 } : Room) s m #[(.ref a1), (.ref a2)] below meth c s₁ [] 0 0 := Stand.of_body Bd
  have e0 : s₁.heap = h0 := by rw [← hh, Bd.state]; rfl
  have N0 := Fr.nil n0
  refine own_start (QQ := own_equals_Q Z a1 a2 c1 n1 c2 n2 h0 n0) (rc := ({ frames := 0, cells := 0, slots := 0, locals := 0 } : Room).cells) (rs := ({ frames := 0, cells := 0, slots := 0, locals := 0 } : Room).slots) (own_equals_ef m a1 a2 ) ?_
  show own_G p.tables e below _ (s₁.setTop (mkF m 0 #[.val (.ref a1), .val (.ref a2)] []))
  refine own_fs (XS.aloadN X0.here hx rfl (hb hby own_d6_0) rfl rfl (Steps.refl _)) ?_
  show own_G p.tables e below _ (s₁.setTop (mkF m 1 #[.val (.ref a1), .val (.ref a2)] [(.ref a2)]))
  obtain ⟨T1, X1, e1, st1⟩ := instY X0 hx hZ hown (hw _ (List.mem_of_getElem? (i := 32) rfl)) e0 (Ins.self hE_a2) (g := (mkF m 1 #[.val (.ref a1), .val (.ref a2)] [(.ref a2)])) rfl rfl (hb hby own_d6_1)
  refine own_fs (st1 _ (Steps.refl _)) ?_
  show own_G p.tables e below _ (T1.setTop (mkF m 4 #[.val (.ref a1), .val (.ref a2)] [(.int (1 : Int32))]))
  refine own_fs (XS.ifNo X1.here hx rfl (hb hby own_d6_4) rfl (XT.i0_eq_f (by decide : ¬ ((1 : Int32) = (0 : Int32)))) (Steps.refl _)) ?_
  show own_G p.tables e below _ (T1.setTop (mkF m 7 #[.val (.ref a1), .val (.ref a2)] []))
  refine own_fs (XS.aloadN X1.here hx rfl (hb hby own_d6_7) rfl rfl (Steps.refl _)) ?_
  show own_G p.tables e below _ (T1.setTop (mkF m 8 #[.val (.ref a1), .val (.ref a2)] [(.ref a2)]))
  obtain ⟨T2, X2, e2, st2⟩ := castY X1 hx hZ hown (hw _ (List.mem_of_getElem? (i := 32) rfl)) e1 (Ins.self hE_a2) (g := (mkF m 8 #[.val (.ref a1), .val (.ref a2)] [(.ref a2)])) rfl rfl (hb hby own_d6_8)
  refine own_fs (st2 _ (Steps.refl _)) ?_
  show own_G p.tables e below _ (T2.setTop (mkF m 11 #[.val (.ref a1), .val (.ref a2)] [(.ref a2)]))
  obtain ⟨T3, X3, e3, st3⟩ := getF X2 hx hZ hown (host := "") (Or.inl (hw _ (List.mem_of_getElem? (i := 14) rfl))) Via.refl e2 hF_client_a2 (g := (mkF m 11 #[.val (.ref a1), .val (.ref a2)] [(.ref a2)])) rfl rfl (hb hby own_d6_11)
  refine own_fs (st3 _ (Steps.refl _)) ?_
  show own_G p.tables e below _ (T3.setTop (mkF m 14 #[.val (.ref a1), .val (.ref a2)] [(.long c2)]))
  refine own_fs (XS.aloadN X3.here hx rfl (hb hby own_d6_14) rfl rfl (Steps.refl _)) ?_
  show own_G p.tables e below _ (T3.setTop (mkF m 15 #[.val (.ref a1), .val (.ref a2)] [(.ref a1), (.long c2)]))
  obtain ⟨T4, X4, e4, st4⟩ := getF X3 hx hZ hown (host := "") (Or.inl (hw _ (List.mem_of_getElem? (i := 14) rfl))) Via.refl e3 hF_client_a1 (g := (mkF m 15 #[.val (.ref a1), .val (.ref a2)] [(.ref a1), (.long c2)])) rfl rfl (hb hby own_d6_15)
  refine own_fs (st4 _ (Steps.refl _)) ?_
  show own_G p.tables e below _ (T4.setTop (mkF m 18 #[.val (.ref a1), .val (.ref a2)] [(.long c1), (.long c2)]))
  refine own_fs (XT.lcmp X4.here hx rfl (hb hby own_d6_18) rfl (Steps.refl _)) ?_
  show own_G p.tables e below _ (T4.setTop (mkF m 19 #[.val (.ref a1), .val (.ref a2)] [(.int (XT.cmpL c2 c1))]))
  by_cases hc19 : c2 = c1
  · refine own_fs (XS.ifNo X4.here hx rfl (hb hby own_d6_19) rfl (XT.ll_ne_f hc19) (Steps.refl _)) ?_
    show own_G p.tables e below _ (T4.setTop (mkF m 22 #[.val (.ref a1), .val (.ref a2)] []))
    refine own_fs (XS.aloadN X4.here hx rfl (hb hby own_d6_22) rfl rfl (Steps.refl _)) ?_
    show own_G p.tables e below _ (T4.setTop (mkF m 23 #[.val (.ref a1), .val (.ref a2)] [(.ref a2)]))
    obtain ⟨T5, X5, e5, st5⟩ := castY X4 hx hZ hown (hw _ (List.mem_of_getElem? (i := 32) rfl)) e4 (Ins.self hE_a2) (g := (mkF m 23 #[.val (.ref a1), .val (.ref a2)] [(.ref a2)])) rfl rfl (hb hby own_d6_23)
    refine own_fs (st5 _ (Steps.refl _)) ?_
    show own_G p.tables e below _ (T5.setTop (mkF m 26 #[.val (.ref a1), .val (.ref a2)] [(.ref a2)]))
    obtain ⟨T6, X6, e6, st6⟩ := getF X5 hx hZ hown (host := "") (Or.inl (hw _ (List.mem_of_getElem? (i := 16) rfl))) Via.refl e5 hF_number_a2 (g := (mkF m 26 #[.val (.ref a1), .val (.ref a2)] [(.ref a2)])) rfl rfl (hb hby own_d6_26)
    refine own_fs (st6 _ (Steps.refl _)) ?_
    show own_G p.tables e below _ (T6.setTop (mkF m 29 #[.val (.ref a1), .val (.ref a2)] [(.long n2)]))
    refine own_fs (XS.aloadN X6.here hx rfl (hb hby own_d6_29) rfl rfl (Steps.refl _)) ?_
    show own_G p.tables e below _ (T6.setTop (mkF m 30 #[.val (.ref a1), .val (.ref a2)] [(.ref a1), (.long n2)]))
    obtain ⟨T7, X7, e7, st7⟩ := getF X6 hx hZ hown (host := "") (Or.inl (hw _ (List.mem_of_getElem? (i := 16) rfl))) Via.refl e6 hF_number_a1 (g := (mkF m 30 #[.val (.ref a1), .val (.ref a2)] [(.ref a1), (.long n2)])) rfl rfl (hb hby own_d6_30)
    refine own_fs (st7 _ (Steps.refl _)) ?_
    show own_G p.tables e below _ (T7.setTop (mkF m 33 #[.val (.ref a1), .val (.ref a2)] [(.long n1), (.long n2)]))
    refine own_fs (XT.lcmp X7.here hx rfl (hb hby own_d6_33) rfl (Steps.refl _)) ?_
    show own_G p.tables e below _ (T7.setTop (mkF m 34 #[.val (.ref a1), .val (.ref a2)] [(.int (XT.cmpL n2 n1))]))
    by_cases hc34 : n2 = n1
    · refine own_fs (XS.ifNo X7.here hx rfl (hb hby own_d6_34) rfl (XT.ll_ne_f hc34) (Steps.refl _)) ?_
      show own_G p.tables e below _ (T7.setTop (mkF m 37 #[.val (.ref a1), .val (.ref a2)] []))
      refine own_fs (XS.iconst X7.here hx rfl (hb hby own_d6_37) (Steps.refl _)) ?_
      show own_G p.tables e below _ (T7.setTop (mkF m 38 #[.val (.ref a1), .val (.ref a2)] [(.int (1 : Int32))]))
      refine own_fs (XS.goto X7.here hx rfl (pc0 := 38) (pc' := 42) rfl (hb hby own_d6_38) (by decide) (by decide) (Steps.refl _)) ?_
      show own_G p.tables e below _ (T7.setTop (mkF m 42 #[.val (.ref a1), .val (.ref a2)] [(.int (1 : Int32))]))
      exact own_retN X7 hx (t := .boolean) Bd.returns hlk (by simp) (hb hby own_d6_42) (by decide) (by decide) e7 ⟨(by simp only [own_eq, own_nar0, own_nar1, hc19, hc34, ↓reduceIte]), N0, rfl⟩
    · refine own_fs (XS.ifYes X7.here hx rfl (pc0 := 34) (pc' := 41) rfl (hb hby own_d6_34) rfl (XT.ll_ne_t hc34) (by decide) (by decide) (Steps.refl _)) ?_
      show own_G p.tables e below _ (T7.setTop (mkF m 41 #[.val (.ref a1), .val (.ref a2)] []))
      refine own_fs (XS.iconst X7.here hx rfl (hb hby own_d6_41) (Steps.refl _)) ?_
      show own_G p.tables e below _ (T7.setTop (mkF m 42 #[.val (.ref a1), .val (.ref a2)] [(.int (0 : Int32))]))
      exact own_retN X7 hx (t := .boolean) Bd.returns hlk (by simp) (hb hby own_d6_42) (by decide) (by decide) e7 ⟨(by simp only [own_eq, own_nar0, own_nar1, hc19, hc34, ↓reduceIte]), N0, rfl⟩
  · refine own_fs (XS.ifYes X4.here hx rfl (pc0 := 19) (pc' := 41) rfl (hb hby own_d6_19) rfl (XT.ll_ne_t hc19) (by decide) (by decide) (Steps.refl _)) ?_
    show own_G p.tables e below _ (T4.setTop (mkF m 41 #[.val (.ref a1), .val (.ref a2)] []))
    refine own_fs (XS.iconst X4.here hx rfl (hb hby own_d6_41) (Steps.refl _)) ?_
    show own_G p.tables e below _ (T4.setTop (mkF m 42 #[.val (.ref a1), .val (.ref a2)] [(.int (0 : Int32))]))
    exact own_retN X4 hx (t := .boolean) Bd.returns hlk (by simp) (hb hby own_d6_42) (by decide) (by decide) e4 ⟨(by simp only [own_eq, own_nar0, own_nar1, hc19, ↓reduceIte]), N0, rfl⟩
theorem own_law_ef (m : MethodId) (x0 : Int64) (x1 : Int64) (x2 : Int64) (x3 : Int64) : entryFrame m #[(.long x0), (.long x1), (.long x2), (.long x3)] maxLocals = mkF m 0 #[.val (.long x0), .second, .val (.long x1), .second, .val (.long x2), .second, .val (.long x3), .second, .unset, .unset, .unset, .unset, .unset, .unset, .unset, .unset, .unset, .unset, .unset, .unset, .unset, .unset, .unset, .unset, .unset] [] := by first | (simp [entryFrame, mkF, argsToLocals, Value.category, maxLocals]; done) | rfl
def own_law_Q (Z : State) (x0 : Int64) (y0 : Int64) (z0 : Int64) (w0 : Int64) (h0 : Heap) (n0 : Nat) (v : Option Value) (h : Heap) (L : List Loc) : Prop := (v = some (.int (1 : Int32)) ∧ Fr n0 L)
set_option maxRecDepth 65536 in
set_option maxHeartbeats 40000000 in
theorem own_law (l : Launch) (Z : State) (a0 : Array Value) (hw : ∀ d ∈ tables_1, d.before a0 Z = true) (ws : List Jvm.Cond) (x0 : Int64) (y0 : Int64) (z0 : Int64) (w0 : Int64) (h0 : Heap) (n0 : Nat) (Z0 : n0 ≤ h0.size)  :
    MetFree l x (head1 (Jvm.Cond.code x code maxLocals ret :: ws) room_1) (fun a U => a = #[(.long x0), (.long y0), (.long z0), (.long w0)] ∧ Z.Warmed39 U.vm ∧ U.heap = h0) (fun _ _ _ _ _ => True) (fun _ U o U' => ∃ v L, o = .returned v ∧ own_law_Q Z x0 y0 z0 w0 h0 n0 v U'.heap L ∧ FrameEnd U o U' L room_1.cells room_1.slots) := by
  refine MetFree.of_bodySF (plainFor_of_name own_pn0) hisR ?_
  intro p e s m args below meth c s₁ Bd hml0 hP hK
  obtain ⟨rfl, hZ, hh⟩ := hP
  have hx := Bd.exec
  have hby := Bd.bytes
  have hlk : meth.locks = false := BodyLoose.notSynchronized Bd
  have hml : c.maxLocals = 25 := hml0
  have hown : s.vm.findClass "com/example/dibs/dibs/namespace/RequestIdHashCodePinLaw" = some m.cls := findClass_of_methodNamed Bd.named
  have hnm := (name_of_methodNamed Bd.named Bd.method).1
  have X0 : Stand p l e room_1 s m #[(.long x0), (.long y0), (.long z0), (.long w0)] below meth c s₁ [] 0 0 := Stand.of_body Bd
  have e0 : s₁.heap = h0 := by rw [← hh, Bd.state]; rfl
  have N0 := Fr.nil n0
  refine own_start (QQ := own_law_Q Z x0 y0 z0 w0 h0 n0) (rc := room_1.cells) (rs := room_1.slots) (own_law_ef m x0 y0 z0 w0 ) ?_
  show own_G p.tables e below _ (s₁.setTop (mkF m 0 #[.val (.long x0), .second, .val (.long y0), .second, .val (.long z0), .second, .val (.long w0), .second, .unset, .unset, .unset, .unset, .unset, .unset, .unset, .unset, .unset, .unset, .unset, .unset, .unset, .unset, .unset, .unset, .unset] []))
  refine own_fs (XS.lloadN X0.here hx rfl (hb hby at_0) rfl (Steps.refl _)) ?_
  show own_G p.tables e below _ (s₁.setTop (mkF m 1 #[.val (.long x0), .second, .val (.long y0), .second, .val (.long z0), .second, .val (.long w0), .second, .unset, .unset, .unset, .unset, .unset, .unset, .unset, .unset, .unset, .unset, .unset, .unset, .unset, .unset, .unset, .unset, .unset] [(.long x0)]))
  have Zs3 : n0 ≤ h0.size := Z0
  obtain ⟨_, _, ⟨T2, L2, k2, n2⟩, -, X2, ⟨Lc2, hQ2, l2, y2, z2⟩, st2⟩ := Jvm.LawKit.callS X0 hx (y := (⟨"com/example/dibs/dibs/namespace/RequestIdHashCodePinLaw", "client", "(J)J"⟩ : MethodName)) hown (mvT hZ (hw _ (List.mem_of_getElem? (i := 0) rfl))) (mvT hZ (hw _ (List.mem_of_getElem? (i := 1) rfl))) (mvT hZ (hw _ (List.mem_of_getElem? (i := 2) rfl))) (mvT hZ (hw _ (List.mem_of_getElem? (i := 3) rfl))) (by decide) (backOf (W := 0) (own_client l Z a0 hw [] x0 h0 n0 Zs3 ) hZ (hw _ (List.mem_of_getElem? (i := 3) rfl)) (hw _ (List.mem_of_getElem? (i := 2) rfl)) (by decide) (by decide)) (g := (mkF m 1 #[.val (.long x0), .second, .val (.long y0), .second, .val (.long z0), .second, .val (.long w0), .second, .unset, .unset, .unset, .unset, .unset, .unset, .unset, .unset, .unset, .unset, .unset, .unset, .unset, .unset, .unset, .unset, .unset] [(.long x0)])) rfl (by rw [hml]; rfl) (argsL := [(.long x0)]) (rest := []) (lenOf own_pd1 rfl) rfl (by show 2 * 0 + _ ≤ _; exact Nat.le_of_eq rfl) (hb hby at_1) (fun _ _ => ⟨rfl, e0, (by decide : 0 + 0 ≤ _), (by decide : 0 + 0 ≤ _)⟩)
  dsimp only [Pt.U, Pt.locs, Pt.cells, Pt.slots] at X2 l2 y2 z2 st2 hQ2
  subst l2 y2 z2
  obtain ⟨rfl, Nq2, e2⟩ := hQ2
  have N2 := Fr.app N0 Nq2
  refine own_fs (st2 _ (Steps.refl _)) ?_
  show own_G p.tables e below _ (T2.setTop (mkF m 4 #[.val (.long x0), .second, .val (.long y0), .second, .val (.long z0), .second, .val (.long w0), .second, .unset, .unset, .unset, .unset, .unset, .unset, .unset, .unset, .unset, .unset, .unset, .unset, .unset, .unset, .unset, .unset, .unset] [(.long (own_cl x0))]))
  refine own_fs (XS.lstore X2.here hx rfl (hb hby at_4) rfl (l' := #[.val (.long x0), .second, .val (.long y0), .second, .val (.long z0), .second, .val (.long w0), .second, .val (.long (own_cl x0)), .second, .unset, .unset, .unset, .unset, .unset, .unset, .unset, .unset, .unset, .unset, .unset, .unset, .unset, .unset, .unset]) rfl (Steps.refl _)) ?_
  show own_G p.tables e below _ (T2.setTop (mkF m 6 #[.val (.long x0), .second, .val (.long y0), .second, .val (.long z0), .second, .val (.long w0), .second, .val (.long (own_cl x0)), .second, .unset, .unset, .unset, .unset, .unset, .unset, .unset, .unset, .unset, .unset, .unset, .unset, .unset, .unset, .unset] []))
  refine own_fs (XS.lloadN X2.here hx rfl (hb hby at_6) rfl (Steps.refl _)) ?_
  show own_G p.tables e below _ (T2.setTop (mkF m 7 #[.val (.long x0), .second, .val (.long y0), .second, .val (.long z0), .second, .val (.long w0), .second, .val (.long (own_cl x0)), .second, .unset, .unset, .unset, .unset, .unset, .unset, .unset, .unset, .unset, .unset, .unset, .unset, .unset, .unset, .unset] [(.long y0)]))
  refine own_fs (X2.ldc2Long hx hown (mvT hZ (hw _ (List.mem_of_getElem? (i := 4) rfl))) (g := (mkF m 7 #[.val (.long x0), .second, .val (.long y0), .second, .val (.long z0), .second, .val (.long w0), .second, .val (.long (own_cl x0)), .second, .unset, .unset, .unset, .unset, .unset, .unset, .unset, .unset, .unset, .unset, .unset, .unset, .unset, .unset, .unset] [(.long y0)])) rfl (hb hby at_7) _ (Steps.refl _)) ?_
  show own_G p.tables e below _ (T2.setTop (mkF m 10 #[.val (.long x0), .second, .val (.long y0), .second, .val (.long z0), .second, .val (.long w0), .second, .val (.long (own_cl x0)), .second, .unset, .unset, .unset, .unset, .unset, .unset, .unset, .unset, .unset, .unset, .unset, .unset, .unset, .unset, .unset] [(.long (9223372036854775807 : Int64)), (.long y0)]))
  refine own_fs (XS.land X2.here hx rfl (hb hby at_10) rfl (Steps.refl _)) ?_
  show own_G p.tables e below _ (T2.setTop (mkF m 11 #[.val (.long x0), .second, .val (.long y0), .second, .val (.long z0), .second, .val (.long w0), .second, .val (.long (own_cl x0)), .second, .unset, .unset, .unset, .unset, .unset, .unset, .unset, .unset, .unset, .unset, .unset, .unset, .unset, .unset, .unset] [(.long (y0 &&& (9223372036854775807 : Int64)))]))
  refine own_fs (XS.lstore X2.here hx rfl (hb hby at_11) rfl (l' := #[.val (.long x0), .second, .val (.long y0), .second, .val (.long z0), .second, .val (.long w0), .second, .val (.long (own_cl x0)), .second, .val (.long (y0 &&& (9223372036854775807 : Int64))), .second, .unset, .unset, .unset, .unset, .unset, .unset, .unset, .unset, .unset, .unset, .unset, .unset, .unset]) rfl (Steps.refl _)) ?_
  show own_G p.tables e below _ (T2.setTop (mkF m 13 #[.val (.long x0), .second, .val (.long y0), .second, .val (.long z0), .second, .val (.long w0), .second, .val (.long (own_cl x0)), .second, .val (.long (y0 &&& (9223372036854775807 : Int64))), .second, .unset, .unset, .unset, .unset, .unset, .unset, .unset, .unset, .unset, .unset, .unset, .unset, .unset] []))
  refine own_fs (XS.lload X2.here hx rfl (hb hby at_13) rfl (Steps.refl _)) ?_
  show own_G p.tables e below _ (T2.setTop (mkF m 15 #[.val (.long x0), .second, .val (.long y0), .second, .val (.long z0), .second, .val (.long w0), .second, .val (.long (own_cl x0)), .second, .val (.long (y0 &&& (9223372036854775807 : Int64))), .second, .unset, .unset, .unset, .unset, .unset, .unset, .unset, .unset, .unset, .unset, .unset, .unset, .unset] [(.long z0)]))
  have Zs6 : n0 ≤ h0.size := Z0
  obtain ⟨_, _, ⟨T5, L5, k5, n5⟩, -, X5, ⟨Lc5, hQ5, l5, y5, z5⟩, st5⟩ := Jvm.LawKit.callS X2 hx (y := (⟨"com/example/dibs/dibs/namespace/RequestIdHashCodePinLaw", "client", "(J)J"⟩ : MethodName)) hown (mvT hZ (hw _ (List.mem_of_getElem? (i := 0) rfl))) (mvT hZ (hw _ (List.mem_of_getElem? (i := 1) rfl))) (mvT hZ (hw _ (List.mem_of_getElem? (i := 2) rfl))) (mvT hZ (hw _ (List.mem_of_getElem? (i := 3) rfl))) (by decide) (backOf (W := 0) (own_client l Z a0 hw [] z0 h0 n0 Zs6 ) hZ (hw _ (List.mem_of_getElem? (i := 3) rfl)) (hw _ (List.mem_of_getElem? (i := 2) rfl)) (by decide) (by decide)) (g := (mkF m 15 #[.val (.long x0), .second, .val (.long y0), .second, .val (.long z0), .second, .val (.long w0), .second, .val (.long (own_cl x0)), .second, .val (.long (y0 &&& (9223372036854775807 : Int64))), .second, .unset, .unset, .unset, .unset, .unset, .unset, .unset, .unset, .unset, .unset, .unset, .unset, .unset] [(.long z0)])) rfl (by rw [hml]; rfl) (argsL := [(.long z0)]) (rest := []) (lenOf own_pd1 rfl) rfl (by show 2 * 0 + _ ≤ _; exact Nat.le_of_eq rfl) (hb hby at_15) (fun _ _ => ⟨rfl, e2, (by decide : 0 + 0 ≤ _), (by decide : 0 + 0 ≤ _)⟩)
  dsimp only [Pt.U, Pt.locs, Pt.cells, Pt.slots] at X5 l5 y5 z5 st5 hQ5
  subst l5 y5 z5
  obtain ⟨rfl, Nq5, e5⟩ := hQ5
  have N5 := Fr.app N2 Nq5
  refine own_fs (st5 _ (Steps.refl _)) ?_
  show own_G p.tables e below _ (T5.setTop (mkF m 18 #[.val (.long x0), .second, .val (.long y0), .second, .val (.long z0), .second, .val (.long w0), .second, .val (.long (own_cl x0)), .second, .val (.long (y0 &&& (9223372036854775807 : Int64))), .second, .unset, .unset, .unset, .unset, .unset, .unset, .unset, .unset, .unset, .unset, .unset, .unset, .unset] [(.long (own_cl z0))]))
  refine own_fs (XS.lstore X5.here hx rfl (hb hby at_18) rfl (l' := #[.val (.long x0), .second, .val (.long y0), .second, .val (.long z0), .second, .val (.long w0), .second, .val (.long (own_cl x0)), .second, .val (.long (y0 &&& (9223372036854775807 : Int64))), .second, .val (.long (own_cl z0)), .second, .unset, .unset, .unset, .unset, .unset, .unset, .unset, .unset, .unset, .unset, .unset]) rfl (Steps.refl _)) ?_
  show own_G p.tables e below _ (T5.setTop (mkF m 20 #[.val (.long x0), .second, .val (.long y0), .second, .val (.long z0), .second, .val (.long w0), .second, .val (.long (own_cl x0)), .second, .val (.long (y0 &&& (9223372036854775807 : Int64))), .second, .val (.long (own_cl z0)), .second, .unset, .unset, .unset, .unset, .unset, .unset, .unset, .unset, .unset, .unset, .unset] []))
  refine own_fs (XS.lload X5.here hx rfl (hb hby at_20) rfl (Steps.refl _)) ?_
  show own_G p.tables e below _ (T5.setTop (mkF m 22 #[.val (.long x0), .second, .val (.long y0), .second, .val (.long z0), .second, .val (.long w0), .second, .val (.long (own_cl x0)), .second, .val (.long (y0 &&& (9223372036854775807 : Int64))), .second, .val (.long (own_cl z0)), .second, .unset, .unset, .unset, .unset, .unset, .unset, .unset, .unset, .unset, .unset, .unset] [(.long w0)]))
  refine own_fs (X5.ldc2Long hx hown (mvT hZ (hw _ (List.mem_of_getElem? (i := 4) rfl))) (g := (mkF m 22 #[.val (.long x0), .second, .val (.long y0), .second, .val (.long z0), .second, .val (.long w0), .second, .val (.long (own_cl x0)), .second, .val (.long (y0 &&& (9223372036854775807 : Int64))), .second, .val (.long (own_cl z0)), .second, .unset, .unset, .unset, .unset, .unset, .unset, .unset, .unset, .unset, .unset, .unset] [(.long w0)])) rfl (hb hby at_22) _ (Steps.refl _)) ?_
  show own_G p.tables e below _ (T5.setTop (mkF m 25 #[.val (.long x0), .second, .val (.long y0), .second, .val (.long z0), .second, .val (.long w0), .second, .val (.long (own_cl x0)), .second, .val (.long (y0 &&& (9223372036854775807 : Int64))), .second, .val (.long (own_cl z0)), .second, .unset, .unset, .unset, .unset, .unset, .unset, .unset, .unset, .unset, .unset, .unset] [(.long (9223372036854775807 : Int64)), (.long w0)]))
  refine own_fs (XS.land X5.here hx rfl (hb hby at_25) rfl (Steps.refl _)) ?_
  show own_G p.tables e below _ (T5.setTop (mkF m 26 #[.val (.long x0), .second, .val (.long y0), .second, .val (.long z0), .second, .val (.long w0), .second, .val (.long (own_cl x0)), .second, .val (.long (y0 &&& (9223372036854775807 : Int64))), .second, .val (.long (own_cl z0)), .second, .unset, .unset, .unset, .unset, .unset, .unset, .unset, .unset, .unset, .unset, .unset] [(.long (w0 &&& (9223372036854775807 : Int64)))]))
  refine own_fs (XS.lstore X5.here hx rfl (hb hby at_26) rfl (l' := #[.val (.long x0), .second, .val (.long y0), .second, .val (.long z0), .second, .val (.long w0), .second, .val (.long (own_cl x0)), .second, .val (.long (y0 &&& (9223372036854775807 : Int64))), .second, .val (.long (own_cl z0)), .second, .val (.long (w0 &&& (9223372036854775807 : Int64))), .second, .unset, .unset, .unset, .unset, .unset, .unset, .unset, .unset, .unset]) rfl (Steps.refl _)) ?_
  have hp_c1 := own_clpos x0
  have hn_n1 := own_maskn y0
  have hp_c2 := own_clpos z0
  have hn_n2 := own_maskn w0
  show own_G p.tables e below _ (T5.setTop (mkF m 28 #[.val (.long x0), .second, .val (.long y0), .second, .val (.long z0), .second, .val (.long w0), .second, .val (.long (own_cl x0)), .second, .val (.long (y0 &&& (9223372036854775807 : Int64))), .second, .val (.long (own_cl z0)), .second, .val (.long (w0 &&& (9223372036854775807 : Int64))), .second, .unset, .unset, .unset, .unset, .unset, .unset, .unset, .unset, .unset] []))
  generalize hg_c1 : (own_cl x0) = c1 at hp_c1 ⊢
  show own_G p.tables e below _ (T5.setTop (mkF m 28 #[.val (.long x0), .second, .val (.long y0), .second, .val (.long z0), .second, .val (.long w0), .second, .val (.long c1), .second, .val (.long (y0 &&& (9223372036854775807 : Int64))), .second, .val (.long (own_cl z0)), .second, .val (.long (w0 &&& (9223372036854775807 : Int64))), .second, .unset, .unset, .unset, .unset, .unset, .unset, .unset, .unset, .unset] []))
  generalize hg_n1 : (y0 &&& (9223372036854775807 : Int64)) = n1 at hn_n1 ⊢
  show own_G p.tables e below _ (T5.setTop (mkF m 28 #[.val (.long x0), .second, .val (.long y0), .second, .val (.long z0), .second, .val (.long w0), .second, .val (.long c1), .second, .val (.long n1), .second, .val (.long (own_cl z0)), .second, .val (.long (w0 &&& (9223372036854775807 : Int64))), .second, .unset, .unset, .unset, .unset, .unset, .unset, .unset, .unset, .unset] []))
  generalize hg_c2 : (own_cl z0) = c2 at hp_c2 ⊢
  show own_G p.tables e below _ (T5.setTop (mkF m 28 #[.val (.long x0), .second, .val (.long y0), .second, .val (.long z0), .second, .val (.long w0), .second, .val (.long c1), .second, .val (.long n1), .second, .val (.long c2), .second, .val (.long (w0 &&& (9223372036854775807 : Int64))), .second, .unset, .unset, .unset, .unset, .unset, .unset, .unset, .unset, .unset] []))
  generalize hg_n2 : (w0 &&& (9223372036854775807 : Int64)) = n2 at hn_n2 ⊢
  show own_G p.tables e below _ (T5.setTop (mkF m 28 #[.val (.long x0), .second, .val (.long y0), .second, .val (.long z0), .second, .val (.long w0), .second, .val (.long c1), .second, .val (.long n1), .second, .val (.long c2), .second, .val (.long n2), .second, .unset, .unset, .unset, .unset, .unset, .unset, .unset, .unset, .unset] []))
  obtain ⟨T7, h7, X7, e7, E7, A7, D7, -, st7⟩ := newO X5 hx hZ hown (hw _ (List.mem_of_getElem? (i := 5) rfl)) (hw _ (List.mem_of_getElem? (i := 6) rfl)) (hw _ (List.mem_of_getElem? (i := 7) rfl)) e5 (g := (mkF m 28 #[.val (.long x0), .second, .val (.long y0), .second, .val (.long z0), .second, .val (.long w0), .second, .val (.long c1), .second, .val (.long n1), .second, .val (.long c2), .second, .val (.long n2), .second, .unset, .unset, .unset, .unset, .unset, .unset, .unset, .unset, .unset] [])) rfl (hb hby at_28) (by decide) (by decide)
  obtain ⟨b7, g7⟩ : ∃ z, z = h0.size := ⟨_, rfl⟩
  rw [← g7] at A7 D7 st7
  have ge_b7 : n0 ≤ b7 := Nat.le_trans Z0 (Nat.le_of_eq g7.symm)
  have gz_b7 : h0.size ≤ b7 := Nat.le_trans (Nat.le_refl _) (Nat.le_of_eq g7.symm)
  have F_client_b7 : Fld Z h7 b7 "com/example/dibs/dibs/namespace/RequestId" "client" "J" (.long (0 : Int64)) := D7 (Or.inr (hw _ (List.mem_of_getElem? (i := 15) rfl))) (ty := .long) (by decide)
  have F_number_b7 : Fld Z h7 b7 "com/example/dibs/dibs/namespace/RequestId" "number" "J" (.long (0 : Int64)) := D7 (Or.inr (hw _ (List.mem_of_getElem? (i := 17) rfl))) (ty := .long) (by decide)
  refine own_fs (st7 _ (Steps.refl _)) ?_
  show own_G p.tables e below _ (T7.setTop (mkF m 31 #[.val (.long x0), .second, .val (.long y0), .second, .val (.long z0), .second, .val (.long w0), .second, .val (.long c1), .second, .val (.long n1), .second, .val (.long c2), .second, .val (.long n2), .second, .unset, .unset, .unset, .unset, .unset, .unset, .unset, .unset, .unset] [(.ref b7)]))
  refine own_fs (XS.dup X7.here hx rfl (hb hby at_31) rfl rfl (Steps.refl _)) ?_
  show own_G p.tables e below _ (T7.setTop (mkF m 32 #[.val (.long x0), .second, .val (.long y0), .second, .val (.long z0), .second, .val (.long w0), .second, .val (.long c1), .second, .val (.long n1), .second, .val (.long c2), .second, .val (.long n2), .second, .unset, .unset, .unset, .unset, .unset, .unset, .unset, .unset, .unset] [(.ref b7), (.ref b7)]))
  refine own_fs (XS.lload X7.here hx rfl (hb hby at_32) rfl (Steps.refl _)) ?_
  show own_G p.tables e below _ (T7.setTop (mkF m 34 #[.val (.long x0), .second, .val (.long y0), .second, .val (.long z0), .second, .val (.long w0), .second, .val (.long c1), .second, .val (.long n1), .second, .val (.long c2), .second, .val (.long n2), .second, .unset, .unset, .unset, .unset, .unset, .unset, .unset, .unset, .unset] [(.long c1), (.ref b7), (.ref b7)]))
  refine own_fs (XS.lload X7.here hx rfl (hb hby at_34) rfl (Steps.refl _)) ?_
  show own_G p.tables e below _ (T7.setTop (mkF m 36 #[.val (.long x0), .second, .val (.long y0), .second, .val (.long z0), .second, .val (.long w0), .second, .val (.long c1), .second, .val (.long n1), .second, .val (.long c2), .second, .val (.long n2), .second, .unset, .unset, .unset, .unset, .unset, .unset, .unset, .unset, .unset] [(.long n1), (.long c1), (.ref b7), (.ref b7)]))
  have Zs10 : n0 ≤ h7.size := (Nat.le_trans Z0 E7.1)
  obtain ⟨_, _, ⟨T9, L9, k9, n9⟩, -, X9, ⟨Lc9, hQ9, l9, y9, z9⟩, st9⟩ := X7.specialBack hx (y := (⟨"com/example/dibs/dibs/namespace/RequestId", "<init>", "(JJ)V"⟩ : MethodName)) rfl hown (mvT hZ (hw _ (List.mem_of_getElem? (i := 8) rfl))) (mvT hZ (hw _ (List.mem_of_getElem? (i := 9) rfl))) (mvT hZ (hw _ (List.mem_of_getElem? (i := 10) rfl))) (by decide) (backOf (W := 1) (own_init l Z a0 hw [] b7 c1 n1 (0 : Int64) (0 : Int64) h7 n0 Zs10 A7 F_client_b7 F_number_b7 ge_b7 hp_c1 hn_n1) hZ (hw _ (List.mem_of_getElem? (i := 10) rfl)) (hw _ (List.mem_of_getElem? (i := 7) rfl)) (by decide) (by decide)) (g := (mkF m 36 #[.val (.long x0), .second, .val (.long y0), .second, .val (.long z0), .second, .val (.long w0), .second, .val (.long c1), .second, .val (.long n1), .second, .val (.long c2), .second, .val (.long n2), .second, .unset, .unset, .unset, .unset, .unset, .unset, .unset, .unset, .unset] [(.long n1), (.long c1), (.ref b7), (.ref b7)])) rfl (by rw [hml]; rfl) (Steps.refl _) (a := b7) (argsL := [(.long c1), (.long n1)]) (rest := [(.ref b7)]) (lenOf own_pd2 rfl) rfl (by show 2 * 0 + _ ≤ _; exact Nat.le_of_eq rfl) (hb hby at_36) (fun _ _ => ⟨rfl, e7, (by decide : 1 + 0 ≤ _), (by decide : 2 + 0 ≤ _)⟩)
  dsimp only [Pt.U, Pt.locs, Pt.cells, Pt.slots] at X9 l9 y9 z9 st9 hQ9
  subst l9 y9 z9
  obtain ⟨h9, e9⟩ : ∃ h, T9.heap = h := ⟨_, rfl⟩
  rw [e9] at hQ9
  obtain ⟨rfl, Nq9, K9, P8_0, P8_1⟩ := hQ9
  have N9 := Fr.app N5 Nq9
  refine own_fs st9 ?_
  show own_G p.tables e below _ (T9.setTop (mkF m 39 #[.val (.long x0), .second, .val (.long y0), .second, .val (.long z0), .second, .val (.long w0), .second, .val (.long c1), .second, .val (.long n1), .second, .val (.long c2), .second, .val (.long n2), .second, .unset, .unset, .unset, .unset, .unset, .unset, .unset, .unset, .unset] [(.ref b7)]))
  refine own_fs (XS.astore X9.here hx rfl (hb hby at_39) rfl rfl (l' := #[.val (.long x0), .second, .val (.long y0), .second, .val (.long z0), .second, .val (.long w0), .second, .val (.long c1), .second, .val (.long n1), .second, .val (.long c2), .second, .val (.long n2), .second, .val (.ref b7), .unset, .unset, .unset, .unset, .unset, .unset, .unset, .unset]) rfl (Steps.refl _)) ?_
  show own_G p.tables e below _ (T9.setTop (mkF m 41 #[.val (.long x0), .second, .val (.long y0), .second, .val (.long z0), .second, .val (.long w0), .second, .val (.long c1), .second, .val (.long n1), .second, .val (.long c2), .second, .val (.long n2), .second, .val (.ref b7), .unset, .unset, .unset, .unset, .unset, .unset, .unset, .unset] []))
  obtain ⟨T11, h11, X11, e11, E11, A11, D11, -, st11⟩ := newO X9 hx hZ hown (hw _ (List.mem_of_getElem? (i := 5) rfl)) (hw _ (List.mem_of_getElem? (i := 6) rfl)) (hw _ (List.mem_of_getElem? (i := 7) rfl)) e9 (g := (mkF m 41 #[.val (.long x0), .second, .val (.long y0), .second, .val (.long z0), .second, .val (.long w0), .second, .val (.long c1), .second, .val (.long n1), .second, .val (.long c2), .second, .val (.long n2), .second, .val (.ref b7), .unset, .unset, .unset, .unset, .unset, .unset, .unset, .unset] [])) rfl (hb hby at_41) (by decide) (by decide)
  obtain ⟨b11, g11⟩ : ∃ z, z = h9.size := ⟨_, rfl⟩
  rw [← g11] at A11 D11 st11
  have ge_b11 : n0 ≤ b11 := Nat.le_trans (Nat.le_trans (Nat.le_trans Z0 E7.1) K9.1) (Nat.le_of_eq g11.symm)
  have gz_b11 : h0.size ≤ b11 := Nat.le_trans (Nat.le_trans (Nat.le_trans (Nat.le_refl _) E7.1) K9.1) (Nat.le_of_eq g11.symm)
  have F_client_b11 : Fld Z h11 b11 "com/example/dibs/dibs/namespace/RequestId" "client" "J" (.long (0 : Int64)) := D11 (Or.inr (hw _ (List.mem_of_getElem? (i := 15) rfl))) (ty := .long) (by decide)
  have F_number_b11 : Fld Z h11 b11 "com/example/dibs/dibs/namespace/RequestId" "number" "J" (.long (0 : Int64)) := D11 (Or.inr (hw _ (List.mem_of_getElem? (i := 17) rfl))) (ty := .long) (by decide)
  refine own_fs (st11 _ (Steps.refl _)) ?_
  show own_G p.tables e below _ (T11.setTop (mkF m 44 #[.val (.long x0), .second, .val (.long y0), .second, .val (.long z0), .second, .val (.long w0), .second, .val (.long c1), .second, .val (.long n1), .second, .val (.long c2), .second, .val (.long n2), .second, .val (.ref b7), .unset, .unset, .unset, .unset, .unset, .unset, .unset, .unset] [(.ref b11)]))
  refine own_fs (XS.dup X11.here hx rfl (hb hby at_44) rfl rfl (Steps.refl _)) ?_
  show own_G p.tables e below _ (T11.setTop (mkF m 45 #[.val (.long x0), .second, .val (.long y0), .second, .val (.long z0), .second, .val (.long w0), .second, .val (.long c1), .second, .val (.long n1), .second, .val (.long c2), .second, .val (.long n2), .second, .val (.ref b7), .unset, .unset, .unset, .unset, .unset, .unset, .unset, .unset] [(.ref b11), (.ref b11)]))
  refine own_fs (XS.lload X11.here hx rfl (hb hby at_45) rfl (Steps.refl _)) ?_
  show own_G p.tables e below _ (T11.setTop (mkF m 47 #[.val (.long x0), .second, .val (.long y0), .second, .val (.long z0), .second, .val (.long w0), .second, .val (.long c1), .second, .val (.long n1), .second, .val (.long c2), .second, .val (.long n2), .second, .val (.ref b7), .unset, .unset, .unset, .unset, .unset, .unset, .unset, .unset] [(.long c1), (.ref b11), (.ref b11)]))
  refine own_fs (XS.lload X11.here hx rfl (hb hby at_47) rfl (Steps.refl _)) ?_
  show own_G p.tables e below _ (T11.setTop (mkF m 49 #[.val (.long x0), .second, .val (.long y0), .second, .val (.long z0), .second, .val (.long w0), .second, .val (.long c1), .second, .val (.long n1), .second, .val (.long c2), .second, .val (.long n2), .second, .val (.ref b7), .unset, .unset, .unset, .unset, .unset, .unset, .unset, .unset] [(.long n1), (.long c1), (.ref b11), (.ref b11)]))
  have Zs14 : n0 ≤ h11.size := (Nat.le_trans (Nat.le_trans (Nat.le_trans Z0 E7.1) K9.1) E11.1)
  obtain ⟨_, _, ⟨T13, L13, k13, n13⟩, -, X13, ⟨Lc13, hQ13, l13, y13, z13⟩, st13⟩ := X11.specialBack hx (y := (⟨"com/example/dibs/dibs/namespace/RequestId", "<init>", "(JJ)V"⟩ : MethodName)) rfl hown (mvT hZ (hw _ (List.mem_of_getElem? (i := 8) rfl))) (mvT hZ (hw _ (List.mem_of_getElem? (i := 9) rfl))) (mvT hZ (hw _ (List.mem_of_getElem? (i := 10) rfl))) (by decide) (backOf (W := 1) (own_init l Z a0 hw [] b11 c1 n1 (0 : Int64) (0 : Int64) h11 n0 Zs14 A11 F_client_b11 F_number_b11 ge_b11 hp_c1 hn_n1) hZ (hw _ (List.mem_of_getElem? (i := 10) rfl)) (hw _ (List.mem_of_getElem? (i := 7) rfl)) (by decide) (by decide)) (g := (mkF m 49 #[.val (.long x0), .second, .val (.long y0), .second, .val (.long z0), .second, .val (.long w0), .second, .val (.long c1), .second, .val (.long n1), .second, .val (.long c2), .second, .val (.long n2), .second, .val (.ref b7), .unset, .unset, .unset, .unset, .unset, .unset, .unset, .unset] [(.long n1), (.long c1), (.ref b11), (.ref b11)])) rfl (by rw [hml]; rfl) (Steps.refl _) (a := b11) (argsL := [(.long c1), (.long n1)]) (rest := [(.ref b11)]) (lenOf own_pd2 rfl) rfl (by show 2 * 0 + _ ≤ _; exact Nat.le_of_eq rfl) (hb hby at_49) (fun _ _ => ⟨rfl, e11, (by decide : 2 + 0 ≤ _), (by decide : 4 + 0 ≤ _)⟩)
  dsimp only [Pt.U, Pt.locs, Pt.cells, Pt.slots] at X13 l13 y13 z13 st13 hQ13
  subst l13 y13 z13
  obtain ⟨h13, e13⟩ : ∃ h, T13.heap = h := ⟨_, rfl⟩
  rw [e13] at hQ13
  obtain ⟨rfl, Nq13, K13, P12_0, P12_1⟩ := hQ13
  have N13 := Fr.app N9 Nq13
  refine own_fs st13 ?_
  show own_G p.tables e below _ (T13.setTop (mkF m 52 #[.val (.long x0), .second, .val (.long y0), .second, .val (.long z0), .second, .val (.long w0), .second, .val (.long c1), .second, .val (.long n1), .second, .val (.long c2), .second, .val (.long n2), .second, .val (.ref b7), .unset, .unset, .unset, .unset, .unset, .unset, .unset, .unset] [(.ref b11)]))
  refine own_fs (XS.astore X13.here hx rfl (hb hby at_52) rfl rfl (l' := #[.val (.long x0), .second, .val (.long y0), .second, .val (.long z0), .second, .val (.long w0), .second, .val (.long c1), .second, .val (.long n1), .second, .val (.long c2), .second, .val (.long n2), .second, .val (.ref b7), .val (.ref b11), .unset, .unset, .unset, .unset, .unset, .unset, .unset]) rfl (Steps.refl _)) ?_
  show own_G p.tables e below _ (T13.setTop (mkF m 54 #[.val (.long x0), .second, .val (.long y0), .second, .val (.long z0), .second, .val (.long w0), .second, .val (.long c1), .second, .val (.long n1), .second, .val (.long c2), .second, .val (.long n2), .second, .val (.ref b7), .val (.ref b11), .unset, .unset, .unset, .unset, .unset, .unset, .unset] []))
  obtain ⟨T15, h15, X15, e15, E15, A15, D15, -, st15⟩ := newO X13 hx hZ hown (hw _ (List.mem_of_getElem? (i := 5) rfl)) (hw _ (List.mem_of_getElem? (i := 6) rfl)) (hw _ (List.mem_of_getElem? (i := 7) rfl)) e13 (g := (mkF m 54 #[.val (.long x0), .second, .val (.long y0), .second, .val (.long z0), .second, .val (.long w0), .second, .val (.long c1), .second, .val (.long n1), .second, .val (.long c2), .second, .val (.long n2), .second, .val (.ref b7), .val (.ref b11), .unset, .unset, .unset, .unset, .unset, .unset, .unset] [])) rfl (hb hby at_54) (by decide) (by decide)
  obtain ⟨b15, g15⟩ : ∃ z, z = h13.size := ⟨_, rfl⟩
  rw [← g15] at A15 D15 st15
  have ge_b15 : n0 ≤ b15 := Nat.le_trans (Nat.le_trans (Nat.le_trans (Nat.le_trans (Nat.le_trans Z0 E7.1) K9.1) E11.1) K13.1) (Nat.le_of_eq g15.symm)
  have gz_b15 : h0.size ≤ b15 := Nat.le_trans (Nat.le_trans (Nat.le_trans (Nat.le_trans (Nat.le_trans (Nat.le_refl _) E7.1) K9.1) E11.1) K13.1) (Nat.le_of_eq g15.symm)
  have F_client_b15 : Fld Z h15 b15 "com/example/dibs/dibs/namespace/RequestId" "client" "J" (.long (0 : Int64)) := D15 (Or.inr (hw _ (List.mem_of_getElem? (i := 15) rfl))) (ty := .long) (by decide)
  have F_number_b15 : Fld Z h15 b15 "com/example/dibs/dibs/namespace/RequestId" "number" "J" (.long (0 : Int64)) := D15 (Or.inr (hw _ (List.mem_of_getElem? (i := 17) rfl))) (ty := .long) (by decide)
  refine own_fs (st15 _ (Steps.refl _)) ?_
  show own_G p.tables e below _ (T15.setTop (mkF m 57 #[.val (.long x0), .second, .val (.long y0), .second, .val (.long z0), .second, .val (.long w0), .second, .val (.long c1), .second, .val (.long n1), .second, .val (.long c2), .second, .val (.long n2), .second, .val (.ref b7), .val (.ref b11), .unset, .unset, .unset, .unset, .unset, .unset, .unset] [(.ref b15)]))
  refine own_fs (XS.dup X15.here hx rfl (hb hby at_57) rfl rfl (Steps.refl _)) ?_
  show own_G p.tables e below _ (T15.setTop (mkF m 58 #[.val (.long x0), .second, .val (.long y0), .second, .val (.long z0), .second, .val (.long w0), .second, .val (.long c1), .second, .val (.long n1), .second, .val (.long c2), .second, .val (.long n2), .second, .val (.ref b7), .val (.ref b11), .unset, .unset, .unset, .unset, .unset, .unset, .unset] [(.ref b15), (.ref b15)]))
  refine own_fs (XS.lload X15.here hx rfl (hb hby at_58) rfl (Steps.refl _)) ?_
  show own_G p.tables e below _ (T15.setTop (mkF m 60 #[.val (.long x0), .second, .val (.long y0), .second, .val (.long z0), .second, .val (.long w0), .second, .val (.long c1), .second, .val (.long n1), .second, .val (.long c2), .second, .val (.long n2), .second, .val (.ref b7), .val (.ref b11), .unset, .unset, .unset, .unset, .unset, .unset, .unset] [(.long c2), (.ref b15), (.ref b15)]))
  refine own_fs (XS.lload X15.here hx rfl (hb hby at_60) rfl (Steps.refl _)) ?_
  show own_G p.tables e below _ (T15.setTop (mkF m 62 #[.val (.long x0), .second, .val (.long y0), .second, .val (.long z0), .second, .val (.long w0), .second, .val (.long c1), .second, .val (.long n1), .second, .val (.long c2), .second, .val (.long n2), .second, .val (.ref b7), .val (.ref b11), .unset, .unset, .unset, .unset, .unset, .unset, .unset] [(.long n2), (.long c2), (.ref b15), (.ref b15)]))
  have Zs18 : n0 ≤ h15.size := (Nat.le_trans (Nat.le_trans (Nat.le_trans (Nat.le_trans (Nat.le_trans Z0 E7.1) K9.1) E11.1) K13.1) E15.1)
  obtain ⟨_, _, ⟨T17, L17, k17, n17⟩, -, X17, ⟨Lc17, hQ17, l17, y17, z17⟩, st17⟩ := X15.specialBack hx (y := (⟨"com/example/dibs/dibs/namespace/RequestId", "<init>", "(JJ)V"⟩ : MethodName)) rfl hown (mvT hZ (hw _ (List.mem_of_getElem? (i := 8) rfl))) (mvT hZ (hw _ (List.mem_of_getElem? (i := 9) rfl))) (mvT hZ (hw _ (List.mem_of_getElem? (i := 10) rfl))) (by decide) (backOf (W := 1) (own_init l Z a0 hw [] b15 c2 n2 (0 : Int64) (0 : Int64) h15 n0 Zs18 A15 F_client_b15 F_number_b15 ge_b15 hp_c2 hn_n2) hZ (hw _ (List.mem_of_getElem? (i := 10) rfl)) (hw _ (List.mem_of_getElem? (i := 7) rfl)) (by decide) (by decide)) (g := (mkF m 62 #[.val (.long x0), .second, .val (.long y0), .second, .val (.long z0), .second, .val (.long w0), .second, .val (.long c1), .second, .val (.long n1), .second, .val (.long c2), .second, .val (.long n2), .second, .val (.ref b7), .val (.ref b11), .unset, .unset, .unset, .unset, .unset, .unset, .unset] [(.long n2), (.long c2), (.ref b15), (.ref b15)])) rfl (by rw [hml]; rfl) (Steps.refl _) (a := b15) (argsL := [(.long c2), (.long n2)]) (rest := [(.ref b15)]) (lenOf own_pd2 rfl) rfl (by show 2 * 0 + _ ≤ _; exact Nat.le_of_eq rfl) (hb hby at_62) (fun _ _ => ⟨rfl, e15, (by decide : 3 + 0 ≤ _), (by decide : 6 + 0 ≤ _)⟩)
  dsimp only [Pt.U, Pt.locs, Pt.cells, Pt.slots] at X17 l17 y17 z17 st17 hQ17
  subst l17 y17 z17
  obtain ⟨h17, e17⟩ : ∃ h, T17.heap = h := ⟨_, rfl⟩
  rw [e17] at hQ17
  obtain ⟨rfl, Nq17, K17, P16_0, P16_1⟩ := hQ17
  have N17 := Fr.app N13 Nq17
  refine own_fs st17 ?_
  show own_G p.tables e below _ (T17.setTop (mkF m 65 #[.val (.long x0), .second, .val (.long y0), .second, .val (.long z0), .second, .val (.long w0), .second, .val (.long c1), .second, .val (.long n1), .second, .val (.long c2), .second, .val (.long n2), .second, .val (.ref b7), .val (.ref b11), .unset, .unset, .unset, .unset, .unset, .unset, .unset] [(.ref b15)]))
  refine own_fs (XS.astore X17.here hx rfl (hb hby at_65) rfl rfl (l' := #[.val (.long x0), .second, .val (.long y0), .second, .val (.long z0), .second, .val (.long w0), .second, .val (.long c1), .second, .val (.long n1), .second, .val (.long c2), .second, .val (.long n2), .second, .val (.ref b7), .val (.ref b11), .val (.ref b15), .unset, .unset, .unset, .unset, .unset, .unset]) rfl (Steps.refl _)) ?_
  show own_G p.tables e below _ (T17.setTop (mkF m 67 #[.val (.long x0), .second, .val (.long y0), .second, .val (.long z0), .second, .val (.long w0), .second, .val (.long c1), .second, .val (.long n1), .second, .val (.long c2), .second, .val (.long n2), .second, .val (.ref b7), .val (.ref b11), .val (.ref b15), .unset, .unset, .unset, .unset, .unset, .unset] []))
  refine own_fs (XS.aload X17.here hx rfl (hb hby at_67) rfl rfl (Steps.refl _)) ?_
  show own_G p.tables e below _ (T17.setTop (mkF m 69 #[.val (.long x0), .second, .val (.long y0), .second, .val (.long z0), .second, .val (.long w0), .second, .val (.long c1), .second, .val (.long n1), .second, .val (.long c2), .second, .val (.long n2), .second, .val (.ref b7), .val (.ref b11), .val (.ref b15), .unset, .unset, .unset, .unset, .unset, .unset] [(.ref b7)]))
  have Zs21 : n0 ≤ h17.size := (Nat.le_trans (Nat.le_trans (Nat.le_trans (Nat.le_trans (Nat.le_trans (Nat.le_trans Z0 E7.1) K9.1) E11.1) K13.1) E15.1) K17.1)
  obtain ⟨cq20, kq20, q20a, q20b, q20c⟩ := isOf hZ e17 ((Exa.ext E15 ((Exa.ext E11 (A7.keep K9)).keep K13)).keep K17)
  obtain ⟨_, _, ⟨T20, L20, k20, n20⟩, -, X20, ⟨Lc20, hQ20, l20, y20, z20⟩, st20⟩ := X17.virtualBack hx (y := (⟨"com/example/dibs/dibs/namespace/RequestId", "hashCode", "()I"⟩ : MethodName)) (z := (⟨"com/example/dibs/dibs/namespace/RequestId", "hashCode", "()I"⟩ : MethodName)) hown (mvT hZ (hw _ (List.mem_of_getElem? (i := 18) rfl))) (mvT hZ (hw _ (List.mem_of_getElem? (i := 19) rfl))) (notFace_of_selects (args := #[]) (mvT hZ (hw _ (List.mem_of_getElem? (i := 21) rfl)))) (mvT hZ (hw _ (List.mem_of_getElem? (i := 21) rfl))) (mvT hZ (hw _ (List.mem_of_getElem? (i := 20) rfl))) (by decide) (backOf (W := 0) (own_reqhash l Z a0 hw [] b7 c1 n1 h17 n0 Zs21 ((Fld.ext E15 ((Fld.ext E11 P8_0).keep K13 (ninS (Nat.ne_of_lt (Nat.lt_of_lt_of_le (A7.keep K9).lt (Nat.le_of_eq g11.symm))) nin0))).keep K17 (ninS (Nat.ne_of_lt (Nat.lt_of_lt_of_le ((Exa.ext E11 (A7.keep K9)).keep K13).lt (Nat.le_of_eq g15.symm))) nin0)) ((Fld.ext E15 ((Fld.ext E11 P8_1).keep K13 (ninS (Nat.ne_of_lt (Nat.lt_of_lt_of_le (A7.keep K9).lt (Nat.le_of_eq g11.symm))) nin0))).keep K17 (ninS (Nat.ne_of_lt (Nat.lt_of_lt_of_le ((Exa.ext E11 (A7.keep K9)).keep K13).lt (Nat.le_of_eq g15.symm))) nin0))) hZ (hw _ (List.mem_of_getElem? (i := 22) rfl)) (hw _ (List.mem_of_getElem? (i := 7) rfl)) (by decide) (by decide)) q20a q20c (g := (mkF m 69 #[.val (.long x0), .second, .val (.long y0), .second, .val (.long z0), .second, .val (.long w0), .second, .val (.long c1), .second, .val (.long n1), .second, .val (.long c2), .second, .val (.long n2), .second, .val (.ref b7), .val (.ref b11), .val (.ref b15), .unset, .unset, .unset, .unset, .unset, .unset] [(.ref b7)])) rfl (by rw [hml]; rfl) (Steps.refl _) (argsL := []) (rest := []) (lenOf own_pd3 rfl) rfl (by show 2 * 0 + _ ≤ _; exact Nat.le_of_eq rfl) (hb hby at_69) (fun _ _ => ⟨rfl, e17, (by decide : 3 + 0 ≤ _), (by decide : 6 + 0 ≤ _)⟩)
  dsimp only [Pt.U, Pt.locs, Pt.cells, Pt.slots] at X20 l20 y20 z20 st20 hQ20
  subst l20 y20 z20
  obtain ⟨rfl, Nq20, e20⟩ := hQ20
  have N20 := Fr.app N17 Nq20
  refine own_fs st20 ?_
  show own_G p.tables e below _ (T20.setTop (mkF m 72 #[.val (.long x0), .second, .val (.long y0), .second, .val (.long z0), .second, .val (.long w0), .second, .val (.long c1), .second, .val (.long n1), .second, .val (.long c2), .second, .val (.long n2), .second, .val (.ref b7), .val (.ref b11), .val (.ref b15), .unset, .unset, .unset, .unset, .unset, .unset] [(.int (own_rh c1 n1))]))
  refine own_fs (XS.istore X20.here hx rfl (hb hby at_72) rfl (l' := #[.val (.long x0), .second, .val (.long y0), .second, .val (.long z0), .second, .val (.long w0), .second, .val (.long c1), .second, .val (.long n1), .second, .val (.long c2), .second, .val (.long n2), .second, .val (.ref b7), .val (.ref b11), .val (.ref b15), .val (.int (own_rh c1 n1)), .unset, .unset, .unset, .unset, .unset]) rfl (Steps.refl _)) ?_
  show own_G p.tables e below _ (T20.setTop (mkF m 74 #[.val (.long x0), .second, .val (.long y0), .second, .val (.long z0), .second, .val (.long w0), .second, .val (.long c1), .second, .val (.long n1), .second, .val (.long c2), .second, .val (.long n2), .second, .val (.ref b7), .val (.ref b11), .val (.ref b15), .val (.int (own_rh c1 n1)), .unset, .unset, .unset, .unset, .unset] []))
  refine own_fs (XS.aload X20.here hx rfl (hb hby at_74) rfl rfl (Steps.refl _)) ?_
  show own_G p.tables e below _ (T20.setTop (mkF m 76 #[.val (.long x0), .second, .val (.long y0), .second, .val (.long z0), .second, .val (.long w0), .second, .val (.long c1), .second, .val (.long n1), .second, .val (.long c2), .second, .val (.long n2), .second, .val (.ref b7), .val (.ref b11), .val (.ref b15), .val (.int (own_rh c1 n1)), .unset, .unset, .unset, .unset, .unset] [(.ref b11)]))
  have Zs24 : n0 ≤ h17.size := (Nat.le_trans (Nat.le_trans (Nat.le_trans (Nat.le_trans (Nat.le_trans (Nat.le_trans Z0 E7.1) K9.1) E11.1) K13.1) E15.1) K17.1)
  obtain ⟨cq23, kq23, q23a, q23b, q23c⟩ := isOf hZ e20 ((Exa.ext E15 (A11.keep K13)).keep K17)
  obtain ⟨_, _, ⟨T23, L23, k23, n23⟩, -, X23, ⟨Lc23, hQ23, l23, y23, z23⟩, st23⟩ := X20.virtualBack hx (y := (⟨"com/example/dibs/dibs/namespace/RequestId", "hashCode", "()I"⟩ : MethodName)) (z := (⟨"com/example/dibs/dibs/namespace/RequestId", "hashCode", "()I"⟩ : MethodName)) hown (mvT hZ (hw _ (List.mem_of_getElem? (i := 18) rfl))) (mvT hZ (hw _ (List.mem_of_getElem? (i := 19) rfl))) (notFace_of_selects (args := #[]) (mvT hZ (hw _ (List.mem_of_getElem? (i := 21) rfl)))) (mvT hZ (hw _ (List.mem_of_getElem? (i := 21) rfl))) (mvT hZ (hw _ (List.mem_of_getElem? (i := 20) rfl))) (by decide) (backOf (W := 0) (own_reqhash l Z a0 hw [] b11 c1 n1 h17 n0 Zs24 ((Fld.ext E15 P12_0).keep K17 (ninS (Nat.ne_of_lt (Nat.lt_of_lt_of_le (A11.keep K13).lt (Nat.le_of_eq g15.symm))) nin0)) ((Fld.ext E15 P12_1).keep K17 (ninS (Nat.ne_of_lt (Nat.lt_of_lt_of_le (A11.keep K13).lt (Nat.le_of_eq g15.symm))) nin0))) hZ (hw _ (List.mem_of_getElem? (i := 22) rfl)) (hw _ (List.mem_of_getElem? (i := 7) rfl)) (by decide) (by decide)) q23a q23c (g := (mkF m 76 #[.val (.long x0), .second, .val (.long y0), .second, .val (.long z0), .second, .val (.long w0), .second, .val (.long c1), .second, .val (.long n1), .second, .val (.long c2), .second, .val (.long n2), .second, .val (.ref b7), .val (.ref b11), .val (.ref b15), .val (.int (own_rh c1 n1)), .unset, .unset, .unset, .unset, .unset] [(.ref b11)])) rfl (by rw [hml]; rfl) (Steps.refl _) (argsL := []) (rest := []) (lenOf own_pd3 rfl) rfl (by show 2 * 0 + _ ≤ _; exact Nat.le_of_eq rfl) (hb hby at_76) (fun _ _ => ⟨rfl, e20, (by decide : 3 + 0 ≤ _), (by decide : 6 + 0 ≤ _)⟩)
  dsimp only [Pt.U, Pt.locs, Pt.cells, Pt.slots] at X23 l23 y23 z23 st23 hQ23
  subst l23 y23 z23
  obtain ⟨rfl, Nq23, e23⟩ := hQ23
  have N23 := Fr.app N20 Nq23
  refine own_fs st23 ?_
  show own_G p.tables e below _ (T23.setTop (mkF m 79 #[.val (.long x0), .second, .val (.long y0), .second, .val (.long z0), .second, .val (.long w0), .second, .val (.long c1), .second, .val (.long n1), .second, .val (.long c2), .second, .val (.long n2), .second, .val (.ref b7), .val (.ref b11), .val (.ref b15), .val (.int (own_rh c1 n1)), .unset, .unset, .unset, .unset, .unset] [(.int (own_rh c1 n1))]))
  refine own_fs (XS.istore X23.here hx rfl (hb hby at_79) rfl (l' := #[.val (.long x0), .second, .val (.long y0), .second, .val (.long z0), .second, .val (.long w0), .second, .val (.long c1), .second, .val (.long n1), .second, .val (.long c2), .second, .val (.long n2), .second, .val (.ref b7), .val (.ref b11), .val (.ref b15), .val (.int (own_rh c1 n1)), .val (.int (own_rh c1 n1)), .unset, .unset, .unset, .unset]) rfl (Steps.refl _)) ?_
  show own_G p.tables e below _ (T23.setTop (mkF m 81 #[.val (.long x0), .second, .val (.long y0), .second, .val (.long z0), .second, .val (.long w0), .second, .val (.long c1), .second, .val (.long n1), .second, .val (.long c2), .second, .val (.long n2), .second, .val (.ref b7), .val (.ref b11), .val (.ref b15), .val (.int (own_rh c1 n1)), .val (.int (own_rh c1 n1)), .unset, .unset, .unset, .unset] []))
  refine own_fs (XS.aload X23.here hx rfl (hb hby at_81) rfl rfl (Steps.refl _)) ?_
  show own_G p.tables e below _ (T23.setTop (mkF m 83 #[.val (.long x0), .second, .val (.long y0), .second, .val (.long z0), .second, .val (.long w0), .second, .val (.long c1), .second, .val (.long n1), .second, .val (.long c2), .second, .val (.long n2), .second, .val (.ref b7), .val (.ref b11), .val (.ref b15), .val (.int (own_rh c1 n1)), .val (.int (own_rh c1 n1)), .unset, .unset, .unset, .unset] [(.ref b15)]))
  have Zs27 : n0 ≤ h17.size := (Nat.le_trans (Nat.le_trans (Nat.le_trans (Nat.le_trans (Nat.le_trans (Nat.le_trans Z0 E7.1) K9.1) E11.1) K13.1) E15.1) K17.1)
  obtain ⟨cq26, kq26, q26a, q26b, q26c⟩ := isOf hZ e23 (A15.keep K17)
  obtain ⟨_, _, ⟨T26, L26, k26, n26⟩, -, X26, ⟨Lc26, hQ26, l26, y26, z26⟩, st26⟩ := X23.virtualBack hx (y := (⟨"com/example/dibs/dibs/namespace/RequestId", "hashCode", "()I"⟩ : MethodName)) (z := (⟨"com/example/dibs/dibs/namespace/RequestId", "hashCode", "()I"⟩ : MethodName)) hown (mvT hZ (hw _ (List.mem_of_getElem? (i := 18) rfl))) (mvT hZ (hw _ (List.mem_of_getElem? (i := 19) rfl))) (notFace_of_selects (args := #[]) (mvT hZ (hw _ (List.mem_of_getElem? (i := 21) rfl)))) (mvT hZ (hw _ (List.mem_of_getElem? (i := 21) rfl))) (mvT hZ (hw _ (List.mem_of_getElem? (i := 20) rfl))) (by decide) (backOf (W := 0) (own_reqhash l Z a0 hw [] b15 c2 n2 h17 n0 Zs27 P16_0 P16_1) hZ (hw _ (List.mem_of_getElem? (i := 22) rfl)) (hw _ (List.mem_of_getElem? (i := 7) rfl)) (by decide) (by decide)) q26a q26c (g := (mkF m 83 #[.val (.long x0), .second, .val (.long y0), .second, .val (.long z0), .second, .val (.long w0), .second, .val (.long c1), .second, .val (.long n1), .second, .val (.long c2), .second, .val (.long n2), .second, .val (.ref b7), .val (.ref b11), .val (.ref b15), .val (.int (own_rh c1 n1)), .val (.int (own_rh c1 n1)), .unset, .unset, .unset, .unset] [(.ref b15)])) rfl (by rw [hml]; rfl) (Steps.refl _) (argsL := []) (rest := []) (lenOf own_pd3 rfl) rfl (by show 2 * 0 + _ ≤ _; exact Nat.le_of_eq rfl) (hb hby at_83) (fun _ _ => ⟨rfl, e23, (by decide : 3 + 0 ≤ _), (by decide : 6 + 0 ≤ _)⟩)
  dsimp only [Pt.U, Pt.locs, Pt.cells, Pt.slots] at X26 l26 y26 z26 st26 hQ26
  subst l26 y26 z26
  obtain ⟨rfl, Nq26, e26⟩ := hQ26
  have N26 := Fr.app N23 Nq26
  refine own_fs st26 ?_
  show own_G p.tables e below _ (T26.setTop (mkF m 86 #[.val (.long x0), .second, .val (.long y0), .second, .val (.long z0), .second, .val (.long w0), .second, .val (.long c1), .second, .val (.long n1), .second, .val (.long c2), .second, .val (.long n2), .second, .val (.ref b7), .val (.ref b11), .val (.ref b15), .val (.int (own_rh c1 n1)), .val (.int (own_rh c1 n1)), .unset, .unset, .unset, .unset] [(.int (own_rh c2 n2))]))
  refine own_fs (XS.istore X26.here hx rfl (hb hby at_86) rfl (l' := #[.val (.long x0), .second, .val (.long y0), .second, .val (.long z0), .second, .val (.long w0), .second, .val (.long c1), .second, .val (.long n1), .second, .val (.long c2), .second, .val (.long n2), .second, .val (.ref b7), .val (.ref b11), .val (.ref b15), .val (.int (own_rh c1 n1)), .val (.int (own_rh c1 n1)), .val (.int (own_rh c2 n2)), .unset, .unset, .unset]) rfl (Steps.refl _)) ?_
  show own_G p.tables e below _ (T26.setTop (mkF m 88 #[.val (.long x0), .second, .val (.long y0), .second, .val (.long z0), .second, .val (.long w0), .second, .val (.long c1), .second, .val (.long n1), .second, .val (.long c2), .second, .val (.long n2), .second, .val (.ref b7), .val (.ref b11), .val (.ref b15), .val (.int (own_rh c1 n1)), .val (.int (own_rh c1 n1)), .val (.int (own_rh c2 n2)), .unset, .unset, .unset] []))
  rcases own_dec c1 c2 with ⟨cc, cc'⟩ | ⟨cc, cc'⟩
  · rcases own_dec n1 n2 with ⟨nn, nn'⟩ | ⟨nn, nn'⟩
    · show own_G p.tables e below _ (T26.setTop (mkF m 88 #[.val (.long x0), .second, .val (.long y0), .second, .val (.long z0), .second, .val (.long w0), .second, .val (.long c1), .second, .val (.long n1), .second, .val (.long c2), .second, .val (.long n2), .second, .val (.ref b7), .val (.ref b11), .val (.ref b15), .val (.int (own_rh c1 n1)), .val (.int (own_rh c1 n1)), .val (.int (own_rh c2 n2)), .unset, .unset, .unset] []))
      refine own_fs (XS.lload X26.here hx rfl (hb hby at_88) rfl (Steps.refl _)) ?_
      show own_G p.tables e below _ (T26.setTop (mkF m 90 #[.val (.long x0), .second, .val (.long y0), .second, .val (.long z0), .second, .val (.long w0), .second, .val (.long c1), .second, .val (.long n1), .second, .val (.long c2), .second, .val (.long n2), .second, .val (.ref b7), .val (.ref b11), .val (.ref b15), .val (.int (own_rh c1 n1)), .val (.int (own_rh c1 n1)), .val (.int (own_rh c2 n2)), .unset, .unset, .unset] [(.long c1)]))
      refine own_fs (XS.lload X26.here hx rfl (hb hby at_90) rfl (Steps.refl _)) ?_
      show own_G p.tables e below _ (T26.setTop (mkF m 92 #[.val (.long x0), .second, .val (.long y0), .second, .val (.long z0), .second, .val (.long w0), .second, .val (.long c1), .second, .val (.long n1), .second, .val (.long c2), .second, .val (.long n2), .second, .val (.ref b7), .val (.ref b11), .val (.ref b15), .val (.int (own_rh c1 n1)), .val (.int (own_rh c1 n1)), .val (.int (own_rh c2 n2)), .unset, .unset, .unset] [(.long c2), (.long c1)]))
      refine own_fs (XT.lcmp X26.here hx rfl (hb hby at_92) rfl (Steps.refl _)) ?_
      show own_G p.tables e below _ (T26.setTop (mkF m 93 #[.val (.long x0), .second, .val (.long y0), .second, .val (.long z0), .second, .val (.long w0), .second, .val (.long c1), .second, .val (.long n1), .second, .val (.long c2), .second, .val (.long n2), .second, .val (.ref b7), .val (.ref b11), .val (.ref b15), .val (.int (own_rh c1 n1)), .val (.int (own_rh c1 n1)), .val (.int (own_rh c2 n2)), .unset, .unset, .unset] [(.int (XT.cmpL c1 c2))]))
      refine own_fs (XS.ifNo X26.here hx rfl (hb hby at_93) rfl (XT.ll_ne_f cc) (Steps.refl _)) ?_
      show own_G p.tables e below _ (T26.setTop (mkF m 96 #[.val (.long x0), .second, .val (.long y0), .second, .val (.long z0), .second, .val (.long w0), .second, .val (.long c1), .second, .val (.long n1), .second, .val (.long c2), .second, .val (.long n2), .second, .val (.ref b7), .val (.ref b11), .val (.ref b15), .val (.int (own_rh c1 n1)), .val (.int (own_rh c1 n1)), .val (.int (own_rh c2 n2)), .unset, .unset, .unset] []))
      refine own_fs (XS.lload X26.here hx rfl (hb hby at_96) rfl (Steps.refl _)) ?_
      show own_G p.tables e below _ (T26.setTop (mkF m 98 #[.val (.long x0), .second, .val (.long y0), .second, .val (.long z0), .second, .val (.long w0), .second, .val (.long c1), .second, .val (.long n1), .second, .val (.long c2), .second, .val (.long n2), .second, .val (.ref b7), .val (.ref b11), .val (.ref b15), .val (.int (own_rh c1 n1)), .val (.int (own_rh c1 n1)), .val (.int (own_rh c2 n2)), .unset, .unset, .unset] [(.long n1)]))
      refine own_fs (XS.lload X26.here hx rfl (hb hby at_98) rfl (Steps.refl _)) ?_
      show own_G p.tables e below _ (T26.setTop (mkF m 100 #[.val (.long x0), .second, .val (.long y0), .second, .val (.long z0), .second, .val (.long w0), .second, .val (.long c1), .second, .val (.long n1), .second, .val (.long c2), .second, .val (.long n2), .second, .val (.ref b7), .val (.ref b11), .val (.ref b15), .val (.int (own_rh c1 n1)), .val (.int (own_rh c1 n1)), .val (.int (own_rh c2 n2)), .unset, .unset, .unset] [(.long n2), (.long n1)]))
      refine own_fs (XT.lcmp X26.here hx rfl (hb hby at_100) rfl (Steps.refl _)) ?_
      show own_G p.tables e below _ (T26.setTop (mkF m 101 #[.val (.long x0), .second, .val (.long y0), .second, .val (.long z0), .second, .val (.long w0), .second, .val (.long c1), .second, .val (.long n1), .second, .val (.long c2), .second, .val (.long n2), .second, .val (.ref b7), .val (.ref b11), .val (.ref b15), .val (.int (own_rh c1 n1)), .val (.int (own_rh c1 n1)), .val (.int (own_rh c2 n2)), .unset, .unset, .unset] [(.int (XT.cmpL n1 n2))]))
      refine own_fs (XS.ifNo X26.here hx rfl (hb hby at_101) rfl (XT.ll_ne_f nn) (Steps.refl _)) ?_
      show own_G p.tables e below _ (T26.setTop (mkF m 104 #[.val (.long x0), .second, .val (.long y0), .second, .val (.long z0), .second, .val (.long w0), .second, .val (.long c1), .second, .val (.long n1), .second, .val (.long c2), .second, .val (.long n2), .second, .val (.ref b7), .val (.ref b11), .val (.ref b15), .val (.int (own_rh c1 n1)), .val (.int (own_rh c1 n1)), .val (.int (own_rh c2 n2)), .unset, .unset, .unset] []))
      refine own_fs (XS.iconst X26.here hx rfl (hb hby at_104) (Steps.refl _)) ?_
      show own_G p.tables e below _ (T26.setTop (mkF m 105 #[.val (.long x0), .second, .val (.long y0), .second, .val (.long z0), .second, .val (.long w0), .second, .val (.long c1), .second, .val (.long n1), .second, .val (.long c2), .second, .val (.long n2), .second, .val (.ref b7), .val (.ref b11), .val (.ref b15), .val (.int (own_rh c1 n1)), .val (.int (own_rh c1 n1)), .val (.int (own_rh c2 n2)), .unset, .unset, .unset] [(.int (1 : Int32))]))
      refine own_fs (XS.goto X26.here hx rfl (pc0 := 105) (pc' := 109) rfl (hb hby at_105) (by decide) (by decide) (Steps.refl _)) ?_
      show own_G p.tables e below _ (T26.setTop (mkF m 109 #[.val (.long x0), .second, .val (.long y0), .second, .val (.long z0), .second, .val (.long w0), .second, .val (.long c1), .second, .val (.long n1), .second, .val (.long c2), .second, .val (.long n2), .second, .val (.ref b7), .val (.ref b11), .val (.ref b15), .val (.int (own_rh c1 n1)), .val (.int (own_rh c1 n1)), .val (.int (own_rh c2 n2)), .unset, .unset, .unset] [(.int (1 : Int32))]))
      refine own_fs (XS.istore X26.here hx rfl (hb hby at_109) rfl (l' := #[.val (.long x0), .second, .val (.long y0), .second, .val (.long z0), .second, .val (.long w0), .second, .val (.long c1), .second, .val (.long n1), .second, .val (.long c2), .second, .val (.long n2), .second, .val (.ref b7), .val (.ref b11), .val (.ref b15), .val (.int (own_rh c1 n1)), .val (.int (own_rh c1 n1)), .val (.int (own_rh c2 n2)), .val (.int (1 : Int32)), .unset, .unset]) rfl (Steps.refl _)) ?_
      show own_G p.tables e below _ (T26.setTop (mkF m 111 #[.val (.long x0), .second, .val (.long y0), .second, .val (.long z0), .second, .val (.long w0), .second, .val (.long c1), .second, .val (.long n1), .second, .val (.long c2), .second, .val (.long n2), .second, .val (.ref b7), .val (.ref b11), .val (.ref b15), .val (.int (own_rh c1 n1)), .val (.int (own_rh c1 n1)), .val (.int (own_rh c2 n2)), .val (.int (1 : Int32)), .unset, .unset] []))
      refine own_fs (XS.aload X26.here hx rfl (hb hby at_111) rfl rfl (Steps.refl _)) ?_
      show own_G p.tables e below _ (T26.setTop (mkF m 113 #[.val (.long x0), .second, .val (.long y0), .second, .val (.long z0), .second, .val (.long w0), .second, .val (.long c1), .second, .val (.long n1), .second, .val (.long c2), .second, .val (.long n2), .second, .val (.ref b7), .val (.ref b11), .val (.ref b15), .val (.int (own_rh c1 n1)), .val (.int (own_rh c1 n1)), .val (.int (own_rh c2 n2)), .val (.int (1 : Int32)), .unset, .unset] [(.ref b7)]))
      refine own_fs (XS.aload X26.here hx rfl (hb hby at_113) rfl rfl (Steps.refl _)) ?_
      show own_G p.tables e below _ (T26.setTop (mkF m 115 #[.val (.long x0), .second, .val (.long y0), .second, .val (.long z0), .second, .val (.long w0), .second, .val (.long c1), .second, .val (.long n1), .second, .val (.long c2), .second, .val (.long n2), .second, .val (.ref b7), .val (.ref b11), .val (.ref b15), .val (.int (own_rh c1 n1)), .val (.int (own_rh c1 n1)), .val (.int (own_rh c2 n2)), .val (.int (1 : Int32)), .unset, .unset] [(.ref b11), (.ref b7)]))
      have Zs30 : n0 ≤ h17.size := (Nat.le_trans (Nat.le_trans (Nat.le_trans (Nat.le_trans (Nat.le_trans (Nat.le_trans Z0 E7.1) K9.1) E11.1) K13.1) E15.1) K17.1)
      obtain ⟨cq29, kq29, q29a, q29b, q29c⟩ := isOf hZ e26 ((Exa.ext E15 ((Exa.ext E11 (A7.keep K9)).keep K13)).keep K17)
      obtain ⟨_, _, ⟨T29, L29, k29, n29⟩, -, X29, ⟨Lc29, hQ29, l29, y29, z29⟩, st29⟩ := X26.virtualBack hx (y := (⟨"com/example/dibs/dibs/namespace/RequestId", "equals", "(Ljava/lang/Object;)Z"⟩ : MethodName)) (z := (⟨"com/example/dibs/dibs/namespace/RequestId", "equals", "(Ljava/lang/Object;)Z"⟩ : MethodName)) hown (mvT hZ (hw _ (List.mem_of_getElem? (i := 27) rfl))) (mvT hZ (hw _ (List.mem_of_getElem? (i := 28) rfl))) (notFace_of_selects (args := #[]) (mvT hZ (hw _ (List.mem_of_getElem? (i := 30) rfl)))) (mvT hZ (hw _ (List.mem_of_getElem? (i := 30) rfl))) (mvT hZ (hw _ (List.mem_of_getElem? (i := 29) rfl))) (by decide) (backOf (W := 0) (own_equals l Z a0 hw [] b7 b11 c1 n1 c1 n1 h17 n0 Zs30 ((Fld.ext E15 ((Fld.ext E11 P8_0).keep K13 (ninS (Nat.ne_of_lt (Nat.lt_of_lt_of_le (A7.keep K9).lt (Nat.le_of_eq g11.symm))) nin0))).keep K17 (ninS (Nat.ne_of_lt (Nat.lt_of_lt_of_le ((Exa.ext E11 (A7.keep K9)).keep K13).lt (Nat.le_of_eq g15.symm))) nin0)) ((Fld.ext E15 ((Fld.ext E11 P8_1).keep K13 (ninS (Nat.ne_of_lt (Nat.lt_of_lt_of_le (A7.keep K9).lt (Nat.le_of_eq g11.symm))) nin0))).keep K17 (ninS (Nat.ne_of_lt (Nat.lt_of_lt_of_le ((Exa.ext E11 (A7.keep K9)).keep K13).lt (Nat.le_of_eq g15.symm))) nin0)) ((Fld.ext E15 P12_0).keep K17 (ninS (Nat.ne_of_lt (Nat.lt_of_lt_of_le (A11.keep K13).lt (Nat.le_of_eq g15.symm))) nin0)) ((Fld.ext E15 P12_1).keep K17 (ninS (Nat.ne_of_lt (Nat.lt_of_lt_of_le (A11.keep K13).lt (Nat.le_of_eq g15.symm))) nin0)) ((Exa.ext E15 (A11.keep K13)).keep K17)) hZ (hw _ (List.mem_of_getElem? (i := 31) rfl)) (hw _ (List.mem_of_getElem? (i := 7) rfl)) (by decide) (by decide)) q29a q29c (g := (mkF m 115 #[.val (.long x0), .second, .val (.long y0), .second, .val (.long z0), .second, .val (.long w0), .second, .val (.long c1), .second, .val (.long n1), .second, .val (.long c2), .second, .val (.long n2), .second, .val (.ref b7), .val (.ref b11), .val (.ref b15), .val (.int (own_rh c1 n1)), .val (.int (own_rh c1 n1)), .val (.int (own_rh c2 n2)), .val (.int (1 : Int32)), .unset, .unset] [(.ref b11), (.ref b7)])) rfl (by rw [hml]; rfl) (Steps.refl _) (argsL := [(.ref b11)]) (rest := []) (lenOf own_pd4 rfl) rfl (by show 2 * 0 + _ ≤ _; exact Nat.le_of_eq rfl) (hb hby at_115) (fun _ _ => ⟨rfl, e26, (by decide : 3 + 0 ≤ _), (by decide : 6 + 0 ≤ _)⟩)
      dsimp only [Pt.U, Pt.locs, Pt.cells, Pt.slots] at X29 l29 y29 z29 st29 hQ29
      subst l29 y29 z29
      obtain ⟨rfl, Nq29, e29⟩ := hQ29
      have N29 := Fr.app N26 Nq29
      refine own_fs st29 ?_
      show own_G p.tables e below _ (T29.setTop (mkF m 118 #[.val (.long x0), .second, .val (.long y0), .second, .val (.long z0), .second, .val (.long w0), .second, .val (.long c1), .second, .val (.long n1), .second, .val (.long c2), .second, .val (.long n2), .second, .val (.ref b7), .val (.ref b11), .val (.ref b15), .val (.int (own_rh c1 n1)), .val (.int (own_rh c1 n1)), .val (.int (own_rh c2 n2)), .val (.int (1 : Int32)), .unset, .unset] [(.int (own_eq c1 n1 c1 n1))]))
      refine own_fs (XS.istore X29.here hx rfl (hb hby at_118) rfl (l' := #[.val (.long x0), .second, .val (.long y0), .second, .val (.long z0), .second, .val (.long w0), .second, .val (.long c1), .second, .val (.long n1), .second, .val (.long c2), .second, .val (.long n2), .second, .val (.ref b7), .val (.ref b11), .val (.ref b15), .val (.int (own_rh c1 n1)), .val (.int (own_rh c1 n1)), .val (.int (own_rh c2 n2)), .val (.int (1 : Int32)), .val (.int (own_eq c1 n1 c1 n1)), .unset]) rfl (Steps.refl _)) ?_
      show own_G p.tables e below _ (T29.setTop (mkF m 120 #[.val (.long x0), .second, .val (.long y0), .second, .val (.long z0), .second, .val (.long w0), .second, .val (.long c1), .second, .val (.long n1), .second, .val (.long c2), .second, .val (.long n2), .second, .val (.ref b7), .val (.ref b11), .val (.ref b15), .val (.int (own_rh c1 n1)), .val (.int (own_rh c1 n1)), .val (.int (own_rh c2 n2)), .val (.int (1 : Int32)), .val (.int (own_eq c1 n1 c1 n1)), .unset] []))
      refine own_fs (XS.aload X29.here hx rfl (hb hby at_120) rfl rfl (Steps.refl _)) ?_
      show own_G p.tables e below _ (T29.setTop (mkF m 122 #[.val (.long x0), .second, .val (.long y0), .second, .val (.long z0), .second, .val (.long w0), .second, .val (.long c1), .second, .val (.long n1), .second, .val (.long c2), .second, .val (.long n2), .second, .val (.ref b7), .val (.ref b11), .val (.ref b15), .val (.int (own_rh c1 n1)), .val (.int (own_rh c1 n1)), .val (.int (own_rh c2 n2)), .val (.int (1 : Int32)), .val (.int (own_eq c1 n1 c1 n1)), .unset] [(.ref b7)]))
      refine own_fs (XS.aload X29.here hx rfl (hb hby at_122) rfl rfl (Steps.refl _)) ?_
      show own_G p.tables e below _ (T29.setTop (mkF m 124 #[.val (.long x0), .second, .val (.long y0), .second, .val (.long z0), .second, .val (.long w0), .second, .val (.long c1), .second, .val (.long n1), .second, .val (.long c2), .second, .val (.long n2), .second, .val (.ref b7), .val (.ref b11), .val (.ref b15), .val (.int (own_rh c1 n1)), .val (.int (own_rh c1 n1)), .val (.int (own_rh c2 n2)), .val (.int (1 : Int32)), .val (.int (own_eq c1 n1 c1 n1)), .unset] [(.ref b15), (.ref b7)]))
      have Zs33 : n0 ≤ h17.size := (Nat.le_trans (Nat.le_trans (Nat.le_trans (Nat.le_trans (Nat.le_trans (Nat.le_trans Z0 E7.1) K9.1) E11.1) K13.1) E15.1) K17.1)
      obtain ⟨cq32, kq32, q32a, q32b, q32c⟩ := isOf hZ e29 ((Exa.ext E15 ((Exa.ext E11 (A7.keep K9)).keep K13)).keep K17)
      obtain ⟨_, _, ⟨T32, L32, k32, n32⟩, -, X32, ⟨Lc32, hQ32, l32, y32, z32⟩, st32⟩ := X29.virtualBack hx (y := (⟨"com/example/dibs/dibs/namespace/RequestId", "equals", "(Ljava/lang/Object;)Z"⟩ : MethodName)) (z := (⟨"com/example/dibs/dibs/namespace/RequestId", "equals", "(Ljava/lang/Object;)Z"⟩ : MethodName)) hown (mvT hZ (hw _ (List.mem_of_getElem? (i := 27) rfl))) (mvT hZ (hw _ (List.mem_of_getElem? (i := 28) rfl))) (notFace_of_selects (args := #[]) (mvT hZ (hw _ (List.mem_of_getElem? (i := 30) rfl)))) (mvT hZ (hw _ (List.mem_of_getElem? (i := 30) rfl))) (mvT hZ (hw _ (List.mem_of_getElem? (i := 29) rfl))) (by decide) (backOf (W := 0) (own_equals l Z a0 hw [] b7 b15 c1 n1 c2 n2 h17 n0 Zs33 ((Fld.ext E15 ((Fld.ext E11 P8_0).keep K13 (ninS (Nat.ne_of_lt (Nat.lt_of_lt_of_le (A7.keep K9).lt (Nat.le_of_eq g11.symm))) nin0))).keep K17 (ninS (Nat.ne_of_lt (Nat.lt_of_lt_of_le ((Exa.ext E11 (A7.keep K9)).keep K13).lt (Nat.le_of_eq g15.symm))) nin0)) ((Fld.ext E15 ((Fld.ext E11 P8_1).keep K13 (ninS (Nat.ne_of_lt (Nat.lt_of_lt_of_le (A7.keep K9).lt (Nat.le_of_eq g11.symm))) nin0))).keep K17 (ninS (Nat.ne_of_lt (Nat.lt_of_lt_of_le ((Exa.ext E11 (A7.keep K9)).keep K13).lt (Nat.le_of_eq g15.symm))) nin0)) P16_0 P16_1 (A15.keep K17)) hZ (hw _ (List.mem_of_getElem? (i := 31) rfl)) (hw _ (List.mem_of_getElem? (i := 7) rfl)) (by decide) (by decide)) q32a q32c (g := (mkF m 124 #[.val (.long x0), .second, .val (.long y0), .second, .val (.long z0), .second, .val (.long w0), .second, .val (.long c1), .second, .val (.long n1), .second, .val (.long c2), .second, .val (.long n2), .second, .val (.ref b7), .val (.ref b11), .val (.ref b15), .val (.int (own_rh c1 n1)), .val (.int (own_rh c1 n1)), .val (.int (own_rh c2 n2)), .val (.int (1 : Int32)), .val (.int (own_eq c1 n1 c1 n1)), .unset] [(.ref b15), (.ref b7)])) rfl (by rw [hml]; rfl) (Steps.refl _) (argsL := [(.ref b15)]) (rest := []) (lenOf own_pd4 rfl) rfl (by show 2 * 0 + _ ≤ _; exact Nat.le_of_eq rfl) (hb hby at_124) (fun _ _ => ⟨rfl, e29, (by decide : 3 + 0 ≤ _), (by decide : 6 + 0 ≤ _)⟩)
      dsimp only [Pt.U, Pt.locs, Pt.cells, Pt.slots] at X32 l32 y32 z32 st32 hQ32
      subst l32 y32 z32
      obtain ⟨rfl, Nq32, e32⟩ := hQ32
      have N32 := Fr.app N29 Nq32
      refine own_fs st32 ?_
      show own_G p.tables e below _ (T32.setTop (mkF m 127 #[.val (.long x0), .second, .val (.long y0), .second, .val (.long z0), .second, .val (.long w0), .second, .val (.long c1), .second, .val (.long n1), .second, .val (.long c2), .second, .val (.long n2), .second, .val (.ref b7), .val (.ref b11), .val (.ref b15), .val (.int (own_rh c1 n1)), .val (.int (own_rh c1 n1)), .val (.int (own_rh c2 n2)), .val (.int (1 : Int32)), .val (.int (own_eq c1 n1 c1 n1)), .unset] [(.int (own_eq c1 n1 c2 n2))]))
      refine own_fs (XS.istore X32.here hx rfl (hb hby at_127) rfl (l' := #[.val (.long x0), .second, .val (.long y0), .second, .val (.long z0), .second, .val (.long w0), .second, .val (.long c1), .second, .val (.long n1), .second, .val (.long c2), .second, .val (.long n2), .second, .val (.ref b7), .val (.ref b11), .val (.ref b15), .val (.int (own_rh c1 n1)), .val (.int (own_rh c1 n1)), .val (.int (own_rh c2 n2)), .val (.int (1 : Int32)), .val (.int (own_eq c1 n1 c1 n1)), .val (.int (own_eq c1 n1 c2 n2))]) rfl (Steps.refl _)) ?_
      show own_G p.tables e below _ (T32.setTop (mkF m 129 #[.val (.long x0), .second, .val (.long y0), .second, .val (.long z0), .second, .val (.long w0), .second, .val (.long c1), .second, .val (.long n1), .second, .val (.long c2), .second, .val (.long n2), .second, .val (.ref b7), .val (.ref b11), .val (.ref b15), .val (.int (own_rh c1 n1)), .val (.int (own_rh c1 n1)), .val (.int (own_rh c2 n2)), .val (.int (1 : Int32)), .val (.int (own_eq c1 n1 c1 n1)), .val (.int (own_eq c1 n1 c2 n2))] []))
      rw [show own_eq c1 n1 c1 n1 = (1 : Int32) from by simp only [own_eq, ↓reduceIte]]
      rw [show own_eq c1 n1 c2 n2 = (1 : Int32) from by simp only [own_eq, cc', nn', ↓reduceIte]]
      show own_G p.tables e below _ (T32.setTop (mkF m 129 #[.val (.long x0), .second, .val (.long y0), .second, .val (.long z0), .second, .val (.long w0), .second, .val (.long c1), .second, .val (.long n1), .second, .val (.long c2), .second, .val (.long n2), .second, .val (.ref b7), .val (.ref b11), .val (.ref b15), .val (.int (own_rh c1 n1)), .val (.int (own_rh c1 n1)), .val (.int (own_rh c2 n2)), .val (.int (1 : Int32)), .val (.int (1 : Int32)), .val (.int (1 : Int32))] []))
      refine own_fs (XS.iload X32.here hx rfl (hb hby at_129) rfl (Steps.refl _)) ?_
      show own_G p.tables e below _ (T32.setTop (mkF m 131 #[.val (.long x0), .second, .val (.long y0), .second, .val (.long z0), .second, .val (.long w0), .second, .val (.long c1), .second, .val (.long n1), .second, .val (.long c2), .second, .val (.long n2), .second, .val (.ref b7), .val (.ref b11), .val (.ref b15), .val (.int (own_rh c1 n1)), .val (.int (own_rh c1 n1)), .val (.int (own_rh c2 n2)), .val (.int (1 : Int32)), .val (.int (1 : Int32)), .val (.int (1 : Int32))] [(.int (1 : Int32))]))
      refine own_fs (XS.ifNo X32.here hx rfl (hb hby at_131) rfl (XT.i0_eq_f (by decide : ¬ ((1 : Int32) = (0 : Int32)))) (Steps.refl _)) ?_
      show own_G p.tables e below _ (T32.setTop (mkF m 134 #[.val (.long x0), .second, .val (.long y0), .second, .val (.long z0), .second, .val (.long w0), .second, .val (.long c1), .second, .val (.long n1), .second, .val (.long c2), .second, .val (.long n2), .second, .val (.ref b7), .val (.ref b11), .val (.ref b15), .val (.int (own_rh c1 n1)), .val (.int (own_rh c1 n1)), .val (.int (own_rh c2 n2)), .val (.int (1 : Int32)), .val (.int (1 : Int32)), .val (.int (1 : Int32))] []))
      refine own_fs (XS.iload X32.here hx rfl (hb hby at_134) rfl (Steps.refl _)) ?_
      show own_G p.tables e below _ (T32.setTop (mkF m 136 #[.val (.long x0), .second, .val (.long y0), .second, .val (.long z0), .second, .val (.long w0), .second, .val (.long c1), .second, .val (.long n1), .second, .val (.long c2), .second, .val (.long n2), .second, .val (.ref b7), .val (.ref b11), .val (.ref b15), .val (.int (own_rh c1 n1)), .val (.int (own_rh c1 n1)), .val (.int (own_rh c2 n2)), .val (.int (1 : Int32)), .val (.int (1 : Int32)), .val (.int (1 : Int32))] [(.int (own_rh c1 n1))]))
      refine own_fs (XS.iload X32.here hx rfl (hb hby at_136) rfl (Steps.refl _)) ?_
      show own_G p.tables e below _ (T32.setTop (mkF m 138 #[.val (.long x0), .second, .val (.long y0), .second, .val (.long z0), .second, .val (.long w0), .second, .val (.long c1), .second, .val (.long n1), .second, .val (.long c2), .second, .val (.long n2), .second, .val (.ref b7), .val (.ref b11), .val (.ref b15), .val (.int (own_rh c1 n1)), .val (.int (own_rh c1 n1)), .val (.int (own_rh c2 n2)), .val (.int (1 : Int32)), .val (.int (1 : Int32)), .val (.int (1 : Int32))] [(.int (own_rh c1 n1)), (.int (own_rh c1 n1))]))
      refine own_fs (XS.icmpNo X32.here hx rfl (hb hby at_138) rfl (XT.ii_ne_f (rfl : (own_rh c1 n1) = (own_rh c1 n1))) (Steps.refl _)) ?_
      show own_G p.tables e below _ (T32.setTop (mkF m 141 #[.val (.long x0), .second, .val (.long y0), .second, .val (.long z0), .second, .val (.long w0), .second, .val (.long c1), .second, .val (.long n1), .second, .val (.long c2), .second, .val (.long n2), .second, .val (.ref b7), .val (.ref b11), .val (.ref b15), .val (.int (own_rh c1 n1)), .val (.int (own_rh c1 n1)), .val (.int (own_rh c2 n2)), .val (.int (1 : Int32)), .val (.int (1 : Int32)), .val (.int (1 : Int32))] []))
      refine own_fs (XS.iload X32.here hx rfl (hb hby at_141) rfl (Steps.refl _)) ?_
      show own_G p.tables e below _ (T32.setTop (mkF m 143 #[.val (.long x0), .second, .val (.long y0), .second, .val (.long z0), .second, .val (.long w0), .second, .val (.long c1), .second, .val (.long n1), .second, .val (.long c2), .second, .val (.long n2), .second, .val (.ref b7), .val (.ref b11), .val (.ref b15), .val (.int (own_rh c1 n1)), .val (.int (own_rh c1 n1)), .val (.int (own_rh c2 n2)), .val (.int (1 : Int32)), .val (.int (1 : Int32)), .val (.int (1 : Int32))] [(.int (own_rh c1 n1))]))
      refine own_fs (XS.aload X32.here hx rfl (hb hby at_143) rfl rfl (Steps.refl _)) ?_
      show own_G p.tables e below _ (T32.setTop (mkF m 145 #[.val (.long x0), .second, .val (.long y0), .second, .val (.long z0), .second, .val (.long w0), .second, .val (.long c1), .second, .val (.long n1), .second, .val (.long c2), .second, .val (.long n2), .second, .val (.ref b7), .val (.ref b11), .val (.ref b15), .val (.int (own_rh c1 n1)), .val (.int (own_rh c1 n1)), .val (.int (own_rh c2 n2)), .val (.int (1 : Int32)), .val (.int (1 : Int32)), .val (.int (1 : Int32))] [(.ref b7), (.int (own_rh c1 n1))]))
      have Zs36 : n0 ≤ h17.size := (Nat.le_trans (Nat.le_trans (Nat.le_trans (Nat.le_trans (Nat.le_trans (Nat.le_trans Z0 E7.1) K9.1) E11.1) K13.1) E15.1) K17.1)
      obtain ⟨cq35, kq35, q35a, q35b, q35c⟩ := isOf hZ e32 ((Exa.ext E15 ((Exa.ext E11 (A7.keep K9)).keep K13)).keep K17)
      obtain ⟨_, _, ⟨T35, L35, k35, n35⟩, -, X35, ⟨Lc35, hQ35, l35, y35, z35⟩, st35⟩ := X32.virtualBack hx (y := (⟨"com/example/dibs/dibs/namespace/RequestId", "hashCode", "()I"⟩ : MethodName)) (z := (⟨"com/example/dibs/dibs/namespace/RequestId", "hashCode", "()I"⟩ : MethodName)) hown (mvT hZ (hw _ (List.mem_of_getElem? (i := 18) rfl))) (mvT hZ (hw _ (List.mem_of_getElem? (i := 19) rfl))) (notFace_of_selects (args := #[]) (mvT hZ (hw _ (List.mem_of_getElem? (i := 21) rfl)))) (mvT hZ (hw _ (List.mem_of_getElem? (i := 21) rfl))) (mvT hZ (hw _ (List.mem_of_getElem? (i := 20) rfl))) (by decide) (backOf (W := 1) (own_reqhash l Z a0 hw [] b7 c1 n1 h17 n0 Zs36 ((Fld.ext E15 ((Fld.ext E11 P8_0).keep K13 (ninS (Nat.ne_of_lt (Nat.lt_of_lt_of_le (A7.keep K9).lt (Nat.le_of_eq g11.symm))) nin0))).keep K17 (ninS (Nat.ne_of_lt (Nat.lt_of_lt_of_le ((Exa.ext E11 (A7.keep K9)).keep K13).lt (Nat.le_of_eq g15.symm))) nin0)) ((Fld.ext E15 ((Fld.ext E11 P8_1).keep K13 (ninS (Nat.ne_of_lt (Nat.lt_of_lt_of_le (A7.keep K9).lt (Nat.le_of_eq g11.symm))) nin0))).keep K17 (ninS (Nat.ne_of_lt (Nat.lt_of_lt_of_le ((Exa.ext E11 (A7.keep K9)).keep K13).lt (Nat.le_of_eq g15.symm))) nin0))) hZ (hw _ (List.mem_of_getElem? (i := 22) rfl)) (hw _ (List.mem_of_getElem? (i := 7) rfl)) (by decide) (by decide)) q35a q35c (g := (mkF m 145 #[.val (.long x0), .second, .val (.long y0), .second, .val (.long z0), .second, .val (.long w0), .second, .val (.long c1), .second, .val (.long n1), .second, .val (.long c2), .second, .val (.long n2), .second, .val (.ref b7), .val (.ref b11), .val (.ref b15), .val (.int (own_rh c1 n1)), .val (.int (own_rh c1 n1)), .val (.int (own_rh c2 n2)), .val (.int (1 : Int32)), .val (.int (1 : Int32)), .val (.int (1 : Int32))] [(.ref b7), (.int (own_rh c1 n1))])) rfl (by rw [hml]; rfl) (Steps.refl _) (argsL := []) (rest := [(.int (own_rh c1 n1))]) (lenOf own_pd3 rfl) rfl (by show 2 * 0 + _ ≤ _; exact Nat.le_of_eq rfl) (hb hby at_145) (fun _ _ => ⟨rfl, e32, (by decide : 3 + 0 ≤ _), (by decide : 6 + 0 ≤ _)⟩)
      dsimp only [Pt.U, Pt.locs, Pt.cells, Pt.slots] at X35 l35 y35 z35 st35 hQ35
      subst l35 y35 z35
      obtain ⟨rfl, Nq35, e35⟩ := hQ35
      have N35 := Fr.app N32 Nq35
      refine own_fs st35 ?_
      show own_G p.tables e below _ (T35.setTop (mkF m 148 #[.val (.long x0), .second, .val (.long y0), .second, .val (.long z0), .second, .val (.long w0), .second, .val (.long c1), .second, .val (.long n1), .second, .val (.long c2), .second, .val (.long n2), .second, .val (.ref b7), .val (.ref b11), .val (.ref b15), .val (.int (own_rh c1 n1)), .val (.int (own_rh c1 n1)), .val (.int (own_rh c2 n2)), .val (.int (1 : Int32)), .val (.int (1 : Int32)), .val (.int (1 : Int32))] [(.int (own_rh c1 n1)), (.int (own_rh c1 n1))]))
      refine own_fs (XS.icmpNo X35.here hx rfl (hb hby at_148) rfl (XT.ii_ne_f (rfl : (own_rh c1 n1) = (own_rh c1 n1))) (Steps.refl _)) ?_
      show own_G p.tables e below _ (T35.setTop (mkF m 151 #[.val (.long x0), .second, .val (.long y0), .second, .val (.long z0), .second, .val (.long w0), .second, .val (.long c1), .second, .val (.long n1), .second, .val (.long c2), .second, .val (.long n2), .second, .val (.ref b7), .val (.ref b11), .val (.ref b15), .val (.int (own_rh c1 n1)), .val (.int (own_rh c1 n1)), .val (.int (own_rh c2 n2)), .val (.int (1 : Int32)), .val (.int (1 : Int32)), .val (.int (1 : Int32))] []))
      refine own_fs (XS.iload X35.here hx rfl (hb hby at_151) rfl (Steps.refl _)) ?_
      show own_G p.tables e below _ (T35.setTop (mkF m 153 #[.val (.long x0), .second, .val (.long y0), .second, .val (.long z0), .second, .val (.long w0), .second, .val (.long c1), .second, .val (.long n1), .second, .val (.long c2), .second, .val (.long n2), .second, .val (.ref b7), .val (.ref b11), .val (.ref b15), .val (.int (own_rh c1 n1)), .val (.int (own_rh c1 n1)), .val (.int (own_rh c2 n2)), .val (.int (1 : Int32)), .val (.int (1 : Int32)), .val (.int (1 : Int32))] [(.int (1 : Int32))]))
      refine own_fs (XS.iload X35.here hx rfl (hb hby at_153) rfl (Steps.refl _)) ?_
      show own_G p.tables e below _ (T35.setTop (mkF m 155 #[.val (.long x0), .second, .val (.long y0), .second, .val (.long z0), .second, .val (.long w0), .second, .val (.long c1), .second, .val (.long n1), .second, .val (.long c2), .second, .val (.long n2), .second, .val (.ref b7), .val (.ref b11), .val (.ref b15), .val (.int (own_rh c1 n1)), .val (.int (own_rh c1 n1)), .val (.int (own_rh c2 n2)), .val (.int (1 : Int32)), .val (.int (1 : Int32)), .val (.int (1 : Int32))] [(.int (1 : Int32)), (.int (1 : Int32))]))
      refine own_fs (XS.icmpNo X35.here hx rfl (hb hby at_155) rfl (XT.ii_ne_f (by decide : (1 : Int32) = (1 : Int32))) (Steps.refl _)) ?_
      show own_G p.tables e below _ (T35.setTop (mkF m 158 #[.val (.long x0), .second, .val (.long y0), .second, .val (.long z0), .second, .val (.long w0), .second, .val (.long c1), .second, .val (.long n1), .second, .val (.long c2), .second, .val (.long n2), .second, .val (.ref b7), .val (.ref b11), .val (.ref b15), .val (.int (own_rh c1 n1)), .val (.int (own_rh c1 n1)), .val (.int (own_rh c2 n2)), .val (.int (1 : Int32)), .val (.int (1 : Int32)), .val (.int (1 : Int32))] []))
      refine own_fs (XS.iload X35.here hx rfl (hb hby at_158) rfl (Steps.refl _)) ?_
      show own_G p.tables e below _ (T35.setTop (mkF m 160 #[.val (.long x0), .second, .val (.long y0), .second, .val (.long z0), .second, .val (.long w0), .second, .val (.long c1), .second, .val (.long n1), .second, .val (.long c2), .second, .val (.long n2), .second, .val (.ref b7), .val (.ref b11), .val (.ref b15), .val (.int (own_rh c1 n1)), .val (.int (own_rh c1 n1)), .val (.int (own_rh c2 n2)), .val (.int (1 : Int32)), .val (.int (1 : Int32)), .val (.int (1 : Int32))] [(.int (1 : Int32))]))
      refine own_fs (XS.ifNo X35.here hx rfl (hb hby at_160) rfl (XT.i0_eq_f (by decide : ¬ ((1 : Int32) = (0 : Int32)))) (Steps.refl _)) ?_
      show own_G p.tables e below _ (T35.setTop (mkF m 163 #[.val (.long x0), .second, .val (.long y0), .second, .val (.long z0), .second, .val (.long w0), .second, .val (.long c1), .second, .val (.long n1), .second, .val (.long c2), .second, .val (.long n2), .second, .val (.ref b7), .val (.ref b11), .val (.ref b15), .val (.int (own_rh c1 n1)), .val (.int (own_rh c1 n1)), .val (.int (own_rh c2 n2)), .val (.int (1 : Int32)), .val (.int (1 : Int32)), .val (.int (1 : Int32))] []))
      refine own_fs (XS.iload X35.here hx rfl (hb hby at_163) rfl (Steps.refl _)) ?_
      show own_G p.tables e below _ (T35.setTop (mkF m 165 #[.val (.long x0), .second, .val (.long y0), .second, .val (.long z0), .second, .val (.long w0), .second, .val (.long c1), .second, .val (.long n1), .second, .val (.long c2), .second, .val (.long n2), .second, .val (.ref b7), .val (.ref b11), .val (.ref b15), .val (.int (own_rh c1 n1)), .val (.int (own_rh c1 n1)), .val (.int (own_rh c2 n2)), .val (.int (1 : Int32)), .val (.int (1 : Int32)), .val (.int (1 : Int32))] [(.int (own_rh c1 n1))]))
      refine own_fs (XS.iload X35.here hx rfl (hb hby at_165) rfl (Steps.refl _)) ?_
      show own_G p.tables e below _ (T35.setTop (mkF m 167 #[.val (.long x0), .second, .val (.long y0), .second, .val (.long z0), .second, .val (.long w0), .second, .val (.long c1), .second, .val (.long n1), .second, .val (.long c2), .second, .val (.long n2), .second, .val (.ref b7), .val (.ref b11), .val (.ref b15), .val (.int (own_rh c1 n1)), .val (.int (own_rh c1 n1)), .val (.int (own_rh c2 n2)), .val (.int (1 : Int32)), .val (.int (1 : Int32)), .val (.int (1 : Int32))] [(.int (own_rh c2 n2)), (.int (own_rh c1 n1))]))
      refine own_fs (XS.icmpNo X35.here hx rfl (hb hby at_167) rfl (XT.ii_ne_f (show own_rh c1 n1 = own_rh c2 n2 by rw [cc, nn])) (Steps.refl _)) ?_
      show own_G p.tables e below _ (T35.setTop (mkF m 170 #[.val (.long x0), .second, .val (.long y0), .second, .val (.long z0), .second, .val (.long w0), .second, .val (.long c1), .second, .val (.long n1), .second, .val (.long c2), .second, .val (.long n2), .second, .val (.ref b7), .val (.ref b11), .val (.ref b15), .val (.int (own_rh c1 n1)), .val (.int (own_rh c1 n1)), .val (.int (own_rh c2 n2)), .val (.int (1 : Int32)), .val (.int (1 : Int32)), .val (.int (1 : Int32))] []))
      refine own_fs (XS.iconst X35.here hx rfl (hb hby at_170) (Steps.refl _)) ?_
      show own_G p.tables e below _ (T35.setTop (mkF m 171 #[.val (.long x0), .second, .val (.long y0), .second, .val (.long z0), .second, .val (.long w0), .second, .val (.long c1), .second, .val (.long n1), .second, .val (.long c2), .second, .val (.long n2), .second, .val (.ref b7), .val (.ref b11), .val (.ref b15), .val (.int (own_rh c1 n1)), .val (.int (own_rh c1 n1)), .val (.int (own_rh c2 n2)), .val (.int (1 : Int32)), .val (.int (1 : Int32)), .val (.int (1 : Int32))] [(.int (1 : Int32))]))
      refine own_fs (XS.goto X35.here hx rfl (pc0 := 171) (pc' := 175) rfl (hb hby at_171) (by decide) (by decide) (Steps.refl _)) ?_
      show own_G p.tables e below _ (T35.setTop (mkF m 175 #[.val (.long x0), .second, .val (.long y0), .second, .val (.long z0), .second, .val (.long w0), .second, .val (.long c1), .second, .val (.long n1), .second, .val (.long c2), .second, .val (.long n2), .second, .val (.ref b7), .val (.ref b11), .val (.ref b15), .val (.int (own_rh c1 n1)), .val (.int (own_rh c1 n1)), .val (.int (own_rh c2 n2)), .val (.int (1 : Int32)), .val (.int (1 : Int32)), .val (.int (1 : Int32))] [(.int (1 : Int32))]))
      exact own_retN X35 hx (t := .boolean) Bd.returns hlk (by simp) (hb hby at_175) (by decide) (by decide) e35 ⟨rfl, N35⟩
    · show own_G p.tables e below _ (T26.setTop (mkF m 88 #[.val (.long x0), .second, .val (.long y0), .second, .val (.long z0), .second, .val (.long w0), .second, .val (.long c1), .second, .val (.long n1), .second, .val (.long c2), .second, .val (.long n2), .second, .val (.ref b7), .val (.ref b11), .val (.ref b15), .val (.int (own_rh c1 n1)), .val (.int (own_rh c1 n1)), .val (.int (own_rh c2 n2)), .unset, .unset, .unset] []))
      refine own_fs (XS.lload X26.here hx rfl (hb hby at_88) rfl (Steps.refl _)) ?_
      show own_G p.tables e below _ (T26.setTop (mkF m 90 #[.val (.long x0), .second, .val (.long y0), .second, .val (.long z0), .second, .val (.long w0), .second, .val (.long c1), .second, .val (.long n1), .second, .val (.long c2), .second, .val (.long n2), .second, .val (.ref b7), .val (.ref b11), .val (.ref b15), .val (.int (own_rh c1 n1)), .val (.int (own_rh c1 n1)), .val (.int (own_rh c2 n2)), .unset, .unset, .unset] [(.long c1)]))
      refine own_fs (XS.lload X26.here hx rfl (hb hby at_90) rfl (Steps.refl _)) ?_
      show own_G p.tables e below _ (T26.setTop (mkF m 92 #[.val (.long x0), .second, .val (.long y0), .second, .val (.long z0), .second, .val (.long w0), .second, .val (.long c1), .second, .val (.long n1), .second, .val (.long c2), .second, .val (.long n2), .second, .val (.ref b7), .val (.ref b11), .val (.ref b15), .val (.int (own_rh c1 n1)), .val (.int (own_rh c1 n1)), .val (.int (own_rh c2 n2)), .unset, .unset, .unset] [(.long c2), (.long c1)]))
      refine own_fs (XT.lcmp X26.here hx rfl (hb hby at_92) rfl (Steps.refl _)) ?_
      show own_G p.tables e below _ (T26.setTop (mkF m 93 #[.val (.long x0), .second, .val (.long y0), .second, .val (.long z0), .second, .val (.long w0), .second, .val (.long c1), .second, .val (.long n1), .second, .val (.long c2), .second, .val (.long n2), .second, .val (.ref b7), .val (.ref b11), .val (.ref b15), .val (.int (own_rh c1 n1)), .val (.int (own_rh c1 n1)), .val (.int (own_rh c2 n2)), .unset, .unset, .unset] [(.int (XT.cmpL c1 c2))]))
      refine own_fs (XS.ifNo X26.here hx rfl (hb hby at_93) rfl (XT.ll_ne_f cc) (Steps.refl _)) ?_
      show own_G p.tables e below _ (T26.setTop (mkF m 96 #[.val (.long x0), .second, .val (.long y0), .second, .val (.long z0), .second, .val (.long w0), .second, .val (.long c1), .second, .val (.long n1), .second, .val (.long c2), .second, .val (.long n2), .second, .val (.ref b7), .val (.ref b11), .val (.ref b15), .val (.int (own_rh c1 n1)), .val (.int (own_rh c1 n1)), .val (.int (own_rh c2 n2)), .unset, .unset, .unset] []))
      refine own_fs (XS.lload X26.here hx rfl (hb hby at_96) rfl (Steps.refl _)) ?_
      show own_G p.tables e below _ (T26.setTop (mkF m 98 #[.val (.long x0), .second, .val (.long y0), .second, .val (.long z0), .second, .val (.long w0), .second, .val (.long c1), .second, .val (.long n1), .second, .val (.long c2), .second, .val (.long n2), .second, .val (.ref b7), .val (.ref b11), .val (.ref b15), .val (.int (own_rh c1 n1)), .val (.int (own_rh c1 n1)), .val (.int (own_rh c2 n2)), .unset, .unset, .unset] [(.long n1)]))
      refine own_fs (XS.lload X26.here hx rfl (hb hby at_98) rfl (Steps.refl _)) ?_
      show own_G p.tables e below _ (T26.setTop (mkF m 100 #[.val (.long x0), .second, .val (.long y0), .second, .val (.long z0), .second, .val (.long w0), .second, .val (.long c1), .second, .val (.long n1), .second, .val (.long c2), .second, .val (.long n2), .second, .val (.ref b7), .val (.ref b11), .val (.ref b15), .val (.int (own_rh c1 n1)), .val (.int (own_rh c1 n1)), .val (.int (own_rh c2 n2)), .unset, .unset, .unset] [(.long n2), (.long n1)]))
      refine own_fs (XT.lcmp X26.here hx rfl (hb hby at_100) rfl (Steps.refl _)) ?_
      show own_G p.tables e below _ (T26.setTop (mkF m 101 #[.val (.long x0), .second, .val (.long y0), .second, .val (.long z0), .second, .val (.long w0), .second, .val (.long c1), .second, .val (.long n1), .second, .val (.long c2), .second, .val (.long n2), .second, .val (.ref b7), .val (.ref b11), .val (.ref b15), .val (.int (own_rh c1 n1)), .val (.int (own_rh c1 n1)), .val (.int (own_rh c2 n2)), .unset, .unset, .unset] [(.int (XT.cmpL n1 n2))]))
      refine own_fs (XS.ifYes X26.here hx rfl (pc0 := 101) (pc' := 108) rfl (hb hby at_101) rfl (XT.ll_ne_t nn) (by decide) (by decide) (Steps.refl _)) ?_
      show own_G p.tables e below _ (T26.setTop (mkF m 108 #[.val (.long x0), .second, .val (.long y0), .second, .val (.long z0), .second, .val (.long w0), .second, .val (.long c1), .second, .val (.long n1), .second, .val (.long c2), .second, .val (.long n2), .second, .val (.ref b7), .val (.ref b11), .val (.ref b15), .val (.int (own_rh c1 n1)), .val (.int (own_rh c1 n1)), .val (.int (own_rh c2 n2)), .unset, .unset, .unset] []))
      refine own_fs (XS.iconst X26.here hx rfl (hb hby at_108) (Steps.refl _)) ?_
      show own_G p.tables e below _ (T26.setTop (mkF m 109 #[.val (.long x0), .second, .val (.long y0), .second, .val (.long z0), .second, .val (.long w0), .second, .val (.long c1), .second, .val (.long n1), .second, .val (.long c2), .second, .val (.long n2), .second, .val (.ref b7), .val (.ref b11), .val (.ref b15), .val (.int (own_rh c1 n1)), .val (.int (own_rh c1 n1)), .val (.int (own_rh c2 n2)), .unset, .unset, .unset] [(.int (0 : Int32))]))
      refine own_fs (XS.istore X26.here hx rfl (hb hby at_109) rfl (l' := #[.val (.long x0), .second, .val (.long y0), .second, .val (.long z0), .second, .val (.long w0), .second, .val (.long c1), .second, .val (.long n1), .second, .val (.long c2), .second, .val (.long n2), .second, .val (.ref b7), .val (.ref b11), .val (.ref b15), .val (.int (own_rh c1 n1)), .val (.int (own_rh c1 n1)), .val (.int (own_rh c2 n2)), .val (.int (0 : Int32)), .unset, .unset]) rfl (Steps.refl _)) ?_
      show own_G p.tables e below _ (T26.setTop (mkF m 111 #[.val (.long x0), .second, .val (.long y0), .second, .val (.long z0), .second, .val (.long w0), .second, .val (.long c1), .second, .val (.long n1), .second, .val (.long c2), .second, .val (.long n2), .second, .val (.ref b7), .val (.ref b11), .val (.ref b15), .val (.int (own_rh c1 n1)), .val (.int (own_rh c1 n1)), .val (.int (own_rh c2 n2)), .val (.int (0 : Int32)), .unset, .unset] []))
      refine own_fs (XS.aload X26.here hx rfl (hb hby at_111) rfl rfl (Steps.refl _)) ?_
      show own_G p.tables e below _ (T26.setTop (mkF m 113 #[.val (.long x0), .second, .val (.long y0), .second, .val (.long z0), .second, .val (.long w0), .second, .val (.long c1), .second, .val (.long n1), .second, .val (.long c2), .second, .val (.long n2), .second, .val (.ref b7), .val (.ref b11), .val (.ref b15), .val (.int (own_rh c1 n1)), .val (.int (own_rh c1 n1)), .val (.int (own_rh c2 n2)), .val (.int (0 : Int32)), .unset, .unset] [(.ref b7)]))
      refine own_fs (XS.aload X26.here hx rfl (hb hby at_113) rfl rfl (Steps.refl _)) ?_
      show own_G p.tables e below _ (T26.setTop (mkF m 115 #[.val (.long x0), .second, .val (.long y0), .second, .val (.long z0), .second, .val (.long w0), .second, .val (.long c1), .second, .val (.long n1), .second, .val (.long c2), .second, .val (.long n2), .second, .val (.ref b7), .val (.ref b11), .val (.ref b15), .val (.int (own_rh c1 n1)), .val (.int (own_rh c1 n1)), .val (.int (own_rh c2 n2)), .val (.int (0 : Int32)), .unset, .unset] [(.ref b11), (.ref b7)]))
      have Zs39 : n0 ≤ h17.size := (Nat.le_trans (Nat.le_trans (Nat.le_trans (Nat.le_trans (Nat.le_trans (Nat.le_trans Z0 E7.1) K9.1) E11.1) K13.1) E15.1) K17.1)
      obtain ⟨cq38, kq38, q38a, q38b, q38c⟩ := isOf hZ e26 ((Exa.ext E15 ((Exa.ext E11 (A7.keep K9)).keep K13)).keep K17)
      obtain ⟨_, _, ⟨T38, L38, k38, n38⟩, -, X38, ⟨Lc38, hQ38, l38, y38, z38⟩, st38⟩ := X26.virtualBack hx (y := (⟨"com/example/dibs/dibs/namespace/RequestId", "equals", "(Ljava/lang/Object;)Z"⟩ : MethodName)) (z := (⟨"com/example/dibs/dibs/namespace/RequestId", "equals", "(Ljava/lang/Object;)Z"⟩ : MethodName)) hown (mvT hZ (hw _ (List.mem_of_getElem? (i := 27) rfl))) (mvT hZ (hw _ (List.mem_of_getElem? (i := 28) rfl))) (notFace_of_selects (args := #[]) (mvT hZ (hw _ (List.mem_of_getElem? (i := 30) rfl)))) (mvT hZ (hw _ (List.mem_of_getElem? (i := 30) rfl))) (mvT hZ (hw _ (List.mem_of_getElem? (i := 29) rfl))) (by decide) (backOf (W := 0) (own_equals l Z a0 hw [] b7 b11 c1 n1 c1 n1 h17 n0 Zs39 ((Fld.ext E15 ((Fld.ext E11 P8_0).keep K13 (ninS (Nat.ne_of_lt (Nat.lt_of_lt_of_le (A7.keep K9).lt (Nat.le_of_eq g11.symm))) nin0))).keep K17 (ninS (Nat.ne_of_lt (Nat.lt_of_lt_of_le ((Exa.ext E11 (A7.keep K9)).keep K13).lt (Nat.le_of_eq g15.symm))) nin0)) ((Fld.ext E15 ((Fld.ext E11 P8_1).keep K13 (ninS (Nat.ne_of_lt (Nat.lt_of_lt_of_le (A7.keep K9).lt (Nat.le_of_eq g11.symm))) nin0))).keep K17 (ninS (Nat.ne_of_lt (Nat.lt_of_lt_of_le ((Exa.ext E11 (A7.keep K9)).keep K13).lt (Nat.le_of_eq g15.symm))) nin0)) ((Fld.ext E15 P12_0).keep K17 (ninS (Nat.ne_of_lt (Nat.lt_of_lt_of_le (A11.keep K13).lt (Nat.le_of_eq g15.symm))) nin0)) ((Fld.ext E15 P12_1).keep K17 (ninS (Nat.ne_of_lt (Nat.lt_of_lt_of_le (A11.keep K13).lt (Nat.le_of_eq g15.symm))) nin0)) ((Exa.ext E15 (A11.keep K13)).keep K17)) hZ (hw _ (List.mem_of_getElem? (i := 31) rfl)) (hw _ (List.mem_of_getElem? (i := 7) rfl)) (by decide) (by decide)) q38a q38c (g := (mkF m 115 #[.val (.long x0), .second, .val (.long y0), .second, .val (.long z0), .second, .val (.long w0), .second, .val (.long c1), .second, .val (.long n1), .second, .val (.long c2), .second, .val (.long n2), .second, .val (.ref b7), .val (.ref b11), .val (.ref b15), .val (.int (own_rh c1 n1)), .val (.int (own_rh c1 n1)), .val (.int (own_rh c2 n2)), .val (.int (0 : Int32)), .unset, .unset] [(.ref b11), (.ref b7)])) rfl (by rw [hml]; rfl) (Steps.refl _) (argsL := [(.ref b11)]) (rest := []) (lenOf own_pd4 rfl) rfl (by show 2 * 0 + _ ≤ _; exact Nat.le_of_eq rfl) (hb hby at_115) (fun _ _ => ⟨rfl, e26, (by decide : 3 + 0 ≤ _), (by decide : 6 + 0 ≤ _)⟩)
      dsimp only [Pt.U, Pt.locs, Pt.cells, Pt.slots] at X38 l38 y38 z38 st38 hQ38
      subst l38 y38 z38
      obtain ⟨rfl, Nq38, e38⟩ := hQ38
      have N38 := Fr.app N26 Nq38
      refine own_fs st38 ?_
      show own_G p.tables e below _ (T38.setTop (mkF m 118 #[.val (.long x0), .second, .val (.long y0), .second, .val (.long z0), .second, .val (.long w0), .second, .val (.long c1), .second, .val (.long n1), .second, .val (.long c2), .second, .val (.long n2), .second, .val (.ref b7), .val (.ref b11), .val (.ref b15), .val (.int (own_rh c1 n1)), .val (.int (own_rh c1 n1)), .val (.int (own_rh c2 n2)), .val (.int (0 : Int32)), .unset, .unset] [(.int (own_eq c1 n1 c1 n1))]))
      refine own_fs (XS.istore X38.here hx rfl (hb hby at_118) rfl (l' := #[.val (.long x0), .second, .val (.long y0), .second, .val (.long z0), .second, .val (.long w0), .second, .val (.long c1), .second, .val (.long n1), .second, .val (.long c2), .second, .val (.long n2), .second, .val (.ref b7), .val (.ref b11), .val (.ref b15), .val (.int (own_rh c1 n1)), .val (.int (own_rh c1 n1)), .val (.int (own_rh c2 n2)), .val (.int (0 : Int32)), .val (.int (own_eq c1 n1 c1 n1)), .unset]) rfl (Steps.refl _)) ?_
      show own_G p.tables e below _ (T38.setTop (mkF m 120 #[.val (.long x0), .second, .val (.long y0), .second, .val (.long z0), .second, .val (.long w0), .second, .val (.long c1), .second, .val (.long n1), .second, .val (.long c2), .second, .val (.long n2), .second, .val (.ref b7), .val (.ref b11), .val (.ref b15), .val (.int (own_rh c1 n1)), .val (.int (own_rh c1 n1)), .val (.int (own_rh c2 n2)), .val (.int (0 : Int32)), .val (.int (own_eq c1 n1 c1 n1)), .unset] []))
      refine own_fs (XS.aload X38.here hx rfl (hb hby at_120) rfl rfl (Steps.refl _)) ?_
      show own_G p.tables e below _ (T38.setTop (mkF m 122 #[.val (.long x0), .second, .val (.long y0), .second, .val (.long z0), .second, .val (.long w0), .second, .val (.long c1), .second, .val (.long n1), .second, .val (.long c2), .second, .val (.long n2), .second, .val (.ref b7), .val (.ref b11), .val (.ref b15), .val (.int (own_rh c1 n1)), .val (.int (own_rh c1 n1)), .val (.int (own_rh c2 n2)), .val (.int (0 : Int32)), .val (.int (own_eq c1 n1 c1 n1)), .unset] [(.ref b7)]))
      refine own_fs (XS.aload X38.here hx rfl (hb hby at_122) rfl rfl (Steps.refl _)) ?_
      show own_G p.tables e below _ (T38.setTop (mkF m 124 #[.val (.long x0), .second, .val (.long y0), .second, .val (.long z0), .second, .val (.long w0), .second, .val (.long c1), .second, .val (.long n1), .second, .val (.long c2), .second, .val (.long n2), .second, .val (.ref b7), .val (.ref b11), .val (.ref b15), .val (.int (own_rh c1 n1)), .val (.int (own_rh c1 n1)), .val (.int (own_rh c2 n2)), .val (.int (0 : Int32)), .val (.int (own_eq c1 n1 c1 n1)), .unset] [(.ref b15), (.ref b7)]))
      have Zs42 : n0 ≤ h17.size := (Nat.le_trans (Nat.le_trans (Nat.le_trans (Nat.le_trans (Nat.le_trans (Nat.le_trans Z0 E7.1) K9.1) E11.1) K13.1) E15.1) K17.1)
      obtain ⟨cq41, kq41, q41a, q41b, q41c⟩ := isOf hZ e38 ((Exa.ext E15 ((Exa.ext E11 (A7.keep K9)).keep K13)).keep K17)
      obtain ⟨_, _, ⟨T41, L41, k41, n41⟩, -, X41, ⟨Lc41, hQ41, l41, y41, z41⟩, st41⟩ := X38.virtualBack hx (y := (⟨"com/example/dibs/dibs/namespace/RequestId", "equals", "(Ljava/lang/Object;)Z"⟩ : MethodName)) (z := (⟨"com/example/dibs/dibs/namespace/RequestId", "equals", "(Ljava/lang/Object;)Z"⟩ : MethodName)) hown (mvT hZ (hw _ (List.mem_of_getElem? (i := 27) rfl))) (mvT hZ (hw _ (List.mem_of_getElem? (i := 28) rfl))) (notFace_of_selects (args := #[]) (mvT hZ (hw _ (List.mem_of_getElem? (i := 30) rfl)))) (mvT hZ (hw _ (List.mem_of_getElem? (i := 30) rfl))) (mvT hZ (hw _ (List.mem_of_getElem? (i := 29) rfl))) (by decide) (backOf (W := 0) (own_equals l Z a0 hw [] b7 b15 c1 n1 c2 n2 h17 n0 Zs42 ((Fld.ext E15 ((Fld.ext E11 P8_0).keep K13 (ninS (Nat.ne_of_lt (Nat.lt_of_lt_of_le (A7.keep K9).lt (Nat.le_of_eq g11.symm))) nin0))).keep K17 (ninS (Nat.ne_of_lt (Nat.lt_of_lt_of_le ((Exa.ext E11 (A7.keep K9)).keep K13).lt (Nat.le_of_eq g15.symm))) nin0)) ((Fld.ext E15 ((Fld.ext E11 P8_1).keep K13 (ninS (Nat.ne_of_lt (Nat.lt_of_lt_of_le (A7.keep K9).lt (Nat.le_of_eq g11.symm))) nin0))).keep K17 (ninS (Nat.ne_of_lt (Nat.lt_of_lt_of_le ((Exa.ext E11 (A7.keep K9)).keep K13).lt (Nat.le_of_eq g15.symm))) nin0)) P16_0 P16_1 (A15.keep K17)) hZ (hw _ (List.mem_of_getElem? (i := 31) rfl)) (hw _ (List.mem_of_getElem? (i := 7) rfl)) (by decide) (by decide)) q41a q41c (g := (mkF m 124 #[.val (.long x0), .second, .val (.long y0), .second, .val (.long z0), .second, .val (.long w0), .second, .val (.long c1), .second, .val (.long n1), .second, .val (.long c2), .second, .val (.long n2), .second, .val (.ref b7), .val (.ref b11), .val (.ref b15), .val (.int (own_rh c1 n1)), .val (.int (own_rh c1 n1)), .val (.int (own_rh c2 n2)), .val (.int (0 : Int32)), .val (.int (own_eq c1 n1 c1 n1)), .unset] [(.ref b15), (.ref b7)])) rfl (by rw [hml]; rfl) (Steps.refl _) (argsL := [(.ref b15)]) (rest := []) (lenOf own_pd4 rfl) rfl (by show 2 * 0 + _ ≤ _; exact Nat.le_of_eq rfl) (hb hby at_124) (fun _ _ => ⟨rfl, e38, (by decide : 3 + 0 ≤ _), (by decide : 6 + 0 ≤ _)⟩)
      dsimp only [Pt.U, Pt.locs, Pt.cells, Pt.slots] at X41 l41 y41 z41 st41 hQ41
      subst l41 y41 z41
      obtain ⟨rfl, Nq41, e41⟩ := hQ41
      have N41 := Fr.app N38 Nq41
      refine own_fs st41 ?_
      show own_G p.tables e below _ (T41.setTop (mkF m 127 #[.val (.long x0), .second, .val (.long y0), .second, .val (.long z0), .second, .val (.long w0), .second, .val (.long c1), .second, .val (.long n1), .second, .val (.long c2), .second, .val (.long n2), .second, .val (.ref b7), .val (.ref b11), .val (.ref b15), .val (.int (own_rh c1 n1)), .val (.int (own_rh c1 n1)), .val (.int (own_rh c2 n2)), .val (.int (0 : Int32)), .val (.int (own_eq c1 n1 c1 n1)), .unset] [(.int (own_eq c1 n1 c2 n2))]))
      refine own_fs (XS.istore X41.here hx rfl (hb hby at_127) rfl (l' := #[.val (.long x0), .second, .val (.long y0), .second, .val (.long z0), .second, .val (.long w0), .second, .val (.long c1), .second, .val (.long n1), .second, .val (.long c2), .second, .val (.long n2), .second, .val (.ref b7), .val (.ref b11), .val (.ref b15), .val (.int (own_rh c1 n1)), .val (.int (own_rh c1 n1)), .val (.int (own_rh c2 n2)), .val (.int (0 : Int32)), .val (.int (own_eq c1 n1 c1 n1)), .val (.int (own_eq c1 n1 c2 n2))]) rfl (Steps.refl _)) ?_
      show own_G p.tables e below _ (T41.setTop (mkF m 129 #[.val (.long x0), .second, .val (.long y0), .second, .val (.long z0), .second, .val (.long w0), .second, .val (.long c1), .second, .val (.long n1), .second, .val (.long c2), .second, .val (.long n2), .second, .val (.ref b7), .val (.ref b11), .val (.ref b15), .val (.int (own_rh c1 n1)), .val (.int (own_rh c1 n1)), .val (.int (own_rh c2 n2)), .val (.int (0 : Int32)), .val (.int (own_eq c1 n1 c1 n1)), .val (.int (own_eq c1 n1 c2 n2))] []))
      rw [show own_eq c1 n1 c1 n1 = (1 : Int32) from by simp only [own_eq, ↓reduceIte]]
      rw [show own_eq c1 n1 c2 n2 = (0 : Int32) from by simp only [own_eq, cc', nn', ↓reduceIte]]
      show own_G p.tables e below _ (T41.setTop (mkF m 129 #[.val (.long x0), .second, .val (.long y0), .second, .val (.long z0), .second, .val (.long w0), .second, .val (.long c1), .second, .val (.long n1), .second, .val (.long c2), .second, .val (.long n2), .second, .val (.ref b7), .val (.ref b11), .val (.ref b15), .val (.int (own_rh c1 n1)), .val (.int (own_rh c1 n1)), .val (.int (own_rh c2 n2)), .val (.int (0 : Int32)), .val (.int (1 : Int32)), .val (.int (0 : Int32))] []))
      refine own_fs (XS.iload X41.here hx rfl (hb hby at_129) rfl (Steps.refl _)) ?_
      show own_G p.tables e below _ (T41.setTop (mkF m 131 #[.val (.long x0), .second, .val (.long y0), .second, .val (.long z0), .second, .val (.long w0), .second, .val (.long c1), .second, .val (.long n1), .second, .val (.long c2), .second, .val (.long n2), .second, .val (.ref b7), .val (.ref b11), .val (.ref b15), .val (.int (own_rh c1 n1)), .val (.int (own_rh c1 n1)), .val (.int (own_rh c2 n2)), .val (.int (0 : Int32)), .val (.int (1 : Int32)), .val (.int (0 : Int32))] [(.int (1 : Int32))]))
      refine own_fs (XS.ifNo X41.here hx rfl (hb hby at_131) rfl (XT.i0_eq_f (by decide : ¬ ((1 : Int32) = (0 : Int32)))) (Steps.refl _)) ?_
      show own_G p.tables e below _ (T41.setTop (mkF m 134 #[.val (.long x0), .second, .val (.long y0), .second, .val (.long z0), .second, .val (.long w0), .second, .val (.long c1), .second, .val (.long n1), .second, .val (.long c2), .second, .val (.long n2), .second, .val (.ref b7), .val (.ref b11), .val (.ref b15), .val (.int (own_rh c1 n1)), .val (.int (own_rh c1 n1)), .val (.int (own_rh c2 n2)), .val (.int (0 : Int32)), .val (.int (1 : Int32)), .val (.int (0 : Int32))] []))
      refine own_fs (XS.iload X41.here hx rfl (hb hby at_134) rfl (Steps.refl _)) ?_
      show own_G p.tables e below _ (T41.setTop (mkF m 136 #[.val (.long x0), .second, .val (.long y0), .second, .val (.long z0), .second, .val (.long w0), .second, .val (.long c1), .second, .val (.long n1), .second, .val (.long c2), .second, .val (.long n2), .second, .val (.ref b7), .val (.ref b11), .val (.ref b15), .val (.int (own_rh c1 n1)), .val (.int (own_rh c1 n1)), .val (.int (own_rh c2 n2)), .val (.int (0 : Int32)), .val (.int (1 : Int32)), .val (.int (0 : Int32))] [(.int (own_rh c1 n1))]))
      refine own_fs (XS.iload X41.here hx rfl (hb hby at_136) rfl (Steps.refl _)) ?_
      show own_G p.tables e below _ (T41.setTop (mkF m 138 #[.val (.long x0), .second, .val (.long y0), .second, .val (.long z0), .second, .val (.long w0), .second, .val (.long c1), .second, .val (.long n1), .second, .val (.long c2), .second, .val (.long n2), .second, .val (.ref b7), .val (.ref b11), .val (.ref b15), .val (.int (own_rh c1 n1)), .val (.int (own_rh c1 n1)), .val (.int (own_rh c2 n2)), .val (.int (0 : Int32)), .val (.int (1 : Int32)), .val (.int (0 : Int32))] [(.int (own_rh c1 n1)), (.int (own_rh c1 n1))]))
      refine own_fs (XS.icmpNo X41.here hx rfl (hb hby at_138) rfl (XT.ii_ne_f (rfl : (own_rh c1 n1) = (own_rh c1 n1))) (Steps.refl _)) ?_
      show own_G p.tables e below _ (T41.setTop (mkF m 141 #[.val (.long x0), .second, .val (.long y0), .second, .val (.long z0), .second, .val (.long w0), .second, .val (.long c1), .second, .val (.long n1), .second, .val (.long c2), .second, .val (.long n2), .second, .val (.ref b7), .val (.ref b11), .val (.ref b15), .val (.int (own_rh c1 n1)), .val (.int (own_rh c1 n1)), .val (.int (own_rh c2 n2)), .val (.int (0 : Int32)), .val (.int (1 : Int32)), .val (.int (0 : Int32))] []))
      refine own_fs (XS.iload X41.here hx rfl (hb hby at_141) rfl (Steps.refl _)) ?_
      show own_G p.tables e below _ (T41.setTop (mkF m 143 #[.val (.long x0), .second, .val (.long y0), .second, .val (.long z0), .second, .val (.long w0), .second, .val (.long c1), .second, .val (.long n1), .second, .val (.long c2), .second, .val (.long n2), .second, .val (.ref b7), .val (.ref b11), .val (.ref b15), .val (.int (own_rh c1 n1)), .val (.int (own_rh c1 n1)), .val (.int (own_rh c2 n2)), .val (.int (0 : Int32)), .val (.int (1 : Int32)), .val (.int (0 : Int32))] [(.int (own_rh c1 n1))]))
      refine own_fs (XS.aload X41.here hx rfl (hb hby at_143) rfl rfl (Steps.refl _)) ?_
      show own_G p.tables e below _ (T41.setTop (mkF m 145 #[.val (.long x0), .second, .val (.long y0), .second, .val (.long z0), .second, .val (.long w0), .second, .val (.long c1), .second, .val (.long n1), .second, .val (.long c2), .second, .val (.long n2), .second, .val (.ref b7), .val (.ref b11), .val (.ref b15), .val (.int (own_rh c1 n1)), .val (.int (own_rh c1 n1)), .val (.int (own_rh c2 n2)), .val (.int (0 : Int32)), .val (.int (1 : Int32)), .val (.int (0 : Int32))] [(.ref b7), (.int (own_rh c1 n1))]))
      have Zs45 : n0 ≤ h17.size := (Nat.le_trans (Nat.le_trans (Nat.le_trans (Nat.le_trans (Nat.le_trans (Nat.le_trans Z0 E7.1) K9.1) E11.1) K13.1) E15.1) K17.1)
      obtain ⟨cq44, kq44, q44a, q44b, q44c⟩ := isOf hZ e41 ((Exa.ext E15 ((Exa.ext E11 (A7.keep K9)).keep K13)).keep K17)
      obtain ⟨_, _, ⟨T44, L44, k44, n44⟩, -, X44, ⟨Lc44, hQ44, l44, y44, z44⟩, st44⟩ := X41.virtualBack hx (y := (⟨"com/example/dibs/dibs/namespace/RequestId", "hashCode", "()I"⟩ : MethodName)) (z := (⟨"com/example/dibs/dibs/namespace/RequestId", "hashCode", "()I"⟩ : MethodName)) hown (mvT hZ (hw _ (List.mem_of_getElem? (i := 18) rfl))) (mvT hZ (hw _ (List.mem_of_getElem? (i := 19) rfl))) (notFace_of_selects (args := #[]) (mvT hZ (hw _ (List.mem_of_getElem? (i := 21) rfl)))) (mvT hZ (hw _ (List.mem_of_getElem? (i := 21) rfl))) (mvT hZ (hw _ (List.mem_of_getElem? (i := 20) rfl))) (by decide) (backOf (W := 1) (own_reqhash l Z a0 hw [] b7 c1 n1 h17 n0 Zs45 ((Fld.ext E15 ((Fld.ext E11 P8_0).keep K13 (ninS (Nat.ne_of_lt (Nat.lt_of_lt_of_le (A7.keep K9).lt (Nat.le_of_eq g11.symm))) nin0))).keep K17 (ninS (Nat.ne_of_lt (Nat.lt_of_lt_of_le ((Exa.ext E11 (A7.keep K9)).keep K13).lt (Nat.le_of_eq g15.symm))) nin0)) ((Fld.ext E15 ((Fld.ext E11 P8_1).keep K13 (ninS (Nat.ne_of_lt (Nat.lt_of_lt_of_le (A7.keep K9).lt (Nat.le_of_eq g11.symm))) nin0))).keep K17 (ninS (Nat.ne_of_lt (Nat.lt_of_lt_of_le ((Exa.ext E11 (A7.keep K9)).keep K13).lt (Nat.le_of_eq g15.symm))) nin0))) hZ (hw _ (List.mem_of_getElem? (i := 22) rfl)) (hw _ (List.mem_of_getElem? (i := 7) rfl)) (by decide) (by decide)) q44a q44c (g := (mkF m 145 #[.val (.long x0), .second, .val (.long y0), .second, .val (.long z0), .second, .val (.long w0), .second, .val (.long c1), .second, .val (.long n1), .second, .val (.long c2), .second, .val (.long n2), .second, .val (.ref b7), .val (.ref b11), .val (.ref b15), .val (.int (own_rh c1 n1)), .val (.int (own_rh c1 n1)), .val (.int (own_rh c2 n2)), .val (.int (0 : Int32)), .val (.int (1 : Int32)), .val (.int (0 : Int32))] [(.ref b7), (.int (own_rh c1 n1))])) rfl (by rw [hml]; rfl) (Steps.refl _) (argsL := []) (rest := [(.int (own_rh c1 n1))]) (lenOf own_pd3 rfl) rfl (by show 2 * 0 + _ ≤ _; exact Nat.le_of_eq rfl) (hb hby at_145) (fun _ _ => ⟨rfl, e41, (by decide : 3 + 0 ≤ _), (by decide : 6 + 0 ≤ _)⟩)
      dsimp only [Pt.U, Pt.locs, Pt.cells, Pt.slots] at X44 l44 y44 z44 st44 hQ44
      subst l44 y44 z44
      obtain ⟨rfl, Nq44, e44⟩ := hQ44
      have N44 := Fr.app N41 Nq44
      refine own_fs st44 ?_
      show own_G p.tables e below _ (T44.setTop (mkF m 148 #[.val (.long x0), .second, .val (.long y0), .second, .val (.long z0), .second, .val (.long w0), .second, .val (.long c1), .second, .val (.long n1), .second, .val (.long c2), .second, .val (.long n2), .second, .val (.ref b7), .val (.ref b11), .val (.ref b15), .val (.int (own_rh c1 n1)), .val (.int (own_rh c1 n1)), .val (.int (own_rh c2 n2)), .val (.int (0 : Int32)), .val (.int (1 : Int32)), .val (.int (0 : Int32))] [(.int (own_rh c1 n1)), (.int (own_rh c1 n1))]))
      refine own_fs (XS.icmpNo X44.here hx rfl (hb hby at_148) rfl (XT.ii_ne_f (rfl : (own_rh c1 n1) = (own_rh c1 n1))) (Steps.refl _)) ?_
      show own_G p.tables e below _ (T44.setTop (mkF m 151 #[.val (.long x0), .second, .val (.long y0), .second, .val (.long z0), .second, .val (.long w0), .second, .val (.long c1), .second, .val (.long n1), .second, .val (.long c2), .second, .val (.long n2), .second, .val (.ref b7), .val (.ref b11), .val (.ref b15), .val (.int (own_rh c1 n1)), .val (.int (own_rh c1 n1)), .val (.int (own_rh c2 n2)), .val (.int (0 : Int32)), .val (.int (1 : Int32)), .val (.int (0 : Int32))] []))
      refine own_fs (XS.iload X44.here hx rfl (hb hby at_151) rfl (Steps.refl _)) ?_
      show own_G p.tables e below _ (T44.setTop (mkF m 153 #[.val (.long x0), .second, .val (.long y0), .second, .val (.long z0), .second, .val (.long w0), .second, .val (.long c1), .second, .val (.long n1), .second, .val (.long c2), .second, .val (.long n2), .second, .val (.ref b7), .val (.ref b11), .val (.ref b15), .val (.int (own_rh c1 n1)), .val (.int (own_rh c1 n1)), .val (.int (own_rh c2 n2)), .val (.int (0 : Int32)), .val (.int (1 : Int32)), .val (.int (0 : Int32))] [(.int (0 : Int32))]))
      refine own_fs (XS.iload X44.here hx rfl (hb hby at_153) rfl (Steps.refl _)) ?_
      show own_G p.tables e below _ (T44.setTop (mkF m 155 #[.val (.long x0), .second, .val (.long y0), .second, .val (.long z0), .second, .val (.long w0), .second, .val (.long c1), .second, .val (.long n1), .second, .val (.long c2), .second, .val (.long n2), .second, .val (.ref b7), .val (.ref b11), .val (.ref b15), .val (.int (own_rh c1 n1)), .val (.int (own_rh c1 n1)), .val (.int (own_rh c2 n2)), .val (.int (0 : Int32)), .val (.int (1 : Int32)), .val (.int (0 : Int32))] [(.int (0 : Int32)), (.int (0 : Int32))]))
      refine own_fs (XS.icmpNo X44.here hx rfl (hb hby at_155) rfl (XT.ii_ne_f (by decide : (0 : Int32) = (0 : Int32))) (Steps.refl _)) ?_
      show own_G p.tables e below _ (T44.setTop (mkF m 158 #[.val (.long x0), .second, .val (.long y0), .second, .val (.long z0), .second, .val (.long w0), .second, .val (.long c1), .second, .val (.long n1), .second, .val (.long c2), .second, .val (.long n2), .second, .val (.ref b7), .val (.ref b11), .val (.ref b15), .val (.int (own_rh c1 n1)), .val (.int (own_rh c1 n1)), .val (.int (own_rh c2 n2)), .val (.int (0 : Int32)), .val (.int (1 : Int32)), .val (.int (0 : Int32))] []))
      refine own_fs (XS.iload X44.here hx rfl (hb hby at_158) rfl (Steps.refl _)) ?_
      show own_G p.tables e below _ (T44.setTop (mkF m 160 #[.val (.long x0), .second, .val (.long y0), .second, .val (.long z0), .second, .val (.long w0), .second, .val (.long c1), .second, .val (.long n1), .second, .val (.long c2), .second, .val (.long n2), .second, .val (.ref b7), .val (.ref b11), .val (.ref b15), .val (.int (own_rh c1 n1)), .val (.int (own_rh c1 n1)), .val (.int (own_rh c2 n2)), .val (.int (0 : Int32)), .val (.int (1 : Int32)), .val (.int (0 : Int32))] [(.int (0 : Int32))]))
      refine own_fs (XS.ifYes X44.here hx rfl (pc0 := 160) (pc' := 170) rfl (hb hby at_160) rfl (XT.i0_eq_t (by decide : (0 : Int32) = (0 : Int32))) (by decide) (by decide) (Steps.refl _)) ?_
      show own_G p.tables e below _ (T44.setTop (mkF m 170 #[.val (.long x0), .second, .val (.long y0), .second, .val (.long z0), .second, .val (.long w0), .second, .val (.long c1), .second, .val (.long n1), .second, .val (.long c2), .second, .val (.long n2), .second, .val (.ref b7), .val (.ref b11), .val (.ref b15), .val (.int (own_rh c1 n1)), .val (.int (own_rh c1 n1)), .val (.int (own_rh c2 n2)), .val (.int (0 : Int32)), .val (.int (1 : Int32)), .val (.int (0 : Int32))] []))
      refine own_fs (XS.iconst X44.here hx rfl (hb hby at_170) (Steps.refl _)) ?_
      show own_G p.tables e below _ (T44.setTop (mkF m 171 #[.val (.long x0), .second, .val (.long y0), .second, .val (.long z0), .second, .val (.long w0), .second, .val (.long c1), .second, .val (.long n1), .second, .val (.long c2), .second, .val (.long n2), .second, .val (.ref b7), .val (.ref b11), .val (.ref b15), .val (.int (own_rh c1 n1)), .val (.int (own_rh c1 n1)), .val (.int (own_rh c2 n2)), .val (.int (0 : Int32)), .val (.int (1 : Int32)), .val (.int (0 : Int32))] [(.int (1 : Int32))]))
      refine own_fs (XS.goto X44.here hx rfl (pc0 := 171) (pc' := 175) rfl (hb hby at_171) (by decide) (by decide) (Steps.refl _)) ?_
      show own_G p.tables e below _ (T44.setTop (mkF m 175 #[.val (.long x0), .second, .val (.long y0), .second, .val (.long z0), .second, .val (.long w0), .second, .val (.long c1), .second, .val (.long n1), .second, .val (.long c2), .second, .val (.long n2), .second, .val (.ref b7), .val (.ref b11), .val (.ref b15), .val (.int (own_rh c1 n1)), .val (.int (own_rh c1 n1)), .val (.int (own_rh c2 n2)), .val (.int (0 : Int32)), .val (.int (1 : Int32)), .val (.int (0 : Int32))] [(.int (1 : Int32))]))
      exact own_retN X44 hx (t := .boolean) Bd.returns hlk (by simp) (hb hby at_175) (by decide) (by decide) e44 ⟨rfl, N44⟩
  · rcases own_dec n1 n2 with ⟨nn, nn'⟩ | ⟨nn, nn'⟩
    · show own_G p.tables e below _ (T26.setTop (mkF m 88 #[.val (.long x0), .second, .val (.long y0), .second, .val (.long z0), .second, .val (.long w0), .second, .val (.long c1), .second, .val (.long n1), .second, .val (.long c2), .second, .val (.long n2), .second, .val (.ref b7), .val (.ref b11), .val (.ref b15), .val (.int (own_rh c1 n1)), .val (.int (own_rh c1 n1)), .val (.int (own_rh c2 n2)), .unset, .unset, .unset] []))
      refine own_fs (XS.lload X26.here hx rfl (hb hby at_88) rfl (Steps.refl _)) ?_
      show own_G p.tables e below _ (T26.setTop (mkF m 90 #[.val (.long x0), .second, .val (.long y0), .second, .val (.long z0), .second, .val (.long w0), .second, .val (.long c1), .second, .val (.long n1), .second, .val (.long c2), .second, .val (.long n2), .second, .val (.ref b7), .val (.ref b11), .val (.ref b15), .val (.int (own_rh c1 n1)), .val (.int (own_rh c1 n1)), .val (.int (own_rh c2 n2)), .unset, .unset, .unset] [(.long c1)]))
      refine own_fs (XS.lload X26.here hx rfl (hb hby at_90) rfl (Steps.refl _)) ?_
      show own_G p.tables e below _ (T26.setTop (mkF m 92 #[.val (.long x0), .second, .val (.long y0), .second, .val (.long z0), .second, .val (.long w0), .second, .val (.long c1), .second, .val (.long n1), .second, .val (.long c2), .second, .val (.long n2), .second, .val (.ref b7), .val (.ref b11), .val (.ref b15), .val (.int (own_rh c1 n1)), .val (.int (own_rh c1 n1)), .val (.int (own_rh c2 n2)), .unset, .unset, .unset] [(.long c2), (.long c1)]))
      refine own_fs (XT.lcmp X26.here hx rfl (hb hby at_92) rfl (Steps.refl _)) ?_
      show own_G p.tables e below _ (T26.setTop (mkF m 93 #[.val (.long x0), .second, .val (.long y0), .second, .val (.long z0), .second, .val (.long w0), .second, .val (.long c1), .second, .val (.long n1), .second, .val (.long c2), .second, .val (.long n2), .second, .val (.ref b7), .val (.ref b11), .val (.ref b15), .val (.int (own_rh c1 n1)), .val (.int (own_rh c1 n1)), .val (.int (own_rh c2 n2)), .unset, .unset, .unset] [(.int (XT.cmpL c1 c2))]))
      refine own_fs (XS.ifYes X26.here hx rfl (pc0 := 93) (pc' := 108) rfl (hb hby at_93) rfl (XT.ll_ne_t cc) (by decide) (by decide) (Steps.refl _)) ?_
      show own_G p.tables e below _ (T26.setTop (mkF m 108 #[.val (.long x0), .second, .val (.long y0), .second, .val (.long z0), .second, .val (.long w0), .second, .val (.long c1), .second, .val (.long n1), .second, .val (.long c2), .second, .val (.long n2), .second, .val (.ref b7), .val (.ref b11), .val (.ref b15), .val (.int (own_rh c1 n1)), .val (.int (own_rh c1 n1)), .val (.int (own_rh c2 n2)), .unset, .unset, .unset] []))
      refine own_fs (XS.iconst X26.here hx rfl (hb hby at_108) (Steps.refl _)) ?_
      show own_G p.tables e below _ (T26.setTop (mkF m 109 #[.val (.long x0), .second, .val (.long y0), .second, .val (.long z0), .second, .val (.long w0), .second, .val (.long c1), .second, .val (.long n1), .second, .val (.long c2), .second, .val (.long n2), .second, .val (.ref b7), .val (.ref b11), .val (.ref b15), .val (.int (own_rh c1 n1)), .val (.int (own_rh c1 n1)), .val (.int (own_rh c2 n2)), .unset, .unset, .unset] [(.int (0 : Int32))]))
      refine own_fs (XS.istore X26.here hx rfl (hb hby at_109) rfl (l' := #[.val (.long x0), .second, .val (.long y0), .second, .val (.long z0), .second, .val (.long w0), .second, .val (.long c1), .second, .val (.long n1), .second, .val (.long c2), .second, .val (.long n2), .second, .val (.ref b7), .val (.ref b11), .val (.ref b15), .val (.int (own_rh c1 n1)), .val (.int (own_rh c1 n1)), .val (.int (own_rh c2 n2)), .val (.int (0 : Int32)), .unset, .unset]) rfl (Steps.refl _)) ?_
      show own_G p.tables e below _ (T26.setTop (mkF m 111 #[.val (.long x0), .second, .val (.long y0), .second, .val (.long z0), .second, .val (.long w0), .second, .val (.long c1), .second, .val (.long n1), .second, .val (.long c2), .second, .val (.long n2), .second, .val (.ref b7), .val (.ref b11), .val (.ref b15), .val (.int (own_rh c1 n1)), .val (.int (own_rh c1 n1)), .val (.int (own_rh c2 n2)), .val (.int (0 : Int32)), .unset, .unset] []))
      refine own_fs (XS.aload X26.here hx rfl (hb hby at_111) rfl rfl (Steps.refl _)) ?_
      show own_G p.tables e below _ (T26.setTop (mkF m 113 #[.val (.long x0), .second, .val (.long y0), .second, .val (.long z0), .second, .val (.long w0), .second, .val (.long c1), .second, .val (.long n1), .second, .val (.long c2), .second, .val (.long n2), .second, .val (.ref b7), .val (.ref b11), .val (.ref b15), .val (.int (own_rh c1 n1)), .val (.int (own_rh c1 n1)), .val (.int (own_rh c2 n2)), .val (.int (0 : Int32)), .unset, .unset] [(.ref b7)]))
      refine own_fs (XS.aload X26.here hx rfl (hb hby at_113) rfl rfl (Steps.refl _)) ?_
      show own_G p.tables e below _ (T26.setTop (mkF m 115 #[.val (.long x0), .second, .val (.long y0), .second, .val (.long z0), .second, .val (.long w0), .second, .val (.long c1), .second, .val (.long n1), .second, .val (.long c2), .second, .val (.long n2), .second, .val (.ref b7), .val (.ref b11), .val (.ref b15), .val (.int (own_rh c1 n1)), .val (.int (own_rh c1 n1)), .val (.int (own_rh c2 n2)), .val (.int (0 : Int32)), .unset, .unset] [(.ref b11), (.ref b7)]))
      have Zs48 : n0 ≤ h17.size := (Nat.le_trans (Nat.le_trans (Nat.le_trans (Nat.le_trans (Nat.le_trans (Nat.le_trans Z0 E7.1) K9.1) E11.1) K13.1) E15.1) K17.1)
      obtain ⟨cq47, kq47, q47a, q47b, q47c⟩ := isOf hZ e26 ((Exa.ext E15 ((Exa.ext E11 (A7.keep K9)).keep K13)).keep K17)
      obtain ⟨_, _, ⟨T47, L47, k47, n47⟩, -, X47, ⟨Lc47, hQ47, l47, y47, z47⟩, st47⟩ := X26.virtualBack hx (y := (⟨"com/example/dibs/dibs/namespace/RequestId", "equals", "(Ljava/lang/Object;)Z"⟩ : MethodName)) (z := (⟨"com/example/dibs/dibs/namespace/RequestId", "equals", "(Ljava/lang/Object;)Z"⟩ : MethodName)) hown (mvT hZ (hw _ (List.mem_of_getElem? (i := 27) rfl))) (mvT hZ (hw _ (List.mem_of_getElem? (i := 28) rfl))) (notFace_of_selects (args := #[]) (mvT hZ (hw _ (List.mem_of_getElem? (i := 30) rfl)))) (mvT hZ (hw _ (List.mem_of_getElem? (i := 30) rfl))) (mvT hZ (hw _ (List.mem_of_getElem? (i := 29) rfl))) (by decide) (backOf (W := 0) (own_equals l Z a0 hw [] b7 b11 c1 n1 c1 n1 h17 n0 Zs48 ((Fld.ext E15 ((Fld.ext E11 P8_0).keep K13 (ninS (Nat.ne_of_lt (Nat.lt_of_lt_of_le (A7.keep K9).lt (Nat.le_of_eq g11.symm))) nin0))).keep K17 (ninS (Nat.ne_of_lt (Nat.lt_of_lt_of_le ((Exa.ext E11 (A7.keep K9)).keep K13).lt (Nat.le_of_eq g15.symm))) nin0)) ((Fld.ext E15 ((Fld.ext E11 P8_1).keep K13 (ninS (Nat.ne_of_lt (Nat.lt_of_lt_of_le (A7.keep K9).lt (Nat.le_of_eq g11.symm))) nin0))).keep K17 (ninS (Nat.ne_of_lt (Nat.lt_of_lt_of_le ((Exa.ext E11 (A7.keep K9)).keep K13).lt (Nat.le_of_eq g15.symm))) nin0)) ((Fld.ext E15 P12_0).keep K17 (ninS (Nat.ne_of_lt (Nat.lt_of_lt_of_le (A11.keep K13).lt (Nat.le_of_eq g15.symm))) nin0)) ((Fld.ext E15 P12_1).keep K17 (ninS (Nat.ne_of_lt (Nat.lt_of_lt_of_le (A11.keep K13).lt (Nat.le_of_eq g15.symm))) nin0)) ((Exa.ext E15 (A11.keep K13)).keep K17)) hZ (hw _ (List.mem_of_getElem? (i := 31) rfl)) (hw _ (List.mem_of_getElem? (i := 7) rfl)) (by decide) (by decide)) q47a q47c (g := (mkF m 115 #[.val (.long x0), .second, .val (.long y0), .second, .val (.long z0), .second, .val (.long w0), .second, .val (.long c1), .second, .val (.long n1), .second, .val (.long c2), .second, .val (.long n2), .second, .val (.ref b7), .val (.ref b11), .val (.ref b15), .val (.int (own_rh c1 n1)), .val (.int (own_rh c1 n1)), .val (.int (own_rh c2 n2)), .val (.int (0 : Int32)), .unset, .unset] [(.ref b11), (.ref b7)])) rfl (by rw [hml]; rfl) (Steps.refl _) (argsL := [(.ref b11)]) (rest := []) (lenOf own_pd4 rfl) rfl (by show 2 * 0 + _ ≤ _; exact Nat.le_of_eq rfl) (hb hby at_115) (fun _ _ => ⟨rfl, e26, (by decide : 3 + 0 ≤ _), (by decide : 6 + 0 ≤ _)⟩)
      dsimp only [Pt.U, Pt.locs, Pt.cells, Pt.slots] at X47 l47 y47 z47 st47 hQ47
      subst l47 y47 z47
      obtain ⟨rfl, Nq47, e47⟩ := hQ47
      have N47 := Fr.app N26 Nq47
      refine own_fs st47 ?_
      show own_G p.tables e below _ (T47.setTop (mkF m 118 #[.val (.long x0), .second, .val (.long y0), .second, .val (.long z0), .second, .val (.long w0), .second, .val (.long c1), .second, .val (.long n1), .second, .val (.long c2), .second, .val (.long n2), .second, .val (.ref b7), .val (.ref b11), .val (.ref b15), .val (.int (own_rh c1 n1)), .val (.int (own_rh c1 n1)), .val (.int (own_rh c2 n2)), .val (.int (0 : Int32)), .unset, .unset] [(.int (own_eq c1 n1 c1 n1))]))
      refine own_fs (XS.istore X47.here hx rfl (hb hby at_118) rfl (l' := #[.val (.long x0), .second, .val (.long y0), .second, .val (.long z0), .second, .val (.long w0), .second, .val (.long c1), .second, .val (.long n1), .second, .val (.long c2), .second, .val (.long n2), .second, .val (.ref b7), .val (.ref b11), .val (.ref b15), .val (.int (own_rh c1 n1)), .val (.int (own_rh c1 n1)), .val (.int (own_rh c2 n2)), .val (.int (0 : Int32)), .val (.int (own_eq c1 n1 c1 n1)), .unset]) rfl (Steps.refl _)) ?_
      show own_G p.tables e below _ (T47.setTop (mkF m 120 #[.val (.long x0), .second, .val (.long y0), .second, .val (.long z0), .second, .val (.long w0), .second, .val (.long c1), .second, .val (.long n1), .second, .val (.long c2), .second, .val (.long n2), .second, .val (.ref b7), .val (.ref b11), .val (.ref b15), .val (.int (own_rh c1 n1)), .val (.int (own_rh c1 n1)), .val (.int (own_rh c2 n2)), .val (.int (0 : Int32)), .val (.int (own_eq c1 n1 c1 n1)), .unset] []))
      refine own_fs (XS.aload X47.here hx rfl (hb hby at_120) rfl rfl (Steps.refl _)) ?_
      show own_G p.tables e below _ (T47.setTop (mkF m 122 #[.val (.long x0), .second, .val (.long y0), .second, .val (.long z0), .second, .val (.long w0), .second, .val (.long c1), .second, .val (.long n1), .second, .val (.long c2), .second, .val (.long n2), .second, .val (.ref b7), .val (.ref b11), .val (.ref b15), .val (.int (own_rh c1 n1)), .val (.int (own_rh c1 n1)), .val (.int (own_rh c2 n2)), .val (.int (0 : Int32)), .val (.int (own_eq c1 n1 c1 n1)), .unset] [(.ref b7)]))
      refine own_fs (XS.aload X47.here hx rfl (hb hby at_122) rfl rfl (Steps.refl _)) ?_
      show own_G p.tables e below _ (T47.setTop (mkF m 124 #[.val (.long x0), .second, .val (.long y0), .second, .val (.long z0), .second, .val (.long w0), .second, .val (.long c1), .second, .val (.long n1), .second, .val (.long c2), .second, .val (.long n2), .second, .val (.ref b7), .val (.ref b11), .val (.ref b15), .val (.int (own_rh c1 n1)), .val (.int (own_rh c1 n1)), .val (.int (own_rh c2 n2)), .val (.int (0 : Int32)), .val (.int (own_eq c1 n1 c1 n1)), .unset] [(.ref b15), (.ref b7)]))
      have Zs51 : n0 ≤ h17.size := (Nat.le_trans (Nat.le_trans (Nat.le_trans (Nat.le_trans (Nat.le_trans (Nat.le_trans Z0 E7.1) K9.1) E11.1) K13.1) E15.1) K17.1)
      obtain ⟨cq50, kq50, q50a, q50b, q50c⟩ := isOf hZ e47 ((Exa.ext E15 ((Exa.ext E11 (A7.keep K9)).keep K13)).keep K17)
      obtain ⟨_, _, ⟨T50, L50, k50, n50⟩, -, X50, ⟨Lc50, hQ50, l50, y50, z50⟩, st50⟩ := X47.virtualBack hx (y := (⟨"com/example/dibs/dibs/namespace/RequestId", "equals", "(Ljava/lang/Object;)Z"⟩ : MethodName)) (z := (⟨"com/example/dibs/dibs/namespace/RequestId", "equals", "(Ljava/lang/Object;)Z"⟩ : MethodName)) hown (mvT hZ (hw _ (List.mem_of_getElem? (i := 27) rfl))) (mvT hZ (hw _ (List.mem_of_getElem? (i := 28) rfl))) (notFace_of_selects (args := #[]) (mvT hZ (hw _ (List.mem_of_getElem? (i := 30) rfl)))) (mvT hZ (hw _ (List.mem_of_getElem? (i := 30) rfl))) (mvT hZ (hw _ (List.mem_of_getElem? (i := 29) rfl))) (by decide) (backOf (W := 0) (own_equals l Z a0 hw [] b7 b15 c1 n1 c2 n2 h17 n0 Zs51 ((Fld.ext E15 ((Fld.ext E11 P8_0).keep K13 (ninS (Nat.ne_of_lt (Nat.lt_of_lt_of_le (A7.keep K9).lt (Nat.le_of_eq g11.symm))) nin0))).keep K17 (ninS (Nat.ne_of_lt (Nat.lt_of_lt_of_le ((Exa.ext E11 (A7.keep K9)).keep K13).lt (Nat.le_of_eq g15.symm))) nin0)) ((Fld.ext E15 ((Fld.ext E11 P8_1).keep K13 (ninS (Nat.ne_of_lt (Nat.lt_of_lt_of_le (A7.keep K9).lt (Nat.le_of_eq g11.symm))) nin0))).keep K17 (ninS (Nat.ne_of_lt (Nat.lt_of_lt_of_le ((Exa.ext E11 (A7.keep K9)).keep K13).lt (Nat.le_of_eq g15.symm))) nin0)) P16_0 P16_1 (A15.keep K17)) hZ (hw _ (List.mem_of_getElem? (i := 31) rfl)) (hw _ (List.mem_of_getElem? (i := 7) rfl)) (by decide) (by decide)) q50a q50c (g := (mkF m 124 #[.val (.long x0), .second, .val (.long y0), .second, .val (.long z0), .second, .val (.long w0), .second, .val (.long c1), .second, .val (.long n1), .second, .val (.long c2), .second, .val (.long n2), .second, .val (.ref b7), .val (.ref b11), .val (.ref b15), .val (.int (own_rh c1 n1)), .val (.int (own_rh c1 n1)), .val (.int (own_rh c2 n2)), .val (.int (0 : Int32)), .val (.int (own_eq c1 n1 c1 n1)), .unset] [(.ref b15), (.ref b7)])) rfl (by rw [hml]; rfl) (Steps.refl _) (argsL := [(.ref b15)]) (rest := []) (lenOf own_pd4 rfl) rfl (by show 2 * 0 + _ ≤ _; exact Nat.le_of_eq rfl) (hb hby at_124) (fun _ _ => ⟨rfl, e47, (by decide : 3 + 0 ≤ _), (by decide : 6 + 0 ≤ _)⟩)
      dsimp only [Pt.U, Pt.locs, Pt.cells, Pt.slots] at X50 l50 y50 z50 st50 hQ50
      subst l50 y50 z50
      obtain ⟨rfl, Nq50, e50⟩ := hQ50
      have N50 := Fr.app N47 Nq50
      refine own_fs st50 ?_
      show own_G p.tables e below _ (T50.setTop (mkF m 127 #[.val (.long x0), .second, .val (.long y0), .second, .val (.long z0), .second, .val (.long w0), .second, .val (.long c1), .second, .val (.long n1), .second, .val (.long c2), .second, .val (.long n2), .second, .val (.ref b7), .val (.ref b11), .val (.ref b15), .val (.int (own_rh c1 n1)), .val (.int (own_rh c1 n1)), .val (.int (own_rh c2 n2)), .val (.int (0 : Int32)), .val (.int (own_eq c1 n1 c1 n1)), .unset] [(.int (own_eq c1 n1 c2 n2))]))
      refine own_fs (XS.istore X50.here hx rfl (hb hby at_127) rfl (l' := #[.val (.long x0), .second, .val (.long y0), .second, .val (.long z0), .second, .val (.long w0), .second, .val (.long c1), .second, .val (.long n1), .second, .val (.long c2), .second, .val (.long n2), .second, .val (.ref b7), .val (.ref b11), .val (.ref b15), .val (.int (own_rh c1 n1)), .val (.int (own_rh c1 n1)), .val (.int (own_rh c2 n2)), .val (.int (0 : Int32)), .val (.int (own_eq c1 n1 c1 n1)), .val (.int (own_eq c1 n1 c2 n2))]) rfl (Steps.refl _)) ?_
      show own_G p.tables e below _ (T50.setTop (mkF m 129 #[.val (.long x0), .second, .val (.long y0), .second, .val (.long z0), .second, .val (.long w0), .second, .val (.long c1), .second, .val (.long n1), .second, .val (.long c2), .second, .val (.long n2), .second, .val (.ref b7), .val (.ref b11), .val (.ref b15), .val (.int (own_rh c1 n1)), .val (.int (own_rh c1 n1)), .val (.int (own_rh c2 n2)), .val (.int (0 : Int32)), .val (.int (own_eq c1 n1 c1 n1)), .val (.int (own_eq c1 n1 c2 n2))] []))
      rw [show own_eq c1 n1 c1 n1 = (1 : Int32) from by simp only [own_eq, ↓reduceIte]]
      rw [show own_eq c1 n1 c2 n2 = (0 : Int32) from by simp only [own_eq, cc', nn', ↓reduceIte]]
      show own_G p.tables e below _ (T50.setTop (mkF m 129 #[.val (.long x0), .second, .val (.long y0), .second, .val (.long z0), .second, .val (.long w0), .second, .val (.long c1), .second, .val (.long n1), .second, .val (.long c2), .second, .val (.long n2), .second, .val (.ref b7), .val (.ref b11), .val (.ref b15), .val (.int (own_rh c1 n1)), .val (.int (own_rh c1 n1)), .val (.int (own_rh c2 n2)), .val (.int (0 : Int32)), .val (.int (1 : Int32)), .val (.int (0 : Int32))] []))
      refine own_fs (XS.iload X50.here hx rfl (hb hby at_129) rfl (Steps.refl _)) ?_
      show own_G p.tables e below _ (T50.setTop (mkF m 131 #[.val (.long x0), .second, .val (.long y0), .second, .val (.long z0), .second, .val (.long w0), .second, .val (.long c1), .second, .val (.long n1), .second, .val (.long c2), .second, .val (.long n2), .second, .val (.ref b7), .val (.ref b11), .val (.ref b15), .val (.int (own_rh c1 n1)), .val (.int (own_rh c1 n1)), .val (.int (own_rh c2 n2)), .val (.int (0 : Int32)), .val (.int (1 : Int32)), .val (.int (0 : Int32))] [(.int (1 : Int32))]))
      refine own_fs (XS.ifNo X50.here hx rfl (hb hby at_131) rfl (XT.i0_eq_f (by decide : ¬ ((1 : Int32) = (0 : Int32)))) (Steps.refl _)) ?_
      show own_G p.tables e below _ (T50.setTop (mkF m 134 #[.val (.long x0), .second, .val (.long y0), .second, .val (.long z0), .second, .val (.long w0), .second, .val (.long c1), .second, .val (.long n1), .second, .val (.long c2), .second, .val (.long n2), .second, .val (.ref b7), .val (.ref b11), .val (.ref b15), .val (.int (own_rh c1 n1)), .val (.int (own_rh c1 n1)), .val (.int (own_rh c2 n2)), .val (.int (0 : Int32)), .val (.int (1 : Int32)), .val (.int (0 : Int32))] []))
      refine own_fs (XS.iload X50.here hx rfl (hb hby at_134) rfl (Steps.refl _)) ?_
      show own_G p.tables e below _ (T50.setTop (mkF m 136 #[.val (.long x0), .second, .val (.long y0), .second, .val (.long z0), .second, .val (.long w0), .second, .val (.long c1), .second, .val (.long n1), .second, .val (.long c2), .second, .val (.long n2), .second, .val (.ref b7), .val (.ref b11), .val (.ref b15), .val (.int (own_rh c1 n1)), .val (.int (own_rh c1 n1)), .val (.int (own_rh c2 n2)), .val (.int (0 : Int32)), .val (.int (1 : Int32)), .val (.int (0 : Int32))] [(.int (own_rh c1 n1))]))
      refine own_fs (XS.iload X50.here hx rfl (hb hby at_136) rfl (Steps.refl _)) ?_
      show own_G p.tables e below _ (T50.setTop (mkF m 138 #[.val (.long x0), .second, .val (.long y0), .second, .val (.long z0), .second, .val (.long w0), .second, .val (.long c1), .second, .val (.long n1), .second, .val (.long c2), .second, .val (.long n2), .second, .val (.ref b7), .val (.ref b11), .val (.ref b15), .val (.int (own_rh c1 n1)), .val (.int (own_rh c1 n1)), .val (.int (own_rh c2 n2)), .val (.int (0 : Int32)), .val (.int (1 : Int32)), .val (.int (0 : Int32))] [(.int (own_rh c1 n1)), (.int (own_rh c1 n1))]))
      refine own_fs (XS.icmpNo X50.here hx rfl (hb hby at_138) rfl (XT.ii_ne_f (rfl : (own_rh c1 n1) = (own_rh c1 n1))) (Steps.refl _)) ?_
      show own_G p.tables e below _ (T50.setTop (mkF m 141 #[.val (.long x0), .second, .val (.long y0), .second, .val (.long z0), .second, .val (.long w0), .second, .val (.long c1), .second, .val (.long n1), .second, .val (.long c2), .second, .val (.long n2), .second, .val (.ref b7), .val (.ref b11), .val (.ref b15), .val (.int (own_rh c1 n1)), .val (.int (own_rh c1 n1)), .val (.int (own_rh c2 n2)), .val (.int (0 : Int32)), .val (.int (1 : Int32)), .val (.int (0 : Int32))] []))
      refine own_fs (XS.iload X50.here hx rfl (hb hby at_141) rfl (Steps.refl _)) ?_
      show own_G p.tables e below _ (T50.setTop (mkF m 143 #[.val (.long x0), .second, .val (.long y0), .second, .val (.long z0), .second, .val (.long w0), .second, .val (.long c1), .second, .val (.long n1), .second, .val (.long c2), .second, .val (.long n2), .second, .val (.ref b7), .val (.ref b11), .val (.ref b15), .val (.int (own_rh c1 n1)), .val (.int (own_rh c1 n1)), .val (.int (own_rh c2 n2)), .val (.int (0 : Int32)), .val (.int (1 : Int32)), .val (.int (0 : Int32))] [(.int (own_rh c1 n1))]))
      refine own_fs (XS.aload X50.here hx rfl (hb hby at_143) rfl rfl (Steps.refl _)) ?_
      show own_G p.tables e below _ (T50.setTop (mkF m 145 #[.val (.long x0), .second, .val (.long y0), .second, .val (.long z0), .second, .val (.long w0), .second, .val (.long c1), .second, .val (.long n1), .second, .val (.long c2), .second, .val (.long n2), .second, .val (.ref b7), .val (.ref b11), .val (.ref b15), .val (.int (own_rh c1 n1)), .val (.int (own_rh c1 n1)), .val (.int (own_rh c2 n2)), .val (.int (0 : Int32)), .val (.int (1 : Int32)), .val (.int (0 : Int32))] [(.ref b7), (.int (own_rh c1 n1))]))
      have Zs54 : n0 ≤ h17.size := (Nat.le_trans (Nat.le_trans (Nat.le_trans (Nat.le_trans (Nat.le_trans (Nat.le_trans Z0 E7.1) K9.1) E11.1) K13.1) E15.1) K17.1)
      obtain ⟨cq53, kq53, q53a, q53b, q53c⟩ := isOf hZ e50 ((Exa.ext E15 ((Exa.ext E11 (A7.keep K9)).keep K13)).keep K17)
      obtain ⟨_, _, ⟨T53, L53, k53, n53⟩, -, X53, ⟨Lc53, hQ53, l53, y53, z53⟩, st53⟩ := X50.virtualBack hx (y := (⟨"com/example/dibs/dibs/namespace/RequestId", "hashCode", "()I"⟩ : MethodName)) (z := (⟨"com/example/dibs/dibs/namespace/RequestId", "hashCode", "()I"⟩ : MethodName)) hown (mvT hZ (hw _ (List.mem_of_getElem? (i := 18) rfl))) (mvT hZ (hw _ (List.mem_of_getElem? (i := 19) rfl))) (notFace_of_selects (args := #[]) (mvT hZ (hw _ (List.mem_of_getElem? (i := 21) rfl)))) (mvT hZ (hw _ (List.mem_of_getElem? (i := 21) rfl))) (mvT hZ (hw _ (List.mem_of_getElem? (i := 20) rfl))) (by decide) (backOf (W := 1) (own_reqhash l Z a0 hw [] b7 c1 n1 h17 n0 Zs54 ((Fld.ext E15 ((Fld.ext E11 P8_0).keep K13 (ninS (Nat.ne_of_lt (Nat.lt_of_lt_of_le (A7.keep K9).lt (Nat.le_of_eq g11.symm))) nin0))).keep K17 (ninS (Nat.ne_of_lt (Nat.lt_of_lt_of_le ((Exa.ext E11 (A7.keep K9)).keep K13).lt (Nat.le_of_eq g15.symm))) nin0)) ((Fld.ext E15 ((Fld.ext E11 P8_1).keep K13 (ninS (Nat.ne_of_lt (Nat.lt_of_lt_of_le (A7.keep K9).lt (Nat.le_of_eq g11.symm))) nin0))).keep K17 (ninS (Nat.ne_of_lt (Nat.lt_of_lt_of_le ((Exa.ext E11 (A7.keep K9)).keep K13).lt (Nat.le_of_eq g15.symm))) nin0))) hZ (hw _ (List.mem_of_getElem? (i := 22) rfl)) (hw _ (List.mem_of_getElem? (i := 7) rfl)) (by decide) (by decide)) q53a q53c (g := (mkF m 145 #[.val (.long x0), .second, .val (.long y0), .second, .val (.long z0), .second, .val (.long w0), .second, .val (.long c1), .second, .val (.long n1), .second, .val (.long c2), .second, .val (.long n2), .second, .val (.ref b7), .val (.ref b11), .val (.ref b15), .val (.int (own_rh c1 n1)), .val (.int (own_rh c1 n1)), .val (.int (own_rh c2 n2)), .val (.int (0 : Int32)), .val (.int (1 : Int32)), .val (.int (0 : Int32))] [(.ref b7), (.int (own_rh c1 n1))])) rfl (by rw [hml]; rfl) (Steps.refl _) (argsL := []) (rest := [(.int (own_rh c1 n1))]) (lenOf own_pd3 rfl) rfl (by show 2 * 0 + _ ≤ _; exact Nat.le_of_eq rfl) (hb hby at_145) (fun _ _ => ⟨rfl, e50, (by decide : 3 + 0 ≤ _), (by decide : 6 + 0 ≤ _)⟩)
      dsimp only [Pt.U, Pt.locs, Pt.cells, Pt.slots] at X53 l53 y53 z53 st53 hQ53
      subst l53 y53 z53
      obtain ⟨rfl, Nq53, e53⟩ := hQ53
      have N53 := Fr.app N50 Nq53
      refine own_fs st53 ?_
      show own_G p.tables e below _ (T53.setTop (mkF m 148 #[.val (.long x0), .second, .val (.long y0), .second, .val (.long z0), .second, .val (.long w0), .second, .val (.long c1), .second, .val (.long n1), .second, .val (.long c2), .second, .val (.long n2), .second, .val (.ref b7), .val (.ref b11), .val (.ref b15), .val (.int (own_rh c1 n1)), .val (.int (own_rh c1 n1)), .val (.int (own_rh c2 n2)), .val (.int (0 : Int32)), .val (.int (1 : Int32)), .val (.int (0 : Int32))] [(.int (own_rh c1 n1)), (.int (own_rh c1 n1))]))
      refine own_fs (XS.icmpNo X53.here hx rfl (hb hby at_148) rfl (XT.ii_ne_f (rfl : (own_rh c1 n1) = (own_rh c1 n1))) (Steps.refl _)) ?_
      show own_G p.tables e below _ (T53.setTop (mkF m 151 #[.val (.long x0), .second, .val (.long y0), .second, .val (.long z0), .second, .val (.long w0), .second, .val (.long c1), .second, .val (.long n1), .second, .val (.long c2), .second, .val (.long n2), .second, .val (.ref b7), .val (.ref b11), .val (.ref b15), .val (.int (own_rh c1 n1)), .val (.int (own_rh c1 n1)), .val (.int (own_rh c2 n2)), .val (.int (0 : Int32)), .val (.int (1 : Int32)), .val (.int (0 : Int32))] []))
      refine own_fs (XS.iload X53.here hx rfl (hb hby at_151) rfl (Steps.refl _)) ?_
      show own_G p.tables e below _ (T53.setTop (mkF m 153 #[.val (.long x0), .second, .val (.long y0), .second, .val (.long z0), .second, .val (.long w0), .second, .val (.long c1), .second, .val (.long n1), .second, .val (.long c2), .second, .val (.long n2), .second, .val (.ref b7), .val (.ref b11), .val (.ref b15), .val (.int (own_rh c1 n1)), .val (.int (own_rh c1 n1)), .val (.int (own_rh c2 n2)), .val (.int (0 : Int32)), .val (.int (1 : Int32)), .val (.int (0 : Int32))] [(.int (0 : Int32))]))
      refine own_fs (XS.iload X53.here hx rfl (hb hby at_153) rfl (Steps.refl _)) ?_
      show own_G p.tables e below _ (T53.setTop (mkF m 155 #[.val (.long x0), .second, .val (.long y0), .second, .val (.long z0), .second, .val (.long w0), .second, .val (.long c1), .second, .val (.long n1), .second, .val (.long c2), .second, .val (.long n2), .second, .val (.ref b7), .val (.ref b11), .val (.ref b15), .val (.int (own_rh c1 n1)), .val (.int (own_rh c1 n1)), .val (.int (own_rh c2 n2)), .val (.int (0 : Int32)), .val (.int (1 : Int32)), .val (.int (0 : Int32))] [(.int (0 : Int32)), (.int (0 : Int32))]))
      refine own_fs (XS.icmpNo X53.here hx rfl (hb hby at_155) rfl (XT.ii_ne_f (by decide : (0 : Int32) = (0 : Int32))) (Steps.refl _)) ?_
      show own_G p.tables e below _ (T53.setTop (mkF m 158 #[.val (.long x0), .second, .val (.long y0), .second, .val (.long z0), .second, .val (.long w0), .second, .val (.long c1), .second, .val (.long n1), .second, .val (.long c2), .second, .val (.long n2), .second, .val (.ref b7), .val (.ref b11), .val (.ref b15), .val (.int (own_rh c1 n1)), .val (.int (own_rh c1 n1)), .val (.int (own_rh c2 n2)), .val (.int (0 : Int32)), .val (.int (1 : Int32)), .val (.int (0 : Int32))] []))
      refine own_fs (XS.iload X53.here hx rfl (hb hby at_158) rfl (Steps.refl _)) ?_
      show own_G p.tables e below _ (T53.setTop (mkF m 160 #[.val (.long x0), .second, .val (.long y0), .second, .val (.long z0), .second, .val (.long w0), .second, .val (.long c1), .second, .val (.long n1), .second, .val (.long c2), .second, .val (.long n2), .second, .val (.ref b7), .val (.ref b11), .val (.ref b15), .val (.int (own_rh c1 n1)), .val (.int (own_rh c1 n1)), .val (.int (own_rh c2 n2)), .val (.int (0 : Int32)), .val (.int (1 : Int32)), .val (.int (0 : Int32))] [(.int (0 : Int32))]))
      refine own_fs (XS.ifYes X53.here hx rfl (pc0 := 160) (pc' := 170) rfl (hb hby at_160) rfl (XT.i0_eq_t (by decide : (0 : Int32) = (0 : Int32))) (by decide) (by decide) (Steps.refl _)) ?_
      show own_G p.tables e below _ (T53.setTop (mkF m 170 #[.val (.long x0), .second, .val (.long y0), .second, .val (.long z0), .second, .val (.long w0), .second, .val (.long c1), .second, .val (.long n1), .second, .val (.long c2), .second, .val (.long n2), .second, .val (.ref b7), .val (.ref b11), .val (.ref b15), .val (.int (own_rh c1 n1)), .val (.int (own_rh c1 n1)), .val (.int (own_rh c2 n2)), .val (.int (0 : Int32)), .val (.int (1 : Int32)), .val (.int (0 : Int32))] []))
      refine own_fs (XS.iconst X53.here hx rfl (hb hby at_170) (Steps.refl _)) ?_
      show own_G p.tables e below _ (T53.setTop (mkF m 171 #[.val (.long x0), .second, .val (.long y0), .second, .val (.long z0), .second, .val (.long w0), .second, .val (.long c1), .second, .val (.long n1), .second, .val (.long c2), .second, .val (.long n2), .second, .val (.ref b7), .val (.ref b11), .val (.ref b15), .val (.int (own_rh c1 n1)), .val (.int (own_rh c1 n1)), .val (.int (own_rh c2 n2)), .val (.int (0 : Int32)), .val (.int (1 : Int32)), .val (.int (0 : Int32))] [(.int (1 : Int32))]))
      refine own_fs (XS.goto X53.here hx rfl (pc0 := 171) (pc' := 175) rfl (hb hby at_171) (by decide) (by decide) (Steps.refl _)) ?_
      show own_G p.tables e below _ (T53.setTop (mkF m 175 #[.val (.long x0), .second, .val (.long y0), .second, .val (.long z0), .second, .val (.long w0), .second, .val (.long c1), .second, .val (.long n1), .second, .val (.long c2), .second, .val (.long n2), .second, .val (.ref b7), .val (.ref b11), .val (.ref b15), .val (.int (own_rh c1 n1)), .val (.int (own_rh c1 n1)), .val (.int (own_rh c2 n2)), .val (.int (0 : Int32)), .val (.int (1 : Int32)), .val (.int (0 : Int32))] [(.int (1 : Int32))]))
      exact own_retN X53 hx (t := .boolean) Bd.returns hlk (by simp) (hb hby at_175) (by decide) (by decide) e53 ⟨rfl, N53⟩
    · show own_G p.tables e below _ (T26.setTop (mkF m 88 #[.val (.long x0), .second, .val (.long y0), .second, .val (.long z0), .second, .val (.long w0), .second, .val (.long c1), .second, .val (.long n1), .second, .val (.long c2), .second, .val (.long n2), .second, .val (.ref b7), .val (.ref b11), .val (.ref b15), .val (.int (own_rh c1 n1)), .val (.int (own_rh c1 n1)), .val (.int (own_rh c2 n2)), .unset, .unset, .unset] []))
      refine own_fs (XS.lload X26.here hx rfl (hb hby at_88) rfl (Steps.refl _)) ?_
      show own_G p.tables e below _ (T26.setTop (mkF m 90 #[.val (.long x0), .second, .val (.long y0), .second, .val (.long z0), .second, .val (.long w0), .second, .val (.long c1), .second, .val (.long n1), .second, .val (.long c2), .second, .val (.long n2), .second, .val (.ref b7), .val (.ref b11), .val (.ref b15), .val (.int (own_rh c1 n1)), .val (.int (own_rh c1 n1)), .val (.int (own_rh c2 n2)), .unset, .unset, .unset] [(.long c1)]))
      refine own_fs (XS.lload X26.here hx rfl (hb hby at_90) rfl (Steps.refl _)) ?_
      show own_G p.tables e below _ (T26.setTop (mkF m 92 #[.val (.long x0), .second, .val (.long y0), .second, .val (.long z0), .second, .val (.long w0), .second, .val (.long c1), .second, .val (.long n1), .second, .val (.long c2), .second, .val (.long n2), .second, .val (.ref b7), .val (.ref b11), .val (.ref b15), .val (.int (own_rh c1 n1)), .val (.int (own_rh c1 n1)), .val (.int (own_rh c2 n2)), .unset, .unset, .unset] [(.long c2), (.long c1)]))
      refine own_fs (XT.lcmp X26.here hx rfl (hb hby at_92) rfl (Steps.refl _)) ?_
      show own_G p.tables e below _ (T26.setTop (mkF m 93 #[.val (.long x0), .second, .val (.long y0), .second, .val (.long z0), .second, .val (.long w0), .second, .val (.long c1), .second, .val (.long n1), .second, .val (.long c2), .second, .val (.long n2), .second, .val (.ref b7), .val (.ref b11), .val (.ref b15), .val (.int (own_rh c1 n1)), .val (.int (own_rh c1 n1)), .val (.int (own_rh c2 n2)), .unset, .unset, .unset] [(.int (XT.cmpL c1 c2))]))
      refine own_fs (XS.ifYes X26.here hx rfl (pc0 := 93) (pc' := 108) rfl (hb hby at_93) rfl (XT.ll_ne_t cc) (by decide) (by decide) (Steps.refl _)) ?_
      show own_G p.tables e below _ (T26.setTop (mkF m 108 #[.val (.long x0), .second, .val (.long y0), .second, .val (.long z0), .second, .val (.long w0), .second, .val (.long c1), .second, .val (.long n1), .second, .val (.long c2), .second, .val (.long n2), .second, .val (.ref b7), .val (.ref b11), .val (.ref b15), .val (.int (own_rh c1 n1)), .val (.int (own_rh c1 n1)), .val (.int (own_rh c2 n2)), .unset, .unset, .unset] []))
      refine own_fs (XS.iconst X26.here hx rfl (hb hby at_108) (Steps.refl _)) ?_
      show own_G p.tables e below _ (T26.setTop (mkF m 109 #[.val (.long x0), .second, .val (.long y0), .second, .val (.long z0), .second, .val (.long w0), .second, .val (.long c1), .second, .val (.long n1), .second, .val (.long c2), .second, .val (.long n2), .second, .val (.ref b7), .val (.ref b11), .val (.ref b15), .val (.int (own_rh c1 n1)), .val (.int (own_rh c1 n1)), .val (.int (own_rh c2 n2)), .unset, .unset, .unset] [(.int (0 : Int32))]))
      refine own_fs (XS.istore X26.here hx rfl (hb hby at_109) rfl (l' := #[.val (.long x0), .second, .val (.long y0), .second, .val (.long z0), .second, .val (.long w0), .second, .val (.long c1), .second, .val (.long n1), .second, .val (.long c2), .second, .val (.long n2), .second, .val (.ref b7), .val (.ref b11), .val (.ref b15), .val (.int (own_rh c1 n1)), .val (.int (own_rh c1 n1)), .val (.int (own_rh c2 n2)), .val (.int (0 : Int32)), .unset, .unset]) rfl (Steps.refl _)) ?_
      show own_G p.tables e below _ (T26.setTop (mkF m 111 #[.val (.long x0), .second, .val (.long y0), .second, .val (.long z0), .second, .val (.long w0), .second, .val (.long c1), .second, .val (.long n1), .second, .val (.long c2), .second, .val (.long n2), .second, .val (.ref b7), .val (.ref b11), .val (.ref b15), .val (.int (own_rh c1 n1)), .val (.int (own_rh c1 n1)), .val (.int (own_rh c2 n2)), .val (.int (0 : Int32)), .unset, .unset] []))
      refine own_fs (XS.aload X26.here hx rfl (hb hby at_111) rfl rfl (Steps.refl _)) ?_
      show own_G p.tables e below _ (T26.setTop (mkF m 113 #[.val (.long x0), .second, .val (.long y0), .second, .val (.long z0), .second, .val (.long w0), .second, .val (.long c1), .second, .val (.long n1), .second, .val (.long c2), .second, .val (.long n2), .second, .val (.ref b7), .val (.ref b11), .val (.ref b15), .val (.int (own_rh c1 n1)), .val (.int (own_rh c1 n1)), .val (.int (own_rh c2 n2)), .val (.int (0 : Int32)), .unset, .unset] [(.ref b7)]))
      refine own_fs (XS.aload X26.here hx rfl (hb hby at_113) rfl rfl (Steps.refl _)) ?_
      show own_G p.tables e below _ (T26.setTop (mkF m 115 #[.val (.long x0), .second, .val (.long y0), .second, .val (.long z0), .second, .val (.long w0), .second, .val (.long c1), .second, .val (.long n1), .second, .val (.long c2), .second, .val (.long n2), .second, .val (.ref b7), .val (.ref b11), .val (.ref b15), .val (.int (own_rh c1 n1)), .val (.int (own_rh c1 n1)), .val (.int (own_rh c2 n2)), .val (.int (0 : Int32)), .unset, .unset] [(.ref b11), (.ref b7)]))
      have Zs57 : n0 ≤ h17.size := (Nat.le_trans (Nat.le_trans (Nat.le_trans (Nat.le_trans (Nat.le_trans (Nat.le_trans Z0 E7.1) K9.1) E11.1) K13.1) E15.1) K17.1)
      obtain ⟨cq56, kq56, q56a, q56b, q56c⟩ := isOf hZ e26 ((Exa.ext E15 ((Exa.ext E11 (A7.keep K9)).keep K13)).keep K17)
      obtain ⟨_, _, ⟨T56, L56, k56, n56⟩, -, X56, ⟨Lc56, hQ56, l56, y56, z56⟩, st56⟩ := X26.virtualBack hx (y := (⟨"com/example/dibs/dibs/namespace/RequestId", "equals", "(Ljava/lang/Object;)Z"⟩ : MethodName)) (z := (⟨"com/example/dibs/dibs/namespace/RequestId", "equals", "(Ljava/lang/Object;)Z"⟩ : MethodName)) hown (mvT hZ (hw _ (List.mem_of_getElem? (i := 27) rfl))) (mvT hZ (hw _ (List.mem_of_getElem? (i := 28) rfl))) (notFace_of_selects (args := #[]) (mvT hZ (hw _ (List.mem_of_getElem? (i := 30) rfl)))) (mvT hZ (hw _ (List.mem_of_getElem? (i := 30) rfl))) (mvT hZ (hw _ (List.mem_of_getElem? (i := 29) rfl))) (by decide) (backOf (W := 0) (own_equals l Z a0 hw [] b7 b11 c1 n1 c1 n1 h17 n0 Zs57 ((Fld.ext E15 ((Fld.ext E11 P8_0).keep K13 (ninS (Nat.ne_of_lt (Nat.lt_of_lt_of_le (A7.keep K9).lt (Nat.le_of_eq g11.symm))) nin0))).keep K17 (ninS (Nat.ne_of_lt (Nat.lt_of_lt_of_le ((Exa.ext E11 (A7.keep K9)).keep K13).lt (Nat.le_of_eq g15.symm))) nin0)) ((Fld.ext E15 ((Fld.ext E11 P8_1).keep K13 (ninS (Nat.ne_of_lt (Nat.lt_of_lt_of_le (A7.keep K9).lt (Nat.le_of_eq g11.symm))) nin0))).keep K17 (ninS (Nat.ne_of_lt (Nat.lt_of_lt_of_le ((Exa.ext E11 (A7.keep K9)).keep K13).lt (Nat.le_of_eq g15.symm))) nin0)) ((Fld.ext E15 P12_0).keep K17 (ninS (Nat.ne_of_lt (Nat.lt_of_lt_of_le (A11.keep K13).lt (Nat.le_of_eq g15.symm))) nin0)) ((Fld.ext E15 P12_1).keep K17 (ninS (Nat.ne_of_lt (Nat.lt_of_lt_of_le (A11.keep K13).lt (Nat.le_of_eq g15.symm))) nin0)) ((Exa.ext E15 (A11.keep K13)).keep K17)) hZ (hw _ (List.mem_of_getElem? (i := 31) rfl)) (hw _ (List.mem_of_getElem? (i := 7) rfl)) (by decide) (by decide)) q56a q56c (g := (mkF m 115 #[.val (.long x0), .second, .val (.long y0), .second, .val (.long z0), .second, .val (.long w0), .second, .val (.long c1), .second, .val (.long n1), .second, .val (.long c2), .second, .val (.long n2), .second, .val (.ref b7), .val (.ref b11), .val (.ref b15), .val (.int (own_rh c1 n1)), .val (.int (own_rh c1 n1)), .val (.int (own_rh c2 n2)), .val (.int (0 : Int32)), .unset, .unset] [(.ref b11), (.ref b7)])) rfl (by rw [hml]; rfl) (Steps.refl _) (argsL := [(.ref b11)]) (rest := []) (lenOf own_pd4 rfl) rfl (by show 2 * 0 + _ ≤ _; exact Nat.le_of_eq rfl) (hb hby at_115) (fun _ _ => ⟨rfl, e26, (by decide : 3 + 0 ≤ _), (by decide : 6 + 0 ≤ _)⟩)
      dsimp only [Pt.U, Pt.locs, Pt.cells, Pt.slots] at X56 l56 y56 z56 st56 hQ56
      subst l56 y56 z56
      obtain ⟨rfl, Nq56, e56⟩ := hQ56
      have N56 := Fr.app N26 Nq56
      refine own_fs st56 ?_
      show own_G p.tables e below _ (T56.setTop (mkF m 118 #[.val (.long x0), .second, .val (.long y0), .second, .val (.long z0), .second, .val (.long w0), .second, .val (.long c1), .second, .val (.long n1), .second, .val (.long c2), .second, .val (.long n2), .second, .val (.ref b7), .val (.ref b11), .val (.ref b15), .val (.int (own_rh c1 n1)), .val (.int (own_rh c1 n1)), .val (.int (own_rh c2 n2)), .val (.int (0 : Int32)), .unset, .unset] [(.int (own_eq c1 n1 c1 n1))]))
      refine own_fs (XS.istore X56.here hx rfl (hb hby at_118) rfl (l' := #[.val (.long x0), .second, .val (.long y0), .second, .val (.long z0), .second, .val (.long w0), .second, .val (.long c1), .second, .val (.long n1), .second, .val (.long c2), .second, .val (.long n2), .second, .val (.ref b7), .val (.ref b11), .val (.ref b15), .val (.int (own_rh c1 n1)), .val (.int (own_rh c1 n1)), .val (.int (own_rh c2 n2)), .val (.int (0 : Int32)), .val (.int (own_eq c1 n1 c1 n1)), .unset]) rfl (Steps.refl _)) ?_
      show own_G p.tables e below _ (T56.setTop (mkF m 120 #[.val (.long x0), .second, .val (.long y0), .second, .val (.long z0), .second, .val (.long w0), .second, .val (.long c1), .second, .val (.long n1), .second, .val (.long c2), .second, .val (.long n2), .second, .val (.ref b7), .val (.ref b11), .val (.ref b15), .val (.int (own_rh c1 n1)), .val (.int (own_rh c1 n1)), .val (.int (own_rh c2 n2)), .val (.int (0 : Int32)), .val (.int (own_eq c1 n1 c1 n1)), .unset] []))
      refine own_fs (XS.aload X56.here hx rfl (hb hby at_120) rfl rfl (Steps.refl _)) ?_
      show own_G p.tables e below _ (T56.setTop (mkF m 122 #[.val (.long x0), .second, .val (.long y0), .second, .val (.long z0), .second, .val (.long w0), .second, .val (.long c1), .second, .val (.long n1), .second, .val (.long c2), .second, .val (.long n2), .second, .val (.ref b7), .val (.ref b11), .val (.ref b15), .val (.int (own_rh c1 n1)), .val (.int (own_rh c1 n1)), .val (.int (own_rh c2 n2)), .val (.int (0 : Int32)), .val (.int (own_eq c1 n1 c1 n1)), .unset] [(.ref b7)]))
      refine own_fs (XS.aload X56.here hx rfl (hb hby at_122) rfl rfl (Steps.refl _)) ?_
      show own_G p.tables e below _ (T56.setTop (mkF m 124 #[.val (.long x0), .second, .val (.long y0), .second, .val (.long z0), .second, .val (.long w0), .second, .val (.long c1), .second, .val (.long n1), .second, .val (.long c2), .second, .val (.long n2), .second, .val (.ref b7), .val (.ref b11), .val (.ref b15), .val (.int (own_rh c1 n1)), .val (.int (own_rh c1 n1)), .val (.int (own_rh c2 n2)), .val (.int (0 : Int32)), .val (.int (own_eq c1 n1 c1 n1)), .unset] [(.ref b15), (.ref b7)]))
      have Zs60 : n0 ≤ h17.size := (Nat.le_trans (Nat.le_trans (Nat.le_trans (Nat.le_trans (Nat.le_trans (Nat.le_trans Z0 E7.1) K9.1) E11.1) K13.1) E15.1) K17.1)
      obtain ⟨cq59, kq59, q59a, q59b, q59c⟩ := isOf hZ e56 ((Exa.ext E15 ((Exa.ext E11 (A7.keep K9)).keep K13)).keep K17)
      obtain ⟨_, _, ⟨T59, L59, k59, n59⟩, -, X59, ⟨Lc59, hQ59, l59, y59, z59⟩, st59⟩ := X56.virtualBack hx (y := (⟨"com/example/dibs/dibs/namespace/RequestId", "equals", "(Ljava/lang/Object;)Z"⟩ : MethodName)) (z := (⟨"com/example/dibs/dibs/namespace/RequestId", "equals", "(Ljava/lang/Object;)Z"⟩ : MethodName)) hown (mvT hZ (hw _ (List.mem_of_getElem? (i := 27) rfl))) (mvT hZ (hw _ (List.mem_of_getElem? (i := 28) rfl))) (notFace_of_selects (args := #[]) (mvT hZ (hw _ (List.mem_of_getElem? (i := 30) rfl)))) (mvT hZ (hw _ (List.mem_of_getElem? (i := 30) rfl))) (mvT hZ (hw _ (List.mem_of_getElem? (i := 29) rfl))) (by decide) (backOf (W := 0) (own_equals l Z a0 hw [] b7 b15 c1 n1 c2 n2 h17 n0 Zs60 ((Fld.ext E15 ((Fld.ext E11 P8_0).keep K13 (ninS (Nat.ne_of_lt (Nat.lt_of_lt_of_le (A7.keep K9).lt (Nat.le_of_eq g11.symm))) nin0))).keep K17 (ninS (Nat.ne_of_lt (Nat.lt_of_lt_of_le ((Exa.ext E11 (A7.keep K9)).keep K13).lt (Nat.le_of_eq g15.symm))) nin0)) ((Fld.ext E15 ((Fld.ext E11 P8_1).keep K13 (ninS (Nat.ne_of_lt (Nat.lt_of_lt_of_le (A7.keep K9).lt (Nat.le_of_eq g11.symm))) nin0))).keep K17 (ninS (Nat.ne_of_lt (Nat.lt_of_lt_of_le ((Exa.ext E11 (A7.keep K9)).keep K13).lt (Nat.le_of_eq g15.symm))) nin0)) P16_0 P16_1 (A15.keep K17)) hZ (hw _ (List.mem_of_getElem? (i := 31) rfl)) (hw _ (List.mem_of_getElem? (i := 7) rfl)) (by decide) (by decide)) q59a q59c (g := (mkF m 124 #[.val (.long x0), .second, .val (.long y0), .second, .val (.long z0), .second, .val (.long w0), .second, .val (.long c1), .second, .val (.long n1), .second, .val (.long c2), .second, .val (.long n2), .second, .val (.ref b7), .val (.ref b11), .val (.ref b15), .val (.int (own_rh c1 n1)), .val (.int (own_rh c1 n1)), .val (.int (own_rh c2 n2)), .val (.int (0 : Int32)), .val (.int (own_eq c1 n1 c1 n1)), .unset] [(.ref b15), (.ref b7)])) rfl (by rw [hml]; rfl) (Steps.refl _) (argsL := [(.ref b15)]) (rest := []) (lenOf own_pd4 rfl) rfl (by show 2 * 0 + _ ≤ _; exact Nat.le_of_eq rfl) (hb hby at_124) (fun _ _ => ⟨rfl, e56, (by decide : 3 + 0 ≤ _), (by decide : 6 + 0 ≤ _)⟩)
      dsimp only [Pt.U, Pt.locs, Pt.cells, Pt.slots] at X59 l59 y59 z59 st59 hQ59
      subst l59 y59 z59
      obtain ⟨rfl, Nq59, e59⟩ := hQ59
      have N59 := Fr.app N56 Nq59
      refine own_fs st59 ?_
      show own_G p.tables e below _ (T59.setTop (mkF m 127 #[.val (.long x0), .second, .val (.long y0), .second, .val (.long z0), .second, .val (.long w0), .second, .val (.long c1), .second, .val (.long n1), .second, .val (.long c2), .second, .val (.long n2), .second, .val (.ref b7), .val (.ref b11), .val (.ref b15), .val (.int (own_rh c1 n1)), .val (.int (own_rh c1 n1)), .val (.int (own_rh c2 n2)), .val (.int (0 : Int32)), .val (.int (own_eq c1 n1 c1 n1)), .unset] [(.int (own_eq c1 n1 c2 n2))]))
      refine own_fs (XS.istore X59.here hx rfl (hb hby at_127) rfl (l' := #[.val (.long x0), .second, .val (.long y0), .second, .val (.long z0), .second, .val (.long w0), .second, .val (.long c1), .second, .val (.long n1), .second, .val (.long c2), .second, .val (.long n2), .second, .val (.ref b7), .val (.ref b11), .val (.ref b15), .val (.int (own_rh c1 n1)), .val (.int (own_rh c1 n1)), .val (.int (own_rh c2 n2)), .val (.int (0 : Int32)), .val (.int (own_eq c1 n1 c1 n1)), .val (.int (own_eq c1 n1 c2 n2))]) rfl (Steps.refl _)) ?_
      show own_G p.tables e below _ (T59.setTop (mkF m 129 #[.val (.long x0), .second, .val (.long y0), .second, .val (.long z0), .second, .val (.long w0), .second, .val (.long c1), .second, .val (.long n1), .second, .val (.long c2), .second, .val (.long n2), .second, .val (.ref b7), .val (.ref b11), .val (.ref b15), .val (.int (own_rh c1 n1)), .val (.int (own_rh c1 n1)), .val (.int (own_rh c2 n2)), .val (.int (0 : Int32)), .val (.int (own_eq c1 n1 c1 n1)), .val (.int (own_eq c1 n1 c2 n2))] []))
      rw [show own_eq c1 n1 c1 n1 = (1 : Int32) from by simp only [own_eq, ↓reduceIte]]
      rw [show own_eq c1 n1 c2 n2 = (0 : Int32) from by simp only [own_eq, cc', nn', ↓reduceIte]]
      show own_G p.tables e below _ (T59.setTop (mkF m 129 #[.val (.long x0), .second, .val (.long y0), .second, .val (.long z0), .second, .val (.long w0), .second, .val (.long c1), .second, .val (.long n1), .second, .val (.long c2), .second, .val (.long n2), .second, .val (.ref b7), .val (.ref b11), .val (.ref b15), .val (.int (own_rh c1 n1)), .val (.int (own_rh c1 n1)), .val (.int (own_rh c2 n2)), .val (.int (0 : Int32)), .val (.int (1 : Int32)), .val (.int (0 : Int32))] []))
      refine own_fs (XS.iload X59.here hx rfl (hb hby at_129) rfl (Steps.refl _)) ?_
      show own_G p.tables e below _ (T59.setTop (mkF m 131 #[.val (.long x0), .second, .val (.long y0), .second, .val (.long z0), .second, .val (.long w0), .second, .val (.long c1), .second, .val (.long n1), .second, .val (.long c2), .second, .val (.long n2), .second, .val (.ref b7), .val (.ref b11), .val (.ref b15), .val (.int (own_rh c1 n1)), .val (.int (own_rh c1 n1)), .val (.int (own_rh c2 n2)), .val (.int (0 : Int32)), .val (.int (1 : Int32)), .val (.int (0 : Int32))] [(.int (1 : Int32))]))
      refine own_fs (XS.ifNo X59.here hx rfl (hb hby at_131) rfl (XT.i0_eq_f (by decide : ¬ ((1 : Int32) = (0 : Int32)))) (Steps.refl _)) ?_
      show own_G p.tables e below _ (T59.setTop (mkF m 134 #[.val (.long x0), .second, .val (.long y0), .second, .val (.long z0), .second, .val (.long w0), .second, .val (.long c1), .second, .val (.long n1), .second, .val (.long c2), .second, .val (.long n2), .second, .val (.ref b7), .val (.ref b11), .val (.ref b15), .val (.int (own_rh c1 n1)), .val (.int (own_rh c1 n1)), .val (.int (own_rh c2 n2)), .val (.int (0 : Int32)), .val (.int (1 : Int32)), .val (.int (0 : Int32))] []))
      refine own_fs (XS.iload X59.here hx rfl (hb hby at_134) rfl (Steps.refl _)) ?_
      show own_G p.tables e below _ (T59.setTop (mkF m 136 #[.val (.long x0), .second, .val (.long y0), .second, .val (.long z0), .second, .val (.long w0), .second, .val (.long c1), .second, .val (.long n1), .second, .val (.long c2), .second, .val (.long n2), .second, .val (.ref b7), .val (.ref b11), .val (.ref b15), .val (.int (own_rh c1 n1)), .val (.int (own_rh c1 n1)), .val (.int (own_rh c2 n2)), .val (.int (0 : Int32)), .val (.int (1 : Int32)), .val (.int (0 : Int32))] [(.int (own_rh c1 n1))]))
      refine own_fs (XS.iload X59.here hx rfl (hb hby at_136) rfl (Steps.refl _)) ?_
      show own_G p.tables e below _ (T59.setTop (mkF m 138 #[.val (.long x0), .second, .val (.long y0), .second, .val (.long z0), .second, .val (.long w0), .second, .val (.long c1), .second, .val (.long n1), .second, .val (.long c2), .second, .val (.long n2), .second, .val (.ref b7), .val (.ref b11), .val (.ref b15), .val (.int (own_rh c1 n1)), .val (.int (own_rh c1 n1)), .val (.int (own_rh c2 n2)), .val (.int (0 : Int32)), .val (.int (1 : Int32)), .val (.int (0 : Int32))] [(.int (own_rh c1 n1)), (.int (own_rh c1 n1))]))
      refine own_fs (XS.icmpNo X59.here hx rfl (hb hby at_138) rfl (XT.ii_ne_f (rfl : (own_rh c1 n1) = (own_rh c1 n1))) (Steps.refl _)) ?_
      show own_G p.tables e below _ (T59.setTop (mkF m 141 #[.val (.long x0), .second, .val (.long y0), .second, .val (.long z0), .second, .val (.long w0), .second, .val (.long c1), .second, .val (.long n1), .second, .val (.long c2), .second, .val (.long n2), .second, .val (.ref b7), .val (.ref b11), .val (.ref b15), .val (.int (own_rh c1 n1)), .val (.int (own_rh c1 n1)), .val (.int (own_rh c2 n2)), .val (.int (0 : Int32)), .val (.int (1 : Int32)), .val (.int (0 : Int32))] []))
      refine own_fs (XS.iload X59.here hx rfl (hb hby at_141) rfl (Steps.refl _)) ?_
      show own_G p.tables e below _ (T59.setTop (mkF m 143 #[.val (.long x0), .second, .val (.long y0), .second, .val (.long z0), .second, .val (.long w0), .second, .val (.long c1), .second, .val (.long n1), .second, .val (.long c2), .second, .val (.long n2), .second, .val (.ref b7), .val (.ref b11), .val (.ref b15), .val (.int (own_rh c1 n1)), .val (.int (own_rh c1 n1)), .val (.int (own_rh c2 n2)), .val (.int (0 : Int32)), .val (.int (1 : Int32)), .val (.int (0 : Int32))] [(.int (own_rh c1 n1))]))
      refine own_fs (XS.aload X59.here hx rfl (hb hby at_143) rfl rfl (Steps.refl _)) ?_
      show own_G p.tables e below _ (T59.setTop (mkF m 145 #[.val (.long x0), .second, .val (.long y0), .second, .val (.long z0), .second, .val (.long w0), .second, .val (.long c1), .second, .val (.long n1), .second, .val (.long c2), .second, .val (.long n2), .second, .val (.ref b7), .val (.ref b11), .val (.ref b15), .val (.int (own_rh c1 n1)), .val (.int (own_rh c1 n1)), .val (.int (own_rh c2 n2)), .val (.int (0 : Int32)), .val (.int (1 : Int32)), .val (.int (0 : Int32))] [(.ref b7), (.int (own_rh c1 n1))]))
      have Zs63 : n0 ≤ h17.size := (Nat.le_trans (Nat.le_trans (Nat.le_trans (Nat.le_trans (Nat.le_trans (Nat.le_trans Z0 E7.1) K9.1) E11.1) K13.1) E15.1) K17.1)
      obtain ⟨cq62, kq62, q62a, q62b, q62c⟩ := isOf hZ e59 ((Exa.ext E15 ((Exa.ext E11 (A7.keep K9)).keep K13)).keep K17)
      obtain ⟨_, _, ⟨T62, L62, k62, n62⟩, -, X62, ⟨Lc62, hQ62, l62, y62, z62⟩, st62⟩ := X59.virtualBack hx (y := (⟨"com/example/dibs/dibs/namespace/RequestId", "hashCode", "()I"⟩ : MethodName)) (z := (⟨"com/example/dibs/dibs/namespace/RequestId", "hashCode", "()I"⟩ : MethodName)) hown (mvT hZ (hw _ (List.mem_of_getElem? (i := 18) rfl))) (mvT hZ (hw _ (List.mem_of_getElem? (i := 19) rfl))) (notFace_of_selects (args := #[]) (mvT hZ (hw _ (List.mem_of_getElem? (i := 21) rfl)))) (mvT hZ (hw _ (List.mem_of_getElem? (i := 21) rfl))) (mvT hZ (hw _ (List.mem_of_getElem? (i := 20) rfl))) (by decide) (backOf (W := 1) (own_reqhash l Z a0 hw [] b7 c1 n1 h17 n0 Zs63 ((Fld.ext E15 ((Fld.ext E11 P8_0).keep K13 (ninS (Nat.ne_of_lt (Nat.lt_of_lt_of_le (A7.keep K9).lt (Nat.le_of_eq g11.symm))) nin0))).keep K17 (ninS (Nat.ne_of_lt (Nat.lt_of_lt_of_le ((Exa.ext E11 (A7.keep K9)).keep K13).lt (Nat.le_of_eq g15.symm))) nin0)) ((Fld.ext E15 ((Fld.ext E11 P8_1).keep K13 (ninS (Nat.ne_of_lt (Nat.lt_of_lt_of_le (A7.keep K9).lt (Nat.le_of_eq g11.symm))) nin0))).keep K17 (ninS (Nat.ne_of_lt (Nat.lt_of_lt_of_le ((Exa.ext E11 (A7.keep K9)).keep K13).lt (Nat.le_of_eq g15.symm))) nin0))) hZ (hw _ (List.mem_of_getElem? (i := 22) rfl)) (hw _ (List.mem_of_getElem? (i := 7) rfl)) (by decide) (by decide)) q62a q62c (g := (mkF m 145 #[.val (.long x0), .second, .val (.long y0), .second, .val (.long z0), .second, .val (.long w0), .second, .val (.long c1), .second, .val (.long n1), .second, .val (.long c2), .second, .val (.long n2), .second, .val (.ref b7), .val (.ref b11), .val (.ref b15), .val (.int (own_rh c1 n1)), .val (.int (own_rh c1 n1)), .val (.int (own_rh c2 n2)), .val (.int (0 : Int32)), .val (.int (1 : Int32)), .val (.int (0 : Int32))] [(.ref b7), (.int (own_rh c1 n1))])) rfl (by rw [hml]; rfl) (Steps.refl _) (argsL := []) (rest := [(.int (own_rh c1 n1))]) (lenOf own_pd3 rfl) rfl (by show 2 * 0 + _ ≤ _; exact Nat.le_of_eq rfl) (hb hby at_145) (fun _ _ => ⟨rfl, e59, (by decide : 3 + 0 ≤ _), (by decide : 6 + 0 ≤ _)⟩)
      dsimp only [Pt.U, Pt.locs, Pt.cells, Pt.slots] at X62 l62 y62 z62 st62 hQ62
      subst l62 y62 z62
      obtain ⟨rfl, Nq62, e62⟩ := hQ62
      have N62 := Fr.app N59 Nq62
      refine own_fs st62 ?_
      show own_G p.tables e below _ (T62.setTop (mkF m 148 #[.val (.long x0), .second, .val (.long y0), .second, .val (.long z0), .second, .val (.long w0), .second, .val (.long c1), .second, .val (.long n1), .second, .val (.long c2), .second, .val (.long n2), .second, .val (.ref b7), .val (.ref b11), .val (.ref b15), .val (.int (own_rh c1 n1)), .val (.int (own_rh c1 n1)), .val (.int (own_rh c2 n2)), .val (.int (0 : Int32)), .val (.int (1 : Int32)), .val (.int (0 : Int32))] [(.int (own_rh c1 n1)), (.int (own_rh c1 n1))]))
      refine own_fs (XS.icmpNo X62.here hx rfl (hb hby at_148) rfl (XT.ii_ne_f (rfl : (own_rh c1 n1) = (own_rh c1 n1))) (Steps.refl _)) ?_
      show own_G p.tables e below _ (T62.setTop (mkF m 151 #[.val (.long x0), .second, .val (.long y0), .second, .val (.long z0), .second, .val (.long w0), .second, .val (.long c1), .second, .val (.long n1), .second, .val (.long c2), .second, .val (.long n2), .second, .val (.ref b7), .val (.ref b11), .val (.ref b15), .val (.int (own_rh c1 n1)), .val (.int (own_rh c1 n1)), .val (.int (own_rh c2 n2)), .val (.int (0 : Int32)), .val (.int (1 : Int32)), .val (.int (0 : Int32))] []))
      refine own_fs (XS.iload X62.here hx rfl (hb hby at_151) rfl (Steps.refl _)) ?_
      show own_G p.tables e below _ (T62.setTop (mkF m 153 #[.val (.long x0), .second, .val (.long y0), .second, .val (.long z0), .second, .val (.long w0), .second, .val (.long c1), .second, .val (.long n1), .second, .val (.long c2), .second, .val (.long n2), .second, .val (.ref b7), .val (.ref b11), .val (.ref b15), .val (.int (own_rh c1 n1)), .val (.int (own_rh c1 n1)), .val (.int (own_rh c2 n2)), .val (.int (0 : Int32)), .val (.int (1 : Int32)), .val (.int (0 : Int32))] [(.int (0 : Int32))]))
      refine own_fs (XS.iload X62.here hx rfl (hb hby at_153) rfl (Steps.refl _)) ?_
      show own_G p.tables e below _ (T62.setTop (mkF m 155 #[.val (.long x0), .second, .val (.long y0), .second, .val (.long z0), .second, .val (.long w0), .second, .val (.long c1), .second, .val (.long n1), .second, .val (.long c2), .second, .val (.long n2), .second, .val (.ref b7), .val (.ref b11), .val (.ref b15), .val (.int (own_rh c1 n1)), .val (.int (own_rh c1 n1)), .val (.int (own_rh c2 n2)), .val (.int (0 : Int32)), .val (.int (1 : Int32)), .val (.int (0 : Int32))] [(.int (0 : Int32)), (.int (0 : Int32))]))
      refine own_fs (XS.icmpNo X62.here hx rfl (hb hby at_155) rfl (XT.ii_ne_f (by decide : (0 : Int32) = (0 : Int32))) (Steps.refl _)) ?_
      show own_G p.tables e below _ (T62.setTop (mkF m 158 #[.val (.long x0), .second, .val (.long y0), .second, .val (.long z0), .second, .val (.long w0), .second, .val (.long c1), .second, .val (.long n1), .second, .val (.long c2), .second, .val (.long n2), .second, .val (.ref b7), .val (.ref b11), .val (.ref b15), .val (.int (own_rh c1 n1)), .val (.int (own_rh c1 n1)), .val (.int (own_rh c2 n2)), .val (.int (0 : Int32)), .val (.int (1 : Int32)), .val (.int (0 : Int32))] []))
      refine own_fs (XS.iload X62.here hx rfl (hb hby at_158) rfl (Steps.refl _)) ?_
      show own_G p.tables e below _ (T62.setTop (mkF m 160 #[.val (.long x0), .second, .val (.long y0), .second, .val (.long z0), .second, .val (.long w0), .second, .val (.long c1), .second, .val (.long n1), .second, .val (.long c2), .second, .val (.long n2), .second, .val (.ref b7), .val (.ref b11), .val (.ref b15), .val (.int (own_rh c1 n1)), .val (.int (own_rh c1 n1)), .val (.int (own_rh c2 n2)), .val (.int (0 : Int32)), .val (.int (1 : Int32)), .val (.int (0 : Int32))] [(.int (0 : Int32))]))
      refine own_fs (XS.ifYes X62.here hx rfl (pc0 := 160) (pc' := 170) rfl (hb hby at_160) rfl (XT.i0_eq_t (by decide : (0 : Int32) = (0 : Int32))) (by decide) (by decide) (Steps.refl _)) ?_
      show own_G p.tables e below _ (T62.setTop (mkF m 170 #[.val (.long x0), .second, .val (.long y0), .second, .val (.long z0), .second, .val (.long w0), .second, .val (.long c1), .second, .val (.long n1), .second, .val (.long c2), .second, .val (.long n2), .second, .val (.ref b7), .val (.ref b11), .val (.ref b15), .val (.int (own_rh c1 n1)), .val (.int (own_rh c1 n1)), .val (.int (own_rh c2 n2)), .val (.int (0 : Int32)), .val (.int (1 : Int32)), .val (.int (0 : Int32))] []))
      refine own_fs (XS.iconst X62.here hx rfl (hb hby at_170) (Steps.refl _)) ?_
      show own_G p.tables e below _ (T62.setTop (mkF m 171 #[.val (.long x0), .second, .val (.long y0), .second, .val (.long z0), .second, .val (.long w0), .second, .val (.long c1), .second, .val (.long n1), .second, .val (.long c2), .second, .val (.long n2), .second, .val (.ref b7), .val (.ref b11), .val (.ref b15), .val (.int (own_rh c1 n1)), .val (.int (own_rh c1 n1)), .val (.int (own_rh c2 n2)), .val (.int (0 : Int32)), .val (.int (1 : Int32)), .val (.int (0 : Int32))] [(.int (1 : Int32))]))
      refine own_fs (XS.goto X62.here hx rfl (pc0 := 171) (pc' := 175) rfl (hb hby at_171) (by decide) (by decide) (Steps.refl _)) ?_
      show own_G p.tables e below _ (T62.setTop (mkF m 175 #[.val (.long x0), .second, .val (.long y0), .second, .val (.long z0), .second, .val (.long w0), .second, .val (.long c1), .second, .val (.long n1), .second, .val (.long c2), .second, .val (.long n2), .second, .val (.ref b7), .val (.ref b11), .val (.ref b15), .val (.int (own_rh c1 n1)), .val (.int (own_rh c1 n1)), .val (.int (own_rh c2 n2)), .val (.int (0 : Int32)), .val (.int (1 : Int32)), .val (.int (0 : Int32))] [(.int (1 : Int32))]))
      exact own_retN X62 hx (t := .boolean) Bd.returns hlk (by simp) (hb hby at_175) (by decide) (by decide) e62 ⟨rfl, N62⟩
set_option maxRecDepth 65536 in
set_option maxHeartbeats 40000000 in
theorem comes_1 {Post : Tables → Env → Array Value → State → Outcome → State → Prop} (hpost : ∀ tb e args s v u, (limb_1_1.after args s (.returned v) u = true ∧ limb_1_2.after args s (.returned v) u = true ∧ True) → FrameEnd s (.returned v) u (Jvm.fieldLocs frame_1_writes args s ++ Jvm.arrayLocs frame_1_arrays args s ++ Jvm.staticLocs frame_1_statics s) 16 128 → Post tb e args s (.returned v) u) :
    ArmFor flags0 classFile x code maxLocals ret World_1 tables_1 room_1 Calls_1 rest_1 Pre_1 Post := by
  intro l hfl _ _ p e ha hc hk s m args below hf hA hF happ hP
  obtain ⟨hcalls, hrest, hpre⟩ := hP
  obtain ⟨-, -, -, hnamed, -, -, -, hat⟩ := (Spec.applies_iff hf).mp happ
  obtain ⟨hg, hn⟩ := and_e (Cond.before_iff.mp (show (Jvm.Cond.and given_1 narrow_1).before args s = true from hpre))
  obtain ⟨hcount, hg0⟩ := and_e hg
  obtain ⟨ga0, hg1⟩ := and_e hg0
  obtain ⟨ga1, hg2⟩ := and_e hg1
  obtain ⟨ga2, hg3⟩ := and_e hg2
  obtain ⟨w0, w1, w2, w3, rfl⟩ : ∃ w0 w1 w2 w3 : Value, args = #[w0, w1, w2, w3] := by
    have hs : args.size = 4 := by simpa [Cond.value, given_1] using hcount
    obtain ⟨L⟩ := args
    match L, hs with
    | [w0, w1, w2, w3], _ => exact ⟨w0, w1, w2, w3, rfl⟩
  have hw := fun d (hd : d ∈ tables_1) => atoms_spec (ws := Jvm.Cond.code x code maxLocals ret :: tables_1) hat d (List.mem_cons_of_mem _ hd)
  have hfit : Fit s := fun {y c} hc i hi => by
    obtain ⟨ha, rfl⟩ := Array.getElem?_eq_some_iff.mp hc
    have q := List.all_eq_true.mp ((Array.all_eq_true_iff_forall_mem.mp hF) _ (Array.getElem_mem ha)) i (List.mem_range.mpr hi)
    simpa [Array.getElem?_eq_getElem hi] using q
  obtain ⟨i0, ei0⟩ := isL_v ga0
  obtain rfl : w0 = (.long i0) := Option.some.inj ei0
  obtain ⟨i1, ei1⟩ := isL_v ga1
  obtain rfl : w1 = (.long i1) := Option.some.inj ei1
  obtain ⟨i2, ei2⟩ := isL_v ga2
  obtain rfl : w2 = (.long i2) := Option.some.inj ei2
  obtain ⟨i3, ei3⟩ := isL_v hg3
  obtain rfl : w3 = (.long i3) := Option.some.inj ei3
  obtain ⟨n, o, h1, h2, h3, _, L, rfl, ⟨rfl, N⟩, hq⟩ := own_law l s _ hw tables_1 i0 i1 i2 i3  s.heap s.heap.size (Nat.le_refl _)  p e ha hc hk s m _ below hf ((Spec.applies_iff_loose hf).mp happ).1 ⟨rfl, State.Warmed39.refl s, rfl⟩ trivial
  refine ⟨n, _, h1, h2, h3, hpost _ _ _ _ _ _ ⟨Cond.after_iff.mpr rfl, Cond.after_iff.mpr (eq_i res_at (Term.int_eval (1)) rfl), trivial⟩ ⟨hq.1, hq.2.1, (hq.2.2.sift fun y hy => Or.inr (N y hy)).mono (by decide) (by decide)⟩⟩
theorem main_1_1 : Claimed_1_1 := comes_1 fun _ _ _ _ _ _ h hF => ⟨h.1, hF⟩
theorem main_1_2 : Claimed_1_2 := comes_1 fun _ _ _ _ _ _ h hF => ⟨h.2.1, hF⟩
end Jvm.Pilot.@@N@@
namespace Jvm.Pilot.@@N@@
open Jvm Jvm.ClassFile Sem Op Lib Jvm.Free Jvm.Stand Jvm.Pilot.@@N@@.Jvm.D
/-! MADE BY PROGRAM (witnessworld.py) out of the Statement's table words and the real class files: 12 classes; the members and pool entries that the words name. The judged class is class 1, her method 2. -/
namespace start1
open Jvm.ClassFile
def u (s : String) : CpInfo := .utf8 (stringToUtf16 s)
/-- a pool by its gaps: so many unusable entries, then the entry; so many at the end -/
def gap : Nat → List CpInfo → List CpInfo
  | 0, r => r
  | n + 1, r => .unusable :: gap n r
def poolList (es : List (Nat × CpInfo)) (last : Nat) : List CpInfo := es.foldr (fun e r => gap e.1 (e.2 :: r)) (gap last [])
def pool (es : List (Nat × CpInfo)) (last : Nat) : Array CpInfo := ⟨poolList es last⟩
def fileOf (pool : Array CpInfo) (this : Nat) (attrs : Array Attribute := #[]) (ms : Array MethodInfo := #[]) (fl : Nat := 33) (sup : Nat := 0) (ifs : Array Nat := #[]) (fds : Array FieldInfo := #[]) : ClassFile where
  minorVersion := 0
  majorVersion := 65
  constantPool := pool
  accessFlags := fl
  thisClass := this
  superClass := sup
  interfaces := ifs
  fields := fds
  methods := ms
  attributes := attrs
def plain (name : String) (sup : Option ClassId) : Class where
  name := name
  kind := .ordinary
  loader := none
  accessFlags := 33
  super := sup
  interfaces := #[]
  cf := none
  fields := #[]
  methods := #[]
  instanceTypes := #[]
  staticTypes := #[]
  resolved := #[]
  callSites := []
  init := .initialized
  statics := none
  mirror := none

def pool0 : Array CpInfo := pool [(5, u "<init>"), (0, u "()V"), (1, .class_ 10), (1, u "java/lang/Object")] 113

def k0c0 : Code := { maxStack := 0, maxLocals := 1, code := object_method_1_code, exceptionTable := #[], attributes := #[] }
def k0m0 : Method := { name := "<init>", desc := "()V", sig := { parameters := [], returnType := none }, accessFlags := 1, code := some k0c0 }
/-- java/lang/Object -/
def k0 : Class := { plain "java/lang/Object" none with
  accessFlags := 33
  interfaces := #[]
  cf := some (fileOf pool0 8 #[] #[{ accessFlags := 1, nameIndex := 5, descriptorIndex := 6, attributes := #[] }] 33 0 #[] #[])
  fields := #[]
  methods := #[k0m0]
  instanceTypes := #[]
  staticTypes := #[]
  resolved := Array.replicate 124 none
  statics := none }

def pool1 : Array CpInfo := pool [(2, .class_ 4), (1, u "java/lang/Object"), (0, u "<init>"), (0, u "()V"), (2, .long 9223372036854775807), (1, .methodref 12 13), (0, .class_ 14), (0, .nameAndType 15 16), (0, u "com/example/dibs/dibs/namespace/RequestIdHashCodePinLaw"), (0, u "client"), (0, u "(J)J"), (0, .class_ 18), (0, u "com/example/dibs/dibs/namespace/RequestId"), (0, .methodref 17 20), (0, .nameAndType 5 21), (0, u "(JJ)V"), (0, .methodref 17 23), (0, .nameAndType 24 25), (0, u "hashCode"), (0, u "()I"), (0, .methodref 17 27), (0, .nameAndType 28 29), (0, u "equals"), (0, u "(Ljava/lang/Object;)Z"), (3, u "law"), (0, u "(JJJJ)Z")] 2

def k1m0 : Method := { name := "<init>", desc := "()V", sig := { parameters := [], returnType := none }, accessFlags := 2, code := none }
def k1c1 : Code := { maxStack := 4, maxLocals := 4, code := method_2_code, exceptionTable := #[], attributes := #[] }
def k1m1 : Method := { name := "client", desc := "(J)J", sig := { parameters := [.long], returnType := some .long }, accessFlags := 10, code := some k1c1 }
def k1c2 : Code := { maxStack := 6, maxLocals := 25, code := code, exceptionTable := #[], attributes := #[] }
def k1m2 : Method := { name := "law", desc := "(JJJJ)Z", sig := { parameters := [.long, .long, .long, .long], returnType := some .boolean }, accessFlags := 9, code := some k1c2 }
/-- com/example/dibs/dibs/namespace/RequestIdHashCodePinLaw -/
def k1 : Class := { plain "com/example/dibs/dibs/namespace/RequestIdHashCodePinLaw" (some 0) with
  accessFlags := 49
  interfaces := #[]
  cf := some (fileOf pool1 12 #[] #[{ accessFlags := 2, nameIndex := 5, descriptorIndex := 6, attributes := #[] }, { accessFlags := 10, nameIndex := 15, descriptorIndex := 16, attributes := #[] }, { accessFlags := 9, nameIndex := 33, descriptorIndex := 34, attributes := #[] }] 49 2 #[] #[])
  fields := #[]
  methods := #[k1m0, k1m1, k1m2]
  instanceTypes := #[]
  staticTypes := #[]
  resolved := Array.replicate 37 none
  statics := none }

def pool2 : Array CpInfo := pool [(1, .methodref 2 3), (0, .class_ 4), (0, .nameAndType 5 6), (0, u "java/lang/Object"), (0, u "<init>"), (0, u "()V"), (9, .fieldref 17 18), (0, .class_ 19), (0, .nameAndType 20 21), (0, u "com/example/dibs/dibs/namespace/RequestId"), (0, u "client"), (0, u "J"), (0, .fieldref 17 23), (0, .nameAndType 24 21), (0, u "number"), (2, u "FORM"), (0, u "Ljava/util/regex/Pattern;"), (17, .class_ 48), (1, u "java/lang/Long"), (4, u "(JJ)V"), (16, .methodref 46 71), (0, .nameAndType 72 73), (0, u "hashCode"), (0, u "(J)I"), (16, u "equals"), (0, u "(Ljava/lang/Object;)Z"), (0, u "()I")] 25

def k2c0 : Code := { maxStack := 6, maxLocals := 5, code := prog_44_method_1_code, exceptionTable := #[], attributes := #[] }
def k2m0 : Method := { name := "<init>", desc := "(JJ)V", sig := { parameters := [.long, .long], returnType := none }, accessFlags := 1, code := some k2c0 }
def k2c1 : Code := { maxStack := 4, maxLocals := 2, code := prog_44_method_5_code, exceptionTable := #[], attributes := #[] }
def k2m1 : Method := { name := "equals", desc := "(Ljava/lang/Object;)Z", sig := { parameters := [(.object "java/lang/Object")], returnType := some .boolean }, accessFlags := 1, code := some k2c1 }
def k2c2 : Code := { maxStack := 3, maxLocals := 1, code := prog_44_method_6_code, exceptionTable := #[], attributes := #[] }
def k2m2 : Method := { name := "hashCode", desc := "()I", sig := { parameters := [], returnType := some .int }, accessFlags := 1, code := some k2c2 }
/-- com/example/dibs/dibs/namespace/RequestId -/
def k2 : Class := { plain "com/example/dibs/dibs/namespace/RequestId" (some 0) with
  accessFlags := 49
  interfaces := #[]
  cf := some (fileOf pool2 17 #[] #[{ accessFlags := 1, nameIndex := 5, descriptorIndex := 53, attributes := #[] }, { accessFlags := 1, nameIndex := 90, descriptorIndex := 91, attributes := #[] }, { accessFlags := 1, nameIndex := 72, descriptorIndex := 92, attributes := #[] }] 49 2 #[] #[{ accessFlags := 26, nameIndex := 27, descriptorIndex := 28, attributes := #[] }, { accessFlags := 18, nameIndex := 20, descriptorIndex := 21, attributes := #[] }, { accessFlags := 18, nameIndex := 24, descriptorIndex := 21, attributes := #[] }])
  fields := #[{ name := "FORM", type := (.object "java/util/regex/Pattern"), accessFlags := 26, slot := 0, constantValue := 0 }, { name := "client", type := .long, accessFlags := 18, slot := 0, constantValue := 0 }, { name := "number", type := .long, accessFlags := 18, slot := 1, constantValue := 0 }]
  methods := #[k2m0, k2m1, k2m2]
  instanceTypes := #[.long, .long]
  staticTypes := #[(.object "java/util/regex/Pattern")]
  resolved := Array.replicate 118 none
  statics := none }

def pool3 : Array CpInfo := pool [(1, .class_ 2), (0, u "java/io/Serializable"), (0, .class_ 4), (0, u "java/lang/Object")] 2

/-- java/io/Serializable -/
def k3 : Class := { plain "java/io/Serializable" (some 0) with
  accessFlags := 1537
  interfaces := #[]
  cf := some (fileOf pool3 1 #[] #[] 1537 3 #[] #[])
  fields := #[]
  methods := #[]
  instanceTypes := #[]
  staticTypes := #[]
  resolved := Array.replicate 7 none
  statics := none }

def pool4 : Array CpInfo := pool [(2, .class_ 4), (1, u "java/lang/Object"), (0, u "<init>"), (0, u "()V"), (1, .class_ 10), (1, u "java/lang/Number"), (2, .class_ 14), (0, u "java/io/Serializable"), (0, u "serialVersionUID"), (0, u "J")] 20

def k4m0 : Method := { name := "<init>", desc := "()V", sig := { parameters := [], returnType := none }, accessFlags := 1, code := none }
/-- java/lang/Number -/
def k4 : Class := { plain "java/lang/Number" (some 0) with
  accessFlags := 1057
  interfaces := #[3]
  cf := some (fileOf pool4 8 #[] #[{ accessFlags := 1, nameIndex := 5, descriptorIndex := 6, attributes := #[] }] 1057 2 #[13] #[{ accessFlags := 26, nameIndex := 15, descriptorIndex := 16, attributes := #[] }])
  fields := #[{ name := "serialVersionUID", type := .long, accessFlags := 26, slot := 0, constantValue := 0 }]
  methods := #[k4m0]
  instanceTypes := #[]
  staticTypes := #[.long]
  resolved := Array.replicate 37 none
  statics := none }

def pool5 : Array CpInfo := pool [(1, .class_ 2), (0, u "java/lang/Comparable"), (0, .class_ 4), (0, u "java/lang/Object")] 7

/-- java/lang/Comparable -/
def k5 : Class := { plain "java/lang/Comparable" (some 0) with
  accessFlags := 1537
  interfaces := #[]
  cf := some (fileOf pool5 1 #[] #[] 1537 3 #[] #[])
  fields := #[]
  methods := #[]
  instanceTypes := #[]
  staticTypes := #[]
  resolved := Array.replicate 12 none
  statics := none }

def pool6 : Array CpInfo := pool [(1, .class_ 2), (0, u "java/lang/constant/Constable"), (0, .class_ 4), (0, u "java/lang/Object")] 6

/-- java/lang/constant/Constable -/
def k6 : Class := { plain "java/lang/constant/Constable" (some 0) with
  accessFlags := 1537
  interfaces := #[]
  cf := some (fileOf pool6 1 #[] #[] 1537 3 #[] #[])
  fields := #[]
  methods := #[]
  instanceTypes := #[]
  staticTypes := #[]
  resolved := Array.replicate 11 none
  statics := none }

def pool7 : Array CpInfo := pool [(1, .class_ 2), (0, u "java/lang/constant/ConstantDesc"), (0, .class_ 4), (0, u "java/lang/Object")] 32

/-- java/lang/constant/ConstantDesc -/
def k7 : Class := { plain "java/lang/constant/ConstantDesc" (some 0) with
  accessFlags := 1537
  interfaces := #[]
  cf := some (fileOf pool7 1 #[] #[] 1537 3 #[] #[])
  fields := #[]
  methods := #[]
  instanceTypes := #[]
  staticTypes := #[]
  resolved := Array.replicate 37 none
  statics := none }

def pool8 : Array CpInfo := pool [(1, .class_ 2), (0, u "java/lang/Long"), (98, u "(J)I"), (133, .class_ 237), (1, u "java/lang/Long$LongCache"), (33, .class_ 272), (0, u "java/lang/Number"), (2, u "value"), (0, u "J"), (2, u "hashCode"), (81, u "TYPE"), (0, u "Ljava/lang/Class;"), (0, .class_ 364), (0, u "java/lang/Comparable"), (0, .class_ 366), (0, u "java/lang/constant/Constable"), (0, .class_ 368), (0, u "java/lang/constant/ConstantDesc"), (0, u "MIN_VALUE"), (1, u "MAX_VALUE"), (4, u "SIZE"), (0, u "I"), (1, u "BYTES"), (1, u "serialVersionUID")] 142

def k8c0 : Code := { maxStack := 5, maxLocals := 2, code := jdk_35_method_36_code, exceptionTable := #[], attributes := #[] }
def k8m0 : Method := { name := "hashCode", desc := "(J)I", sig := { parameters := [.long], returnType := some .int }, accessFlags := 9, code := some k8c0 }
/-- java/lang/Long -/
def k8 : Class := { plain "java/lang/Long" (some 4) with
  accessFlags := 49
  interfaces := #[5, 6, 7]
  cf := some (fileOf pool8 1 #[.nestMembers #[235]] #[{ accessFlags := 9, nameIndex := 279, descriptorIndex := 101, attributes := #[] }] 49 271 #[363, 365, 367] #[{ accessFlags := 25, nameIndex := 369, descriptorIndex := 276, attributes := #[] }, { accessFlags := 25, nameIndex := 371, descriptorIndex := 276, attributes := #[] }, { accessFlags := 25, nameIndex := 361, descriptorIndex := 362, attributes := #[] }, { accessFlags := 18, nameIndex := 275, descriptorIndex := 276, attributes := #[] }, { accessFlags := 25, nameIndex := 376, descriptorIndex := 377, attributes := #[] }, { accessFlags := 25, nameIndex := 379, descriptorIndex := 377, attributes := #[] }, { accessFlags := 26, nameIndex := 381, descriptorIndex := 276, attributes := #[] }])
  fields := #[{ name := "MIN_VALUE", type := .long, accessFlags := 25, slot := 0, constantValue := 0 }, { name := "MAX_VALUE", type := .long, accessFlags := 25, slot := 1, constantValue := 0 }, { name := "TYPE", type := (.object "java/lang/Class"), accessFlags := 25, slot := 2, constantValue := 0 }, { name := "value", type := .long, accessFlags := 18, slot := 0, constantValue := 0 }, { name := "SIZE", type := .int, accessFlags := 25, slot := 3, constantValue := 0 }, { name := "BYTES", type := .int, accessFlags := 25, slot := 4, constantValue := 0 }, { name := "serialVersionUID", type := .long, accessFlags := 26, slot := 5, constantValue := 0 }]
  methods := #[k8m0]
  instanceTypes := #[.long]
  staticTypes := #[.long, .long, (.object "java/lang/Class"), .int, .int, .long]
  resolved := Array.replicate 524 none
  statics := none }

def pool9 : Array CpInfo := pool [(1, u "java/lang/Cloneable"), (0, .class_ 1), (0, u "java/lang/Object"), (0, .class_ 3)] 3

/-- java/lang/Cloneable -/
def k9 : Class := { plain "java/lang/Cloneable" (some 0) with
  accessFlags := 1537
  interfaces := #[]
  cf := some (fileOf pool9 2 #[] #[] 1537 4 #[] #[])
  fields := #[]
  methods := #[]
  instanceTypes := #[]
  staticTypes := #[]
  resolved := Array.replicate 8 none
  statics := none }

/-- the primitive byte -/
def k10 : Class := { plain "byte" none with kind := .primitive 'B', accessFlags := 0x411 }
/-- [B -/
def k11 : Class := { plain "[B" (some 0) with kind := .array 10 .byte, interfaces := #[9, 3], accessFlags := 1041 }

def heap : Heap := #[]
def classes : Array Class := #[k0, k1, k2, k3, k4, k5, k6, k7, k8, k9, k10, k11]
def interned : List (Array UInt16 × Addr) := []
def slotsUsed : Nat := 0
def theMethod : MethodId := ⟨1, 2⟩
def args0 : Array Value := #[.long 5, .long 6, .long 7, .long 8]
def aboutOver (below : List Frame) : State where
  vm := { classes := classes, interned := interned.toArray }
  heap := heap
  slotsUsed := slotsUsed
  threads := #[{ frames := .invoking theMethod args0 :: below }]
def below0 : List Frame := [.native { method := ⟨0, 0⟩, args := #[] }]
def about1 : State := aboutOver below0
def p0 : Program := .bare "" "" ""
def e0 : Env := launch0.env 0 0 0
theorem w_frames : about1.frames = Frame.invoking theMethod args0 :: below0 := rfl
set_option maxRecDepth 65536 in
theorem w_args : argsFit about1.vm theMethod args0 = true := by decide +kernel
set_option maxRecDepth 65536 in
theorem w_heap : heapFits about1 = true := by decide +kernel
set_option maxRecDepth 65536 in
theorem w_runnable : about1.curStatus? = some .runnable := by decide +kernel
set_option maxRecDepth 65536 in
theorem w_alone : about1.alone = true := by decide +kernel
set_option maxRecDepth 65536 in
theorem w_named : about1.methodNamed? x = some theMethod := by decide +kernel
set_option maxRecDepth 65536 in
theorem w_hears : about1.hears theMethod below0 = true := by decide +kernel
set_option maxRecDepth 65536 in
theorem w_ripe : about1.ripe theMethod args0 below0 = true := by decide +kernel
theorem w_running : about1.status = .running := rfl
set_option maxRecDepth 65536 in
theorem w_room : about1.hasRoom e0.platform room_1 = true :=
  launch0.hasRoom_least _ room_1 (by decide +kernel) (by decide +kernel) (by decide +kernel) (by decide +kernel) (by decide +kernel) (by decide +kernel)
theorem allAtoms_all (ts : List Jvm.Cond) (a : Array Jvm.Value) (st : Jvm.State) : (allAtoms ts).before a st = ts.all (fun c => c.before a st) := by
  induction ts with
  | nil => rfl
  | cons c t ih =>
    show (Jvm.Cond.and c (allAtoms t)).before a st = _
    rw [Jvm.Cond.before_and, ih, List.all_cons]
def words1 : List Jvm.Cond := Jvm.Cond.code x code maxLocals ret :: tables_1
/-- a 'code' word, met by the world's own term for the bytes: nothing is compared byte by byte -/
theorem code_word {y : MethodName} {bytes : ByteArray} {mx : Nat} {rt : Option FieldType} {a : Array Value} {s : State} {m : MethodId} {meth : Method} {c : Code} (h1 : s.methodNamed? y = some m) (h2 : s.vm.method? m = some meth) (h3 : meth.code = some c) (h4 : c.code = bytes)
    (h5 : (c.maxLocals == mx && c.exceptionTable.isEmpty && decide (c.maxStack ≤ mostOperands) && decide (meth.sig.returnType = rt) && !meth.locks && decide (parseMethodDescriptor y.desc = some meth.sig)) = true) : (Jvm.Cond.code y bytes mx rt).before a s = true := by
  simp only [Bool.and_eq_true, beq_iff_eq, Bool.not_eq_true', decide_eq_true_eq] at h5
  obtain ⟨⟨⟨⟨⟨g1, g2⟩, g3⟩, g4⟩, g5⟩, g6⟩ := h5
  simp [Cond.before, Cond.holds, Cond.value, h1, h2, h3, h4, g1, g2, g3, g4, g5, g6]
def isCode : Jvm.Cond → Bool
  | .code _ _ _ _ => true
  | _ => false
theorem all_split {L : List Jvm.Cond} {P : Jvm.Cond → Bool} (h1 : L.all (fun c => isCode c || P c) = true) (h2 : ∀ c ∈ L.filter isCode, P c = true) : L.all P = true := by
  refine List.all_eq_true.mpr fun c hc => ?_
  have h := List.all_eq_true.mp h1 c hc
  rcases Bool.eq_false_or_eq_true (isCode c) with hi | hi
  · exact h2 c (List.mem_filter.mpr ⟨hc, hi⟩)
  · simpa [hi] using h
set_option maxRecDepth 65536 in
theorem w_c0 : (Jvm.Cond.code x code maxLocals ret).before args0 about1 = true := code_word (m := ⟨1, 2⟩) (meth := k1m2) (c := k1c2) (by decide +kernel) rfl rfl rfl (by decide +kernel)
set_option maxRecDepth 65536 in
theorem w_c1 : (Jvm.Cond.code ({ cls := "com/example/dibs/dibs/namespace/RequestIdHashCodePinLaw", name := "client", desc := "(J)J" } : Jvm.MethodName) method_2_code (4 : Nat) (Option.some Jvm.ClassFile.FieldType.long)).before args0 about1 = true := code_word (m := ⟨1, 1⟩) (meth := k1m1) (c := k1c1) (by decide +kernel) rfl rfl rfl (by decide +kernel)
set_option maxRecDepth 65536 in
theorem w_c2 : (Jvm.Cond.code ({ cls := "com/example/dibs/dibs/namespace/RequestId", name := "<init>", desc := "(JJ)V" } : Jvm.MethodName) prog_44_method_1_code (5 : Nat) (Option.none : Option Jvm.ClassFile.FieldType)).before args0 about1 = true := code_word (m := ⟨2, 0⟩) (meth := k2m0) (c := k2c0) (by decide +kernel) rfl rfl rfl (by decide +kernel)
set_option maxRecDepth 65536 in
theorem w_c3 : (Jvm.Cond.code ({ cls := "java/lang/Object", name := "<init>", desc := "()V" } : Jvm.MethodName) object_method_1_code (1 : Nat) (Option.none : Option Jvm.ClassFile.FieldType)).before args0 about1 = true := code_word (m := ⟨0, 0⟩) (meth := k0m0) (c := k0c0) (by decide +kernel) rfl rfl rfl (by decide +kernel)
set_option maxRecDepth 65536 in
theorem w_c4 : (Jvm.Cond.code ({ cls := "com/example/dibs/dibs/namespace/RequestId", name := "hashCode", desc := "()I" } : Jvm.MethodName) prog_44_method_6_code (1 : Nat) (Option.some Jvm.ClassFile.FieldType.int)).before args0 about1 = true := code_word (m := ⟨2, 2⟩) (meth := k2m2) (c := k2c2) (by decide +kernel) rfl rfl rfl (by decide +kernel)
set_option maxRecDepth 65536 in
theorem w_c5 : (Jvm.Cond.code ({ cls := "java/lang/Long", name := "hashCode", desc := "(J)I" } : Jvm.MethodName) jdk_35_method_36_code (2 : Nat) (Option.some Jvm.ClassFile.FieldType.int)).before args0 about1 = true := code_word (m := ⟨8, 0⟩) (meth := k8m0) (c := k8c0) (by decide +kernel) rfl rfl rfl (by decide +kernel)
set_option maxRecDepth 65536 in
theorem w_c6 : (Jvm.Cond.code ({ cls := "com/example/dibs/dibs/namespace/RequestId", name := "equals", desc := "(Ljava/lang/Object;)Z" } : Jvm.MethodName) prog_44_method_5_code (2 : Nat) (Option.some Jvm.ClassFile.FieldType.boolean)).before args0 about1 = true := code_word (m := ⟨2, 1⟩) (meth := k2m1) (c := k2c1) (by decide +kernel) rfl rfl rfl (by decide +kernel)
def codes1 : List Jvm.Cond := [Jvm.Cond.code x code maxLocals ret, Jvm.Cond.code ({ cls := "com/example/dibs/dibs/namespace/RequestIdHashCodePinLaw", name := "client", desc := "(J)J" } : Jvm.MethodName) method_2_code (4 : Nat) (Option.some Jvm.ClassFile.FieldType.long), Jvm.Cond.code ({ cls := "com/example/dibs/dibs/namespace/RequestId", name := "<init>", desc := "(JJ)V" } : Jvm.MethodName) prog_44_method_1_code (5 : Nat) (Option.none : Option Jvm.ClassFile.FieldType), Jvm.Cond.code ({ cls := "java/lang/Object", name := "<init>", desc := "()V" } : Jvm.MethodName) object_method_1_code (1 : Nat) (Option.none : Option Jvm.ClassFile.FieldType), Jvm.Cond.code ({ cls := "com/example/dibs/dibs/namespace/RequestId", name := "hashCode", desc := "()I" } : Jvm.MethodName) prog_44_method_6_code (1 : Nat) (Option.some Jvm.ClassFile.FieldType.int), Jvm.Cond.code ({ cls := "java/lang/Long", name := "hashCode", desc := "(J)I" } : Jvm.MethodName) jdk_35_method_36_code (2 : Nat) (Option.some Jvm.ClassFile.FieldType.int), Jvm.Cond.code ({ cls := "com/example/dibs/dibs/namespace/RequestId", name := "equals", desc := "(Ljava/lang/Object;)Z" } : Jvm.MethodName) prog_44_method_5_code (2 : Nat) (Option.some Jvm.ClassFile.FieldType.boolean)]
set_option maxRecDepth 65536 in
theorem codes_eq : words1.filter isCode = codes1 := rfl
theorem w_codes : ∀ c ∈ words1.filter isCode, c.before args0 about1 = true := by
  rw [codes_eq]
  intro c hc
  simp only [codes1, List.mem_cons, List.not_mem_nil, or_false] at hc
  rcases hc with rfl | rfl | rfl | rfl | rfl | rfl | rfl
  · exact w_c0
  · exact w_c1
  · exact w_c2
  · exact w_c3
  · exact w_c4
  · exact w_c5
  · exact w_c6
set_option maxRecDepth 65536 in
theorem w_t1 : (words1.take 24).all (fun c => isCode c || c.before args0 about1) = true := by decide +kernel
set_option maxRecDepth 65536 in
theorem w_t2 : (words1.drop 24).all (fun c => isCode c || c.before args0 about1) = true := by decide +kernel
theorem w_tables : (allAtoms (Jvm.Cond.code x code maxLocals ret :: tables_1)).before args0 about1 = true := by
  rw [allAtoms_all]
  show words1.all (fun c => c.before args0 about1) = true
  refine all_split ?_ w_codes
  rw [← List.take_append_drop 24 words1, List.all_append, w_t1, w_t2]
  rfl
set_option maxRecDepth 65536 in
theorem w_case : (Jvm.Cond.and given_1 narrow_1).before args0 about1 = true := by decide +kernel
theorem w_applies : (headSpec (Jvm.Cond.code x code maxLocals ret :: tables_1) room_1).applies x e0.platform about1 = true :=
  (Spec.applies_iff w_frames).mpr ⟨w_running, w_runnable, w_alone, w_named, w_hears, w_ripe, w_room, w_tables⟩
theorem atStart : AtStart classFile x code maxLocals ret World_1 tables_1 room_1 Calls_1 rest_1 Pre_1 launch0 p0 e0 about1 theMethod args0 below0 :=
  ⟨lists_1, trivial, launch0.admits_env _ _ _, launch0.least_env, fairChoices_fair.cas, fairChoices_fair.clock, w_frames, w_args, w_heap, w_applies, trivial, trivial, w_case⟩
end start1
theorem witness_1 : WitnessClaimed_1 := ⟨start1.p0, start1.e0, start1.about1, start1.theMethod, start1.args0, start1.below0, start1.atStart⟩
end Jvm.Pilot.@@N@@
