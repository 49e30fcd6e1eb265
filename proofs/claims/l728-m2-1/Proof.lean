import JvmDerived
import JvmDerived.Pilot.@@N@@Statement
import JvmDerived.Pilot.@@N@@Code
set_option linter.unusedVariables false
set_option linter.unusedSimpArgs false
namespace Jvm.RoadKit
open Sem ClassFile Op Lib Jvm.Stand Jvm.Free Jvm.LawKit
section New
variable {p : Program} {l : Launch} {e : Env} {R : Room} {s : State} {m : MethodId} {args : Array Value} {below : List Frame} {meth : Method} {c : Code} {T : State} {locs : List Loc} {cells slots : Nat}
theorem retI (X : Stand p l e R s m args below meth c T locs cells slots) (hx : p.tables.exec = Jvm.exec) {pc : Nat} {Ls : Array Slot} {z : Int32} {rest : List Value} (hret : meth.sig.returnType = some .int) (hd : decode c.code pc = .ok (.ireturn, 1)) {fs : List Frame}
    (hl : ∀ (f : JFrame) (acts : List Action), f.method = m → f.locked = none → f.entered = [] → (doReturn e (T.setTop f) acts (some (.int z))).1 = T.setFrames fs) : Steps p.tables e below (T.setTop (mkF m pc Ls (.int z :: rest))) (T.setFrames fs) := by
  have hm' : T.vm.method? m = some meth := X.method'
  have hn : narrow .int (.int z) = .int z := rfl
  show Steps p.tables e below (T.setTop { method := m, pc := pc, locals := Ls, stack := _ :: rest, locked := none }) _
  jvm_step X.here [X.here.top, hx, hd, hm', hret, hn]
  first | (intro acts; rw [hl _ acts rfl rfl rfl]) | rw [hl _ _ rfl rfl rfl]
  exact Steps.refl _
/-- from the state A the body comes to its end, and Q holds there -/
def own_G (tb : Tables) (e : Env) (below : List Frame) (Q : Outcome → State → Prop) (A : State) : Prop := ∃ s₂ o, Steps tb e below A s₂ ∧ s₂.status = .running ∧ Ended s₂ below o ∧ Q o s₂
theorem own_fs {tb : Tables} {Q : Outcome → State → Prop} {A B : State} (h : Steps tb e below A B) (g : own_G tb e below Q B) : own_G tb e below Q A := by
  obtain ⟨s₂, o, h1, r⟩ := g
  exact ⟨s₂, o, h.trans h1, r⟩
/-- what a body's contract says of its end -/
def own_P (s : State) (QQ : Option Value → Heap → List Loc → Prop) (rc rs : Nat) (o : Outcome) (U : State) : Prop := ∃ v L, o = .returned v ∧ QQ v U.heap L ∧ FrameEnd s o U L rc rs
variable {QQ : Option Value → Heap → List Loc → Prop} {rc rs : Nat} {h : Heap}
theorem own_start {tb : Tables} {g g' : JFrame} (q : g = g') (k : own_G tb e below (own_P s QQ rc rs) (T.setTop g')) : ∃ s₂ o, Steps tb e below (T.setTop g) s₂ ∧ s₂.status = .running ∧ Ended s₂ below o ∧ ∃ v L, o = .returned v ∧ QQ v s₂.heap L ∧ FrameEnd s o s₂ L rc rs := q ▸ k
theorem own_retI (X : Stand p l e R s m args below meth c T locs cells slots) (hx : p.tables.exec = Jvm.exec) {pc : Nat} {Ls : Array Slot} {z : Int32} {rest : List Value} (hret : meth.sig.returnType = some .int) (hlk : meth.locks = false) (hd : decode c.code pc = .ok (.ireturn, 1)) (hc : cells ≤ rc) (hs : slots ≤ rs) (eT : T.heap = h) (hQ : QQ (some (.int z)) h locs) :
    own_G p.tables e below (own_P s QQ rc rs) (T.setTop (mkF m pc Ls (.int z :: rest))) := by
  obtain ⟨fs, hr, hrun, hended, hW, hsame⟩ := X.leave (v := some (.int z)) (fun h => by rw [hret] at h; cases h) hlk
  exact ⟨_, _, retI X hx hret hd hr, hrun, hended, _, _, rfl, (by show QQ _ T.heap _; rw [eT]; exact hQ), ⟨_, rfl⟩, hW, hsame.mono hc hs⟩
theorem own_retN (X : Stand p l e R s m args below meth c T locs cells slots) (hx : p.tables.exec = Jvm.exec) {pc : Nat} {Ls : Array Slot} {z : Int32} {t : FieldType} {rest : List Value} (hret : meth.sig.returnType = some t) (hlk : meth.locks = false) (ht : t = .boolean ∨ t = .byte ∨ t = .char ∨ t = .short) (hd : decode c.code pc = .ok (.ireturn, 1)) (hc : cells ≤ rc) (hs : slots ≤ rs) (eT : T.heap = h) (hQ : QQ (some (.int (nar t z))) h locs) :
    own_G p.tables e below (own_P s QQ rc rs) (T.setTop (mkF m pc Ls (.int z :: rest))) := by
  obtain ⟨fs, hr, hrun, hended, hW, hsame⟩ := X.leave (v := some (.int (nar t z))) (fun h => by rw [hret] at h; cases h) hlk
  exact ⟨_, _, retN X hx hret ht hd hr, hrun, hended, _, _, rfl, (by show QQ _ T.heap _; rw [eT]; exact hQ), ⟨_, rfl⟩, hW, hsame.mono hc hs⟩
theorem own_retJ (X : Stand p l e R s m args below meth c T locs cells slots) (hx : p.tables.exec = Jvm.exec) {pc : Nat} {Ls : Array Slot} {z : Int64} {rest : List Value} (hret : meth.sig.returnType = some .long) (hlk : meth.locks = false) (hd : decode c.code pc = .ok (.lreturn, 1)) (hc : cells ≤ rc) (hs : slots ≤ rs) (eT : T.heap = h) (hQ : QQ (some (.long z)) h locs) :
    own_G p.tables e below (own_P s QQ rc rs) (T.setTop (mkF m pc Ls (.long z :: rest))) := by
  obtain ⟨fs, hr, hrun, hended, hW, hsame⟩ := X.leave (v := some (.long z)) (fun h => by rw [hret] at h; cases h) hlk
  exact ⟨_, _, retOut X hx hret rfl (Or.inr (Or.inl ⟨rfl, rfl, z, rfl⟩)) hd hr, hrun, hended, _, _, rfl, (by show QQ _ T.heap _; rw [eT]; exact hQ), ⟨_, rfl⟩, hW, hsame.mono hc hs⟩
theorem own_narR {t : FieldType} {w : Value} (hw : w.isRef = true) : narrow t w = w := by rcases ref_cases hw with rfl | ⟨a, rfl⟩ <;> cases t <;> rfl
theorem own_fitR {t : FieldType} {w : Value} (hw : w.isRef = true) (ht : t.isReference = true := by rfl) : fits t w = true := by rcases ref_cases hw with rfl | ⟨a, rfl⟩ <;> cases t <;> first | rfl | cases ht
theorem own_retA (X : Stand p l e R s m args below meth c T locs cells slots) (hx : p.tables.exec = Jvm.exec) {pc : Nat} {Ls : Array Slot} {w : Value} {t : FieldType} {rest : List Value} (hret : meth.sig.returnType = some t) (hlk : meth.locks = false) (ht : t.isReference = true) (hw : w.isRef = true) (hd : decode c.code pc = .ok (.areturn, 1)) (hc : cells ≤ rc) (hs : slots ≤ rs) (eT : T.heap = h) (hQ : QQ (some w) h locs) :
    own_G p.tables e below (own_P s QQ rc rs) (T.setTop (mkF m pc Ls (w :: rest))) := by
  obtain ⟨fs, hr, hrun, hended, hW, hsame⟩ := X.leave (v := some w) (fun h => by rw [hret] at h; cases h) hlk
  exact ⟨_, _, retOut X hx hret (own_narR hw) (Or.inr (Or.inr (Or.inr (Or.inr ⟨rfl, ht, hw⟩)))) hd hr, hrun, hended, _, _, rfl, (by show QQ _ T.heap _; rw [eT]; exact hQ), ⟨_, rfl⟩, hW, hsame.mono hc hs⟩
theorem own_retV (X : Stand p l e R s m args below meth c T locs cells slots) (hx : p.tables.exec = Jvm.exec) {pc : Nat} {Ls : Array Slot} (hret : meth.sig.returnType = none) (hlk : meth.locks = false) (hd : decode c.code pc = .ok (.return_, 1)) (hc : cells ≤ rc) (hs : slots ≤ rs) (eT : T.heap = h) (hQ : QQ none h locs) :
    own_G p.tables e below (own_P s QQ rc rs) (T.setTop (mkF m pc Ls [])) := by
  obtain ⟨fs, hr, hrun, hended, hW, hsame⟩ := X.leave (v := none) (fun _ => rfl) hlk
  exact ⟨_, _, X.returnOut hx hret hd hr, hrun, hended, _, _, rfl, (by show QQ _ T.heap _; rw [eT]; exact hQ), ⟨_, rfl⟩, hW, hsame.mono hc hs⟩
theorem own_nar0 : nar .boolean (0 : Int32) = (0 : Int32) := rfl
theorem own_nar1 : nar .boolean (1 : Int32) = (1 : Int32) := rfl
theorem own_nar1s : some (Value.int (nar .boolean (1 : Int32))) = some (Value.int (1 : Int32)) := rfl
end New
end Jvm.RoadKit
namespace Jvm.Pilot.@@N@@
open Jvm Jvm.ClassFile Sem Op Lib Jvm.Free Jvm.Stand Jvm.LawKit Jvm.RoadKit Bundle Jvm.Pilot.@@N@@.Jvm.D
theorem own_pn0 : plainName "java/lang/Record" = true := by first | (simp [plainName, overriddenIn]; done) | decide +kernel
theorem own_d2_0 : decode jdk_30_method_1_code 0 = .ok (.aload_n 0, 1) := by decide +kernel
theorem own_d2_1 : decode jdk_30_method_1_code 1 = .ok (.invokespecial 1, 3) := by decide +kernel
theorem own_d2_4 : decode jdk_30_method_1_code 4 = .ok (.return_, 1) := by decide +kernel
theorem own_pn1 : plainName "com/example/cast3/cast3/Page$Entry" = true := by first | (simp [plainName, overriddenIn]; done) | decide +kernel
theorem own_d1_0 : decode prog_16_method_1_code 0 = .ok (.aload_n 0, 1) := by decide +kernel
theorem own_d1_1 : decode prog_16_method_1_code 1 = .ok (.invokespecial 1, 3) := by decide +kernel
theorem own_pd0 : parseMethodDescriptor "()V" = some ⟨[], none⟩ := by decide +kernel
theorem own_d1_4 : decode prog_16_method_1_code 4 = .ok (.aload_n 0, 1) := by decide +kernel
theorem own_d1_5 : decode prog_16_method_1_code 5 = .ok (.lload_n 1, 1) := by decide +kernel
theorem own_d1_6 : decode prog_16_method_1_code 6 = .ok (.putfield 7, 3) := by decide +kernel
theorem own_d1_9 : decode prog_16_method_1_code 9 = .ok (.aload_n 0, 1) := by decide +kernel
theorem own_d1_10 : decode prog_16_method_1_code 10 = .ok (.lload_n 3, 1) := by decide +kernel
theorem own_d1_11 : decode prog_16_method_1_code 11 = .ok (.putfield 13, 3) := by decide +kernel
theorem own_d1_14 : decode prog_16_method_1_code 14 = .ok (.return_, 1) := by decide +kernel
theorem own_d4_0 : decode prog_16_method_3_code 0 = .ok (.aload_n 0, 1) := by decide +kernel
theorem own_d4_1 : decode prog_16_method_3_code 1 = .ok (.getfield 13, 3) := by decide +kernel
theorem own_d4_4 : decode prog_16_method_3_code 4 = .ok (.aload_n 1, 1) := by decide +kernel
theorem own_d4_5 : decode prog_16_method_3_code 5 = .ok (.getfield 13, 3) := by decide +kernel
theorem own_d4_8 : decode prog_16_method_3_code 8 = .ok (.lcmp, 1) := by decide +kernel
theorem own_d4_9 : decode prog_16_method_3_code 9 = .ok (.ifCond .lt 27, 3) := by decide +kernel
theorem own_d4_36 : decode prog_16_method_3_code 36 = .ok (.iconst 1, 1) := by decide +kernel
theorem own_d4_37 : decode prog_16_method_3_code 37 = .ok (.goto 4, 3) := by decide +kernel
theorem own_d4_41 : decode prog_16_method_3_code 41 = .ok (.ireturn, 1) := by decide +kernel
theorem own_d4_12 : decode prog_16_method_3_code 12 = .ok (.aload_n 0, 1) := by decide +kernel
theorem own_d4_13 : decode prog_16_method_3_code 13 = .ok (.getfield 13, 3) := by decide +kernel
theorem own_d4_16 : decode prog_16_method_3_code 16 = .ok (.aload_n 1, 1) := by decide +kernel
theorem own_d4_17 : decode prog_16_method_3_code 17 = .ok (.getfield 13, 3) := by decide +kernel
theorem own_d4_20 : decode prog_16_method_3_code 20 = .ok (.lcmp, 1) := by decide +kernel
theorem own_d4_21 : decode prog_16_method_3_code 21 = .ok (.ifCond .ne 19, 3) := by decide +kernel
theorem own_d4_24 : decode prog_16_method_3_code 24 = .ok (.aload_n 0, 1) := by decide +kernel
theorem own_d4_25 : decode prog_16_method_3_code 25 = .ok (.getfield 7, 3) := by decide +kernel
theorem own_d4_28 : decode prog_16_method_3_code 28 = .ok (.aload_n 1, 1) := by decide +kernel
theorem own_d4_29 : decode prog_16_method_3_code 29 = .ok (.getfield 7, 3) := by decide +kernel
theorem own_d4_32 : decode prog_16_method_3_code 32 = .ok (.lcmp, 1) := by decide +kernel
theorem own_d4_33 : decode prog_16_method_3_code 33 = .ok (.ifCond .ge 7, 3) := by decide +kernel
theorem own_d4_40 : decode prog_16_method_3_code 40 = .ok (.iconst 0, 1) := by decide +kernel
theorem own_pn2 : plainName "com/example/cast3/cast3/EntryComesAfterPinLaw" = true := by first | (simp [plainName, overriddenIn]; done) | decide +kernel
theorem own_pd1 : parseMethodDescriptor "(JJ)V" = some ⟨[.long, .long], none⟩ := by decide +kernel
theorem own_pd2 : parseMethodDescriptor "(Lcom/example/cast3/cast3/Page$Entry;)Z" = some ⟨[(.object "com/example/cast3/cast3/Page$Entry")], some .boolean⟩ := by decide +kernel
def own_ca (i1 t1 i2 t2 : Int64) : Int32 := if t1 < t2 then (1 : Int32) else if t1 = t2 then (if i1 < i2 then (1 : Int32) else (0 : Int32)) else (0 : Int32)
theorem own_tri (a b : Int64) : (a < b ∧ ¬ (a = b) ∧ ¬ (b < a) ∧ ¬ (b = a)) ∨ (a = b ∧ ¬ (a < b) ∧ ¬ (b < a) ∧ b = a) ∨ (b < a ∧ ¬ (a = b) ∧ ¬ (a < b) ∧ ¬ (b = a)) := by
  simp only [Int64.lt_iff_toInt_lt, ← Int64.toInt_inj]; omega

theorem own_rec_ef (m : MethodId) (x0 : Addr) : entryFrame m #[(.ref x0)] 1 = mkF m 0 #[.val (.ref x0)] [] := by first | (simp [entryFrame, mkF, argsToLocals, Value.category]; done) | rfl
def own_rec_Q (Z : State) (a1 : Addr) (h0 : Heap) (n0 : Nat) (v : Option Value) (h : Heap) (L : List Loc) : Prop := (v = none ∧ Fr n0 L ∧ h = h0)
set_option maxRecDepth 65536 in
set_option maxHeartbeats 40000000 in
theorem own_rec (l : Launch) (Z : State) (a0 : Array Value) (hw : ∀ d ∈ tables_1, d.before a0 Z = true) (ws : List Jvm.Cond) (a1 : Addr) (h0 : Heap) (n0 : Nat) (Z0 : n0 ≤ h0.size)  :
    MetFree l (⟨"java/lang/Record", "<init>", "()V"⟩ : MethodName) (head1 (Jvm.Cond.code (⟨"java/lang/Record", "<init>", "()V"⟩ : MethodName) jdk_30_method_1_code 1 none :: ws) ({ frames := 1, cells := 0, slots := 0, locals := 12 } : Room)) (fun a U => a = #[(.ref a1)] ∧ Z.Warmed39 U.vm ∧ U.heap = h0) (fun _ _ _ _ _ => True) (fun _ U o U' => ∃ v L, o = .returned v ∧ own_rec_Q Z a1 h0 n0 v U'.heap L ∧ FrameEnd U o U' L ({ frames := 1, cells := 0, slots := 0, locals := 12 } : Room).cells ({ frames := 1, cells := 0, slots := 0, locals := 12 } : Room).slots) := by
  refine MetFree.of_bodySF (plainFor_of_name own_pn0) hisR ?_
  intro p e s m args below meth c s₁ Bd hml0 hP hK
  obtain ⟨rfl, hZ, hh⟩ := hP
  have hx := Bd.exec
  have hby := Bd.bytes
  have hlk : meth.locks = false := BodyLoose.notSynchronized Bd
  have hml : c.maxLocals = 1 := hml0
  have hown : s.vm.findClass "java/lang/Record" = some m.cls := findClass_of_methodNamed Bd.named
  have hnm := (name_of_methodNamed Bd.named Bd.method).1
  have X0 : Stand p l e ({ frames := 1, cells := 0, slots := 0, locals := 12 } : Room) s m #[(.ref a1)] below meth c s₁ [] 0 0 := Stand.of_body Bd
  have e0 : s₁.heap = h0 := by rw [← hh, Bd.state]; rfl
  have N0 := Fr.nil n0
  refine own_start (QQ := own_rec_Q Z a1 h0 n0) (rc := ({ frames := 1, cells := 0, slots := 0, locals := 12 } : Room).cells) (rs := ({ frames := 1, cells := 0, slots := 0, locals := 12 } : Room).slots) (own_rec_ef m a1 ) ?_
  show own_G p.tables e below _ (s₁.setTop (mkF m 0 #[.val (.ref a1)] []))
  refine own_fs (XS.aloadN X0.here hx rfl (hb hby own_d2_0) rfl rfl (Steps.refl _)) ?_
  show own_G p.tables e below _ (s₁.setTop (mkF m 1 #[.val (.ref a1)] [(.ref a1)]))
  obtain ⟨T1, X1, e1, st1⟩ := initO X0 hx hZ hown (hw _ (List.mem_of_getElem? (i := 11) rfl)) (hw _ (List.mem_of_getElem? (i := 12) rfl)) (hw _ (List.mem_of_getElem? (i := 13) rfl)) e0 (g := (mkF m 1 #[.val (.ref a1)] [(.ref a1)])) rfl (by rw [hml]; rfl) rfl (hb hby own_d2_1) (by decide) (W := 0) (by show 2 * 0 + _ ≤ _; exact Nat.le_of_eq rfl) (by decide)
  refine own_fs (st1 _ (Steps.refl _)) ?_
  show own_G p.tables e below _ (T1.setTop (mkF m 4 #[.val (.ref a1)] []))
  exact own_retV X1 hx Bd.returns hlk (hb hby own_d2_4) (by decide) (by decide) e1 ⟨rfl, N0, rfl⟩
theorem own_init_ef (m : MethodId) (x0 : Addr) (x1 : Int64) (x2 : Int64) : entryFrame m #[(.ref x0), (.long x1), (.long x2)] 5 = mkF m 0 #[.val (.ref x0), .val (.long x1), .second, .val (.long x2), .second] [] := by first | (simp [entryFrame, mkF, argsToLocals, Value.category]; done) | rfl
def own_init_Q (Z : State) (a1 : Addr) (q1 : Int64) (q2 : Int64) (u1 : Int64) (u2 : Int64) (h0 : Heap) (n0 : Nat) (v : Option Value) (h : Heap) (L : List Loc) : Prop := (v = none ∧ Fr n0 L ∧ Keep h0 h [a1] ∧ (Fld Z h a1 "com/example/cast3/cast3/Page$Entry" "id" "J" (.long q1)) ∧ (Fld Z h a1 "com/example/cast3/cast3/Page$Entry" "time" "J" (.long q2)))
set_option maxRecDepth 65536 in
set_option maxHeartbeats 40000000 in
theorem own_init (l : Launch) (Z : State) (a0 : Array Value) (hw : ∀ d ∈ tables_1, d.before a0 Z = true) (ws : List Jvm.Cond) (a1 : Addr) (q1 : Int64) (q2 : Int64) (u1 : Int64) (u2 : Int64) (h0 : Heap) (n0 : Nat) (Z0 : n0 ≤ h0.size) (hE_a1 : Exa Z h0 a1 "com/example/cast3/cast3/Page$Entry") (hF_id_a1 : Fld Z h0 a1 "com/example/cast3/cast3/Page$Entry" "id" "J" (.long u1)) (hF_time_a1 : Fld Z h0 a1 "com/example/cast3/cast3/Page$Entry" "time" "J" (.long u2)) (ge_a1 : n0 ≤ a1) :
    MetFree l (⟨"com/example/cast3/cast3/Page$Entry", "<init>", "(JJ)V"⟩ : MethodName) (head1 (Jvm.Cond.code (⟨"com/example/cast3/cast3/Page$Entry", "<init>", "(JJ)V"⟩ : MethodName) prog_16_method_1_code 5 none :: ws) ({ frames := 2, cells := 0, slots := 0, locals := 24 } : Room)) (fun a U => a = #[(.ref a1), (.long q1), (.long q2)] ∧ Z.Warmed39 U.vm ∧ U.heap = h0) (fun _ _ _ _ _ => True) (fun _ U o U' => ∃ v L, o = .returned v ∧ own_init_Q Z a1 q1 q2 u1 u2 h0 n0 v U'.heap L ∧ FrameEnd U o U' L ({ frames := 2, cells := 0, slots := 0, locals := 24 } : Room).cells ({ frames := 2, cells := 0, slots := 0, locals := 24 } : Room).slots) := by
  refine MetFree.of_bodySF (plainFor_of_name own_pn1) hisR ?_
  intro p e s m args below meth c s₁ Bd hml0 hP hK
  obtain ⟨rfl, hZ, hh⟩ := hP
  have hx := Bd.exec
  have hby := Bd.bytes
  have hlk : meth.locks = false := BodyLoose.notSynchronized Bd
  have hml : c.maxLocals = 5 := hml0
  have hown : s.vm.findClass "com/example/cast3/cast3/Page$Entry" = some m.cls := findClass_of_methodNamed Bd.named
  have hnm := (name_of_methodNamed Bd.named Bd.method).1
  have X0 : Stand p l e ({ frames := 2, cells := 0, slots := 0, locals := 24 } : Room) s m #[(.ref a1), (.long q1), (.long q2)] below meth c s₁ [] 0 0 := Stand.of_body Bd
  have e0 : s₁.heap = h0 := by rw [← hh, Bd.state]; rfl
  have N0 := Fr.nil n0
  refine own_start (QQ := own_init_Q Z a1 q1 q2 u1 u2 h0 n0) (rc := ({ frames := 2, cells := 0, slots := 0, locals := 24 } : Room).cells) (rs := ({ frames := 2, cells := 0, slots := 0, locals := 24 } : Room).slots) (own_init_ef m a1 q1 q2 ) ?_
  show own_G p.tables e below _ (s₁.setTop (mkF m 0 #[.val (.ref a1), .val (.long q1), .second, .val (.long q2), .second] []))
  refine own_fs (XS.aloadN X0.here hx rfl (hb hby own_d1_0) rfl rfl (Steps.refl _)) ?_
  show own_G p.tables e below _ (s₁.setTop (mkF m 1 #[.val (.ref a1), .val (.long q1), .second, .val (.long q2), .second] [(.ref a1)]))
  have Zs3 : n0 ≤ h0.size := Z0
  obtain ⟨_, _, ⟨T2, L2, k2, n2⟩, -, X2, ⟨Lc2, hQ2, l2, y2, z2⟩, st2⟩ := X0.specialBack hx (y := (⟨"java/lang/Record", "<init>", "()V"⟩ : MethodName)) rfl hown (mvT hZ (hw _ (List.mem_of_getElem? (i := 6) rfl))) (mvT hZ (hw _ (List.mem_of_getElem? (i := 7) rfl))) (mvT hZ (hw _ (List.mem_of_getElem? (i := 10) rfl))) (by decide) (backOf (W := 0) (own_rec l Z a0 hw [] a1 h0 n0 Zs3 ) hZ (hw _ (List.mem_of_getElem? (i := 10) rfl)) (hw _ (List.mem_of_getElem? (i := 9) rfl)) (by decide) (by decide)) (g := (mkF m 1 #[.val (.ref a1), .val (.long q1), .second, .val (.long q2), .second] [(.ref a1)])) rfl (by rw [hml]; rfl) (Steps.refl _) (a := a1) (argsL := []) (rest := []) (lenOf own_pd0 rfl) rfl (by show 2 * 0 + _ ≤ _; exact Nat.le_of_eq rfl) (hb hby own_d1_1) (fun _ _ => ⟨rfl, e0, (by decide : 0 + 0 ≤ _), (by decide : 0 + 0 ≤ _)⟩)
  dsimp only [Pt.U, Pt.locs, Pt.cells, Pt.slots] at X2 l2 y2 z2 st2 hQ2
  subst l2 y2 z2
  obtain ⟨rfl, Nq2, e2⟩ := hQ2
  have N2 := Fr.app N0 Nq2
  refine own_fs st2 ?_
  show own_G p.tables e below _ (T2.setTop (mkF m 4 #[.val (.ref a1), .val (.long q1), .second, .val (.long q2), .second] []))
  refine own_fs (XS.aloadN X2.here hx rfl (hb hby own_d1_4) rfl rfl (Steps.refl _)) ?_
  show own_G p.tables e below _ (T2.setTop (mkF m 5 #[.val (.ref a1), .val (.long q1), .second, .val (.long q2), .second] [(.ref a1)]))
  refine own_fs (XS.lloadN X2.here hx rfl (hb hby own_d1_5) rfl (Steps.refl _)) ?_
  show own_G p.tables e below _ (T2.setTop (mkF m 6 #[.val (.ref a1), .val (.long q1), .second, .val (.long q2), .second] [(.long q1), (.ref a1)]))
  obtain ⟨T4, h4, X4, e4, W4, st4⟩ := putF X2 hx hZ hown (host := "") (Or.inl (hw _ (List.mem_of_getElem? (i := 14) rfl))) Via.refl e2 hF_id_a1 hE_a1 (Or.inr ⟨(hw _ (List.mem_of_getElem? (i := 15) rfl)), rfl, hnm⟩) (hw _ (List.mem_of_getElem? (i := 1) rfl)) (ty := .long) (by decide) rfl rfl (g := (mkF m 6 #[.val (.ref a1), .val (.long q1), .second, .val (.long q2), .second] [(.long q1), (.ref a1)])) rfl rfl (hb hby own_d1_6)
  refine own_fs (st4 _ (Steps.refl _)) ?_
  have Fw4 := Fld.same W4 hF_id_a1
  have N4 := Fr.snoc X4 N2 ge_a1
  show own_G p.tables e below _ (T4.setTop (mkF m 9 #[.val (.ref a1), .val (.long q1), .second, .val (.long q2), .second] []))
  refine own_fs (XS.aloadN X4.here hx rfl (hb hby own_d1_9) rfl rfl (Steps.refl _)) ?_
  show own_G p.tables e below _ (T4.setTop (mkF m 10 #[.val (.ref a1), .val (.long q1), .second, .val (.long q2), .second] [(.ref a1)]))
  refine own_fs (XS.lloadN X4.here hx rfl (hb hby own_d1_10) rfl (Steps.refl _)) ?_
  show own_G p.tables e below _ (T4.setTop (mkF m 11 #[.val (.ref a1), .val (.long q1), .second, .val (.long q2), .second] [(.long q2), (.ref a1)]))
  obtain ⟨T5, h5, X5, e5, W5, st5⟩ := putF X4 hx hZ hown (host := "") (Or.inl (hw _ (List.mem_of_getElem? (i := 16) rfl))) Via.refl e4 (Fld.other W4 hF_time_a1 (Or.inr (slot_ne (Or.inr (hw _ (List.mem_of_getElem? (i := 17) rfl))) (Or.inr (hw _ (List.mem_of_getElem? (i := 15) rfl))) (by decide) (t := .long) (t' := .long) (by decide) (by decide)))) (Exa.wr W4 hE_a1) (Or.inr ⟨(hw _ (List.mem_of_getElem? (i := 17) rfl)), rfl, hnm⟩) (hw _ (List.mem_of_getElem? (i := 1) rfl)) (ty := .long) (by decide) rfl rfl (g := (mkF m 11 #[.val (.ref a1), .val (.long q1), .second, .val (.long q2), .second] [(.long q2), (.ref a1)])) rfl rfl (hb hby own_d1_11)
  refine own_fs (st5 _ (Steps.refl _)) ?_
  have Fw5 := Fld.same W5 (Fld.other W4 hF_time_a1 (Or.inr (slot_ne (Or.inr (hw _ (List.mem_of_getElem? (i := 17) rfl))) (Or.inr (hw _ (List.mem_of_getElem? (i := 15) rfl))) (by decide) (t := .long) (t' := .long) (by decide) (by decide))))
  have N5 := Fr.snoc X5 N4 ge_a1
  show own_G p.tables e below _ (T5.setTop (mkF m 14 #[.val (.ref a1), .val (.long q1), .second, .val (.long q2), .second] []))
  exact own_retV X5 hx Bd.returns hlk (hb hby own_d1_14) (by decide) (by decide) e5 ⟨rfl, N5, (((Keep.refl _ _).wr W4 (Or.inl (List.mem_of_getElem? (i := 0) rfl))).wr W5 (Or.inl (List.mem_of_getElem? (i := 0) rfl))), (Fld.other W5 Fw4 (Or.inr (slot_ne (Or.inr (hw _ (List.mem_of_getElem? (i := 15) rfl))) (Or.inr (hw _ (List.mem_of_getElem? (i := 17) rfl))) (by decide) (t := .long) (t' := .long) (by decide) (by decide)))), Fw5⟩
theorem own_comes_ef (m : MethodId) (x0 : Addr) (x1 : Addr) : entryFrame m #[(.ref x0), (.ref x1)] 2 = mkF m 0 #[.val (.ref x0), .val (.ref x1)] [] := by first | (simp [entryFrame, mkF, argsToLocals, Value.category]; done) | rfl
def own_comes_Q (Z : State) (a1 : Addr) (a2 : Addr) (i1 : Int64) (t1 : Int64) (i2 : Int64) (t2 : Int64) (h0 : Heap) (n0 : Nat) (v : Option Value) (h : Heap) (L : List Loc) : Prop := (v = some (.int (own_ca i1 t1 i2 t2)) ∧ Fr n0 L ∧ h = h0)
set_option maxRecDepth 65536 in
set_option maxHeartbeats 40000000 in
theorem own_comes (l : Launch) (Z : State) (a0 : Array Value) (hw : ∀ d ∈ tables_1, d.before a0 Z = true) (ws : List Jvm.Cond) (a1 : Addr) (a2 : Addr) (i1 : Int64) (t1 : Int64) (i2 : Int64) (t2 : Int64) (h0 : Heap) (n0 : Nat) (Z0 : n0 ≤ h0.size) (hF_id_a1 : Fld Z h0 a1 "com/example/cast3/cast3/Page$Entry" "id" "J" (.long i1)) (hF_time_a1 : Fld Z h0 a1 "com/example/cast3/cast3/Page$Entry" "time" "J" (.long t1)) (hF_id_a2 : Fld Z h0 a2 "com/example/cast3/cast3/Page$Entry" "id" "J" (.long i2)) (hF_time_a2 : Fld Z h0 a2 "com/example/cast3/cast3/Page$Entry" "time" "J" (.long t2)) :
    MetFree l (⟨"com/example/cast3/cast3/Page$Entry", "comesAfter", "(Lcom/example/cast3/cast3/Page$Entry;)Z"⟩ : MethodName) (head1 (Jvm.Cond.code (⟨"com/example/cast3/cast3/Page$Entry", "comesAfter", "(Lcom/example/cast3/cast3/Page$Entry;)Z"⟩ : MethodName) prog_16_method_3_code 2 (some .boolean) :: ws) ({ frames := 0, cells := 0, slots := 0, locals := 0 } : Room)) (fun a U => a = #[(.ref a1), (.ref a2)] ∧ Z.Warmed39 U.vm ∧ U.heap = h0) (fun _ _ _ _ _ => True) (fun _ U o U' => ∃ v L, o = .returned v ∧ own_comes_Q Z a1 a2 i1 t1 i2 t2 h0 n0 v U'.heap L ∧ FrameEnd U o U' L ({ frames := 0, cells := 0, slots := 0, locals := 0 } : Room).cells ({ frames := 0, cells := 0, slots := 0, locals := 0 } : Room).slots) := by
  refine MetFree.of_bodySF (plainFor_of_name own_pn1) hisR ?_
  intro p e s m args below meth c s₁ Bd hml0 hP hK
  obtain ⟨rfl, hZ, hh⟩ := hP
  have hx := Bd.exec
  have hby := Bd.bytes
  have hlk : meth.locks = false := BodyLoose.notSynchronized Bd
  have hml : c.maxLocals = 2 := hml0
  have hown : s.vm.findClass "com/example/cast3/cast3/Page$Entry" = some m.cls := findClass_of_methodNamed Bd.named
  have hnm := (name_of_methodNamed Bd.named Bd.method).1
  have X0 : Stand p l e ({ frames := 0, cells := 0, slots := 0, locals := 0 } : Room) s m #[(.ref a1), (.ref a2)] below meth c s₁ [] 0 0 := Stand.of_body Bd
  have e0 : s₁.heap = h0 := by rw [← hh, Bd.state]; rfl
  have N0 := Fr.nil n0
  refine own_start (QQ := own_comes_Q Z a1 a2 i1 t1 i2 t2 h0 n0) (rc := ({ frames := 0, cells := 0, slots := 0, locals := 0 } : Room).cells) (rs := ({ frames := 0, cells := 0, slots := 0, locals := 0 } : Room).slots) (own_comes_ef m a1 a2 ) ?_
  show own_G p.tables e below _ (s₁.setTop (mkF m 0 #[.val (.ref a1), .val (.ref a2)] []))
  refine own_fs (XS.aloadN X0.here hx rfl (hb hby own_d4_0) rfl rfl (Steps.refl _)) ?_
  show own_G p.tables e below _ (s₁.setTop (mkF m 1 #[.val (.ref a1), .val (.ref a2)] [(.ref a1)]))
  obtain ⟨T1, X1, e1, st1⟩ := getF X0 hx hZ hown (host := "") (Or.inl (hw _ (List.mem_of_getElem? (i := 16) rfl))) Via.refl e0 hF_time_a1 (g := (mkF m 1 #[.val (.ref a1), .val (.ref a2)] [(.ref a1)])) rfl rfl (hb hby own_d4_1)
  refine own_fs (st1 _ (Steps.refl _)) ?_
  show own_G p.tables e below _ (T1.setTop (mkF m 4 #[.val (.ref a1), .val (.ref a2)] [(.long t1)]))
  refine own_fs (XS.aloadN X1.here hx rfl (hb hby own_d4_4) rfl rfl (Steps.refl _)) ?_
  show own_G p.tables e below _ (T1.setTop (mkF m 5 #[.val (.ref a1), .val (.ref a2)] [(.ref a2), (.long t1)]))
  obtain ⟨T2, X2, e2, st2⟩ := getF X1 hx hZ hown (host := "") (Or.inl (hw _ (List.mem_of_getElem? (i := 16) rfl))) Via.refl e1 hF_time_a2 (g := (mkF m 5 #[.val (.ref a1), .val (.ref a2)] [(.ref a2), (.long t1)])) rfl rfl (hb hby own_d4_5)
  refine own_fs (st2 _ (Steps.refl _)) ?_
  show own_G p.tables e below _ (T2.setTop (mkF m 8 #[.val (.ref a1), .val (.ref a2)] [(.long t2), (.long t1)]))
  refine own_fs (XT.lcmp X2.here hx rfl (hb hby own_d4_8) rfl (Steps.refl _)) ?_
  show own_G p.tables e below _ (T2.setTop (mkF m 9 #[.val (.ref a1), .val (.ref a2)] [(.int (XT.cmpL t1 t2))]))
  by_cases hc9 : t1 < t2
  · refine own_fs (XS.ifYes X2.here hx rfl (pc0 := 9) (pc' := 36) rfl (hb hby own_d4_9) rfl (XT.ll_lt_t hc9) (by decide) (by decide) (Steps.refl _)) ?_
    show own_G p.tables e below _ (T2.setTop (mkF m 36 #[.val (.ref a1), .val (.ref a2)] []))
    refine own_fs (XS.iconst X2.here hx rfl (hb hby own_d4_36) (Steps.refl _)) ?_
    show own_G p.tables e below _ (T2.setTop (mkF m 37 #[.val (.ref a1), .val (.ref a2)] [(.int (1 : Int32))]))
    refine own_fs (XS.goto X2.here hx rfl (pc0 := 37) (pc' := 41) rfl (hb hby own_d4_37) (by decide) (by decide) (Steps.refl _)) ?_
    show own_G p.tables e below _ (T2.setTop (mkF m 41 #[.val (.ref a1), .val (.ref a2)] [(.int (1 : Int32))]))
    exact own_retN X2 hx (t := .boolean) Bd.returns hlk (by simp) (hb hby own_d4_41) (by decide) (by decide) e2 ⟨(by simp only [own_ca, own_nar0, own_nar1, if_pos hc9]), N0, rfl⟩
  · refine own_fs (XS.ifNo X2.here hx rfl (hb hby own_d4_9) rfl (XT.ll_lt_f hc9) (Steps.refl _)) ?_
    show own_G p.tables e below _ (T2.setTop (mkF m 12 #[.val (.ref a1), .val (.ref a2)] []))
    refine own_fs (XS.aloadN X2.here hx rfl (hb hby own_d4_12) rfl rfl (Steps.refl _)) ?_
    show own_G p.tables e below _ (T2.setTop (mkF m 13 #[.val (.ref a1), .val (.ref a2)] [(.ref a1)]))
    obtain ⟨T3, X3, e3, st3⟩ := getF X2 hx hZ hown (host := "") (Or.inl (hw _ (List.mem_of_getElem? (i := 16) rfl))) Via.refl e2 hF_time_a1 (g := (mkF m 13 #[.val (.ref a1), .val (.ref a2)] [(.ref a1)])) rfl rfl (hb hby own_d4_13)
    refine own_fs (st3 _ (Steps.refl _)) ?_
    show own_G p.tables e below _ (T3.setTop (mkF m 16 #[.val (.ref a1), .val (.ref a2)] [(.long t1)]))
    refine own_fs (XS.aloadN X3.here hx rfl (hb hby own_d4_16) rfl rfl (Steps.refl _)) ?_
    show own_G p.tables e below _ (T3.setTop (mkF m 17 #[.val (.ref a1), .val (.ref a2)] [(.ref a2), (.long t1)]))
    obtain ⟨T4, X4, e4, st4⟩ := getF X3 hx hZ hown (host := "") (Or.inl (hw _ (List.mem_of_getElem? (i := 16) rfl))) Via.refl e3 hF_time_a2 (g := (mkF m 17 #[.val (.ref a1), .val (.ref a2)] [(.ref a2), (.long t1)])) rfl rfl (hb hby own_d4_17)
    refine own_fs (st4 _ (Steps.refl _)) ?_
    show own_G p.tables e below _ (T4.setTop (mkF m 20 #[.val (.ref a1), .val (.ref a2)] [(.long t2), (.long t1)]))
    refine own_fs (XT.lcmp X4.here hx rfl (hb hby own_d4_20) rfl (Steps.refl _)) ?_
    show own_G p.tables e below _ (T4.setTop (mkF m 21 #[.val (.ref a1), .val (.ref a2)] [(.int (XT.cmpL t1 t2))]))
    by_cases hc21 : t1 = t2
    · refine own_fs (XS.ifNo X4.here hx rfl (hb hby own_d4_21) rfl (XT.ll_ne_f hc21) (Steps.refl _)) ?_
      show own_G p.tables e below _ (T4.setTop (mkF m 24 #[.val (.ref a1), .val (.ref a2)] []))
      refine own_fs (XS.aloadN X4.here hx rfl (hb hby own_d4_24) rfl rfl (Steps.refl _)) ?_
      show own_G p.tables e below _ (T4.setTop (mkF m 25 #[.val (.ref a1), .val (.ref a2)] [(.ref a1)]))
      obtain ⟨T5, X5, e5, st5⟩ := getF X4 hx hZ hown (host := "") (Or.inl (hw _ (List.mem_of_getElem? (i := 14) rfl))) Via.refl e4 hF_id_a1 (g := (mkF m 25 #[.val (.ref a1), .val (.ref a2)] [(.ref a1)])) rfl rfl (hb hby own_d4_25)
      refine own_fs (st5 _ (Steps.refl _)) ?_
      show own_G p.tables e below _ (T5.setTop (mkF m 28 #[.val (.ref a1), .val (.ref a2)] [(.long i1)]))
      refine own_fs (XS.aloadN X5.here hx rfl (hb hby own_d4_28) rfl rfl (Steps.refl _)) ?_
      show own_G p.tables e below _ (T5.setTop (mkF m 29 #[.val (.ref a1), .val (.ref a2)] [(.ref a2), (.long i1)]))
      obtain ⟨T6, X6, e6, st6⟩ := getF X5 hx hZ hown (host := "") (Or.inl (hw _ (List.mem_of_getElem? (i := 14) rfl))) Via.refl e5 hF_id_a2 (g := (mkF m 29 #[.val (.ref a1), .val (.ref a2)] [(.ref a2), (.long i1)])) rfl rfl (hb hby own_d4_29)
      refine own_fs (st6 _ (Steps.refl _)) ?_
      show own_G p.tables e below _ (T6.setTop (mkF m 32 #[.val (.ref a1), .val (.ref a2)] [(.long i2), (.long i1)]))
      refine own_fs (XT.lcmp X6.here hx rfl (hb hby own_d4_32) rfl (Steps.refl _)) ?_
      show own_G p.tables e below _ (T6.setTop (mkF m 33 #[.val (.ref a1), .val (.ref a2)] [(.int (XT.cmpL i1 i2))]))
      by_cases hc33 : i1 < i2
      · refine own_fs (XS.ifNo X6.here hx rfl (hb hby own_d4_33) rfl (XT.ll_ge_f hc33) (Steps.refl _)) ?_
        show own_G p.tables e below _ (T6.setTop (mkF m 36 #[.val (.ref a1), .val (.ref a2)] []))
        refine own_fs (XS.iconst X6.here hx rfl (hb hby own_d4_36) (Steps.refl _)) ?_
        show own_G p.tables e below _ (T6.setTop (mkF m 37 #[.val (.ref a1), .val (.ref a2)] [(.int (1 : Int32))]))
        refine own_fs (XS.goto X6.here hx rfl (pc0 := 37) (pc' := 41) rfl (hb hby own_d4_37) (by decide) (by decide) (Steps.refl _)) ?_
        show own_G p.tables e below _ (T6.setTop (mkF m 41 #[.val (.ref a1), .val (.ref a2)] [(.int (1 : Int32))]))
        exact own_retN X6 hx (t := .boolean) Bd.returns hlk (by simp) (hb hby own_d4_41) (by decide) (by decide) e6 ⟨(by simp only [own_ca, own_nar0, own_nar1, if_neg hc9, if_pos hc21, if_pos hc33]), N0, rfl⟩
      · refine own_fs (XS.ifYes X6.here hx rfl (pc0 := 33) (pc' := 40) rfl (hb hby own_d4_33) rfl (XT.ll_ge_t hc33) (by decide) (by decide) (Steps.refl _)) ?_
        show own_G p.tables e below _ (T6.setTop (mkF m 40 #[.val (.ref a1), .val (.ref a2)] []))
        refine own_fs (XS.iconst X6.here hx rfl (hb hby own_d4_40) (Steps.refl _)) ?_
        show own_G p.tables e below _ (T6.setTop (mkF m 41 #[.val (.ref a1), .val (.ref a2)] [(.int (0 : Int32))]))
        exact own_retN X6 hx (t := .boolean) Bd.returns hlk (by simp) (hb hby own_d4_41) (by decide) (by decide) e6 ⟨(by simp only [own_ca, own_nar0, own_nar1, if_neg hc33, if_neg hc9, if_pos hc21]), N0, rfl⟩
    · refine own_fs (XS.ifYes X4.here hx rfl (pc0 := 21) (pc' := 40) rfl (hb hby own_d4_21) rfl (XT.ll_ne_t hc21) (by decide) (by decide) (Steps.refl _)) ?_
      show own_G p.tables e below _ (T4.setTop (mkF m 40 #[.val (.ref a1), .val (.ref a2)] []))
      refine own_fs (XS.iconst X4.here hx rfl (hb hby own_d4_40) (Steps.refl _)) ?_
      show own_G p.tables e below _ (T4.setTop (mkF m 41 #[.val (.ref a1), .val (.ref a2)] [(.int (0 : Int32))]))
      exact own_retN X4 hx (t := .boolean) Bd.returns hlk (by simp) (hb hby own_d4_41) (by decide) (by decide) e4 ⟨(by simp only [own_ca, own_nar0, own_nar1, if_neg hc21, if_neg hc9]), N0, rfl⟩
theorem own_law_ef (m : MethodId) (x0 : Int64) (x1 : Int64) (x2 : Int64) (x3 : Int64) (x4 : Int32) : entryFrame m #[(.long x0), (.long x1), (.long x2), (.long x3), (.int x4)] maxLocals = mkF m 0 #[.val (.long x0), .second, .val (.long x1), .second, .val (.long x2), .second, .val (.long x3), .second, .val (.int x4), .unset, .unset, .unset, .unset, .unset, .unset, .unset, .unset, .unset, .unset, .unset] [] := by first | (simp [entryFrame, mkF, argsToLocals, Value.category, maxLocals]; done) | rfl
def own_law_Q (Z : State) (i1 : Int64) (t1 : Int64) (i2 : Int64) (t2 : Int64) (md : Int32) (h0 : Heap) (n0 : Nat) (v : Option Value) (h : Heap) (L : List Loc) : Prop := (v = some (.int (1 : Int32)) ∧ Fr n0 L)
set_option maxRecDepth 65536 in
set_option maxHeartbeats 40000000 in
theorem own_law (l : Launch) (Z : State) (a0 : Array Value) (hw : ∀ d ∈ tables_1, d.before a0 Z = true) (ws : List Jvm.Cond) (i1 : Int64) (t1 : Int64) (i2 : Int64) (t2 : Int64) (md : Int32) (h0 : Heap) (n0 : Nat) (Z0 : n0 ≤ h0.size)  :
    MetFree l x (head1 (Jvm.Cond.code x code maxLocals ret :: ws) room_1) (fun a U => a = #[(.long i1), (.long t1), (.long i2), (.long t2), (.int md)] ∧ Z.Warmed39 U.vm ∧ U.heap = h0) (fun _ _ _ _ _ => True) (fun _ U o U' => ∃ v L, o = .returned v ∧ own_law_Q Z i1 t1 i2 t2 md h0 n0 v U'.heap L ∧ FrameEnd U o U' L room_1.cells room_1.slots) := by
  refine MetFree.of_bodySF (plainFor_of_name own_pn2) hisR ?_
  intro p e s m args below meth c s₁ Bd hml0 hP hK
  obtain ⟨rfl, hZ, hh⟩ := hP
  have hx := Bd.exec
  have hby := Bd.bytes
  have hlk : meth.locks = false := BodyLoose.notSynchronized Bd
  have hml : c.maxLocals = 20 := hml0
  have hown : s.vm.findClass "com/example/cast3/cast3/EntryComesAfterPinLaw" = some m.cls := findClass_of_methodNamed Bd.named
  have hnm := (name_of_methodNamed Bd.named Bd.method).1
  have X0 : Stand p l e room_1 s m #[(.long i1), (.long t1), (.long i2), (.long t2), (.int md)] below meth c s₁ [] 0 0 := Stand.of_body Bd
  have e0 : s₁.heap = h0 := by rw [← hh, Bd.state]; rfl
  have N0 := Fr.nil n0
  refine own_start (QQ := own_law_Q Z i1 t1 i2 t2 md h0 n0) (rc := room_1.cells) (rs := room_1.slots) (own_law_ef m i1 t1 i2 t2 md ) ?_
  have J13 : ∀ tb : Int64, own_G p.tables e below (own_P s (own_law_Q Z i1 t1 i2 t2 md h0 n0) room_1.cells room_1.slots) (s₁.setTop (mkF m 13 #[.val (.long i1), .second, .val (.long t1), .second, .val (.long i2), .second, .val (.long t2), .second, .val (.int md), .unset, .unset, .unset, .unset, .unset, .unset, .unset, .unset, .unset, .unset, .unset] [(.long tb)])) := by
    intro tb
    show own_G p.tables e below _ (s₁.setTop (mkF m 13 #[.val (.long i1), .second, .val (.long t1), .second, .val (.long i2), .second, .val (.long t2), .second, .val (.int md), .unset, .unset, .unset, .unset, .unset, .unset, .unset, .unset, .unset, .unset, .unset] [(.long tb)]))
    refine own_fs (XS.lstore X0.here hx rfl (hb hby at_13) rfl (l' := #[.val (.long i1), .second, .val (.long t1), .second, .val (.long i2), .second, .val (.long t2), .second, .val (.int md), .val (.long tb), .second, .unset, .unset, .unset, .unset, .unset, .unset, .unset, .unset, .unset]) rfl (Steps.refl _)) ?_
    have J28 : ∀ ib : Int64, own_G p.tables e below (own_P s (own_law_Q Z i1 t1 i2 t2 md h0 n0) room_1.cells room_1.slots) (s₁.setTop (mkF m 28 #[.val (.long i1), .second, .val (.long t1), .second, .val (.long i2), .second, .val (.long t2), .second, .val (.int md), .val (.long tb), .second, .unset, .unset, .unset, .unset, .unset, .unset, .unset, .unset, .unset] [(.long ib)])) := by
      intro ib
      show own_G p.tables e below _ (s₁.setTop (mkF m 28 #[.val (.long i1), .second, .val (.long t1), .second, .val (.long i2), .second, .val (.long t2), .second, .val (.int md), .val (.long tb), .second, .unset, .unset, .unset, .unset, .unset, .unset, .unset, .unset, .unset] [(.long ib)]))
      refine own_fs (XS.lstore X0.here hx rfl (hb hby at_28) rfl (l' := #[.val (.long i1), .second, .val (.long t1), .second, .val (.long i2), .second, .val (.long t2), .second, .val (.int md), .val (.long tb), .second, .val (.long ib), .second, .unset, .unset, .unset, .unset, .unset, .unset, .unset]) rfl (Steps.refl _)) ?_
      show own_G p.tables e below _ (s₁.setTop (mkF m 30 #[.val (.long i1), .second, .val (.long t1), .second, .val (.long i2), .second, .val (.long t2), .second, .val (.int md), .val (.long tb), .second, .val (.long ib), .second, .unset, .unset, .unset, .unset, .unset, .unset, .unset] []))
      obtain ⟨T1, h1, X1, e1, E1, A1, D1, -, st1⟩ := newO X0 hx hZ hown (hw _ (List.mem_of_getElem? (i := 0) rfl)) (hw _ (List.mem_of_getElem? (i := 1) rfl)) (hw _ (List.mem_of_getElem? (i := 2) rfl)) e0 (g := (mkF m 30 #[.val (.long i1), .second, .val (.long t1), .second, .val (.long i2), .second, .val (.long t2), .second, .val (.int md), .val (.long tb), .second, .val (.long ib), .second, .unset, .unset, .unset, .unset, .unset, .unset, .unset] [])) rfl (hb hby at_30) (by decide) (by decide)
      obtain ⟨b1, g1⟩ : ∃ z, z = h0.size := ⟨_, rfl⟩
      rw [← g1] at A1 D1 st1
      have ge_b1 : n0 ≤ b1 := Nat.le_trans Z0 (Nat.le_of_eq g1.symm)
      have gz_b1 : h0.size ≤ b1 := Nat.le_trans (Nat.le_refl _) (Nat.le_of_eq g1.symm)
      have F_id_b1 : Fld Z h1 b1 "com/example/cast3/cast3/Page$Entry" "id" "J" (.long (0 : Int64)) := D1 (Or.inr (hw _ (List.mem_of_getElem? (i := 15) rfl))) (ty := .long) (by decide)
      have F_time_b1 : Fld Z h1 b1 "com/example/cast3/cast3/Page$Entry" "time" "J" (.long (0 : Int64)) := D1 (Or.inr (hw _ (List.mem_of_getElem? (i := 17) rfl))) (ty := .long) (by decide)
      refine own_fs (st1 _ (Steps.refl _)) ?_
      show own_G p.tables e below _ (T1.setTop (mkF m 33 #[.val (.long i1), .second, .val (.long t1), .second, .val (.long i2), .second, .val (.long t2), .second, .val (.int md), .val (.long tb), .second, .val (.long ib), .second, .unset, .unset, .unset, .unset, .unset, .unset, .unset] [(.ref b1)]))
      refine own_fs (XS.dup X1.here hx rfl (hb hby at_33) rfl rfl (Steps.refl _)) ?_
      show own_G p.tables e below _ (T1.setTop (mkF m 34 #[.val (.long i1), .second, .val (.long t1), .second, .val (.long i2), .second, .val (.long t2), .second, .val (.int md), .val (.long tb), .second, .val (.long ib), .second, .unset, .unset, .unset, .unset, .unset, .unset, .unset] [(.ref b1), (.ref b1)]))
      refine own_fs (XS.lloadN X1.here hx rfl (hb hby at_34) rfl (Steps.refl _)) ?_
      show own_G p.tables e below _ (T1.setTop (mkF m 35 #[.val (.long i1), .second, .val (.long t1), .second, .val (.long i2), .second, .val (.long t2), .second, .val (.int md), .val (.long tb), .second, .val (.long ib), .second, .unset, .unset, .unset, .unset, .unset, .unset, .unset] [(.long i1), (.ref b1), (.ref b1)]))
      refine own_fs (XS.lloadN X1.here hx rfl (hb hby at_35) rfl (Steps.refl _)) ?_
      show own_G p.tables e below _ (T1.setTop (mkF m 36 #[.val (.long i1), .second, .val (.long t1), .second, .val (.long i2), .second, .val (.long t2), .second, .val (.int md), .val (.long tb), .second, .val (.long ib), .second, .unset, .unset, .unset, .unset, .unset, .unset, .unset] [(.long t1), (.long i1), (.ref b1), (.ref b1)]))
      have Zs4 : n0 ≤ h1.size := (Nat.le_trans Z0 E1.1)
      obtain ⟨_, _, ⟨T3, L3, k3, n3⟩, -, X3, ⟨Lc3, hQ3, l3, y3, z3⟩, st3⟩ := X1.specialBack hx (y := (⟨"com/example/cast3/cast3/Page$Entry", "<init>", "(JJ)V"⟩ : MethodName)) rfl hown (mvT hZ (hw _ (List.mem_of_getElem? (i := 3) rfl))) (mvT hZ (hw _ (List.mem_of_getElem? (i := 4) rfl))) (mvT hZ (hw _ (List.mem_of_getElem? (i := 5) rfl))) (by decide) (backOf (W := 1) (own_init l Z a0 hw [] b1 i1 t1 (0 : Int64) (0 : Int64) h1 n0 Zs4 A1 F_id_b1 F_time_b1 ge_b1) hZ (hw _ (List.mem_of_getElem? (i := 5) rfl)) (hw _ (List.mem_of_getElem? (i := 2) rfl)) (by decide) (by decide)) (g := (mkF m 36 #[.val (.long i1), .second, .val (.long t1), .second, .val (.long i2), .second, .val (.long t2), .second, .val (.int md), .val (.long tb), .second, .val (.long ib), .second, .unset, .unset, .unset, .unset, .unset, .unset, .unset] [(.long t1), (.long i1), (.ref b1), (.ref b1)])) rfl (by rw [hml]; rfl) (Steps.refl _) (a := b1) (argsL := [(.long i1), (.long t1)]) (rest := [(.ref b1)]) (lenOf own_pd1 rfl) rfl (by show 2 * 0 + _ ≤ _; exact Nat.le_of_eq rfl) (hb hby at_36) (fun _ _ => ⟨rfl, e1, (by decide : 1 + 0 ≤ _), (by decide : 2 + 0 ≤ _)⟩)
      dsimp only [Pt.U, Pt.locs, Pt.cells, Pt.slots] at X3 l3 y3 z3 st3 hQ3
      subst l3 y3 z3
      obtain ⟨h3, e3⟩ : ∃ h, T3.heap = h := ⟨_, rfl⟩
      rw [e3] at hQ3
      obtain ⟨rfl, Nq3, K3, P2_0, P2_1⟩ := hQ3
      have N3 := Fr.app N0 Nq3
      refine own_fs st3 ?_
      show own_G p.tables e below _ (T3.setTop (mkF m 39 #[.val (.long i1), .second, .val (.long t1), .second, .val (.long i2), .second, .val (.long t2), .second, .val (.int md), .val (.long tb), .second, .val (.long ib), .second, .unset, .unset, .unset, .unset, .unset, .unset, .unset] [(.ref b1)]))
      refine own_fs (XS.astore X3.here hx rfl (hb hby at_39) rfl rfl (l' := #[.val (.long i1), .second, .val (.long t1), .second, .val (.long i2), .second, .val (.long t2), .second, .val (.int md), .val (.long tb), .second, .val (.long ib), .second, .val (.ref b1), .unset, .unset, .unset, .unset, .unset, .unset]) rfl (Steps.refl _)) ?_
      show own_G p.tables e below _ (T3.setTop (mkF m 41 #[.val (.long i1), .second, .val (.long t1), .second, .val (.long i2), .second, .val (.long t2), .second, .val (.int md), .val (.long tb), .second, .val (.long ib), .second, .val (.ref b1), .unset, .unset, .unset, .unset, .unset, .unset] []))
      obtain ⟨T5, h5, X5, e5, E5, A5, D5, -, st5⟩ := newO X3 hx hZ hown (hw _ (List.mem_of_getElem? (i := 0) rfl)) (hw _ (List.mem_of_getElem? (i := 1) rfl)) (hw _ (List.mem_of_getElem? (i := 2) rfl)) e3 (g := (mkF m 41 #[.val (.long i1), .second, .val (.long t1), .second, .val (.long i2), .second, .val (.long t2), .second, .val (.int md), .val (.long tb), .second, .val (.long ib), .second, .val (.ref b1), .unset, .unset, .unset, .unset, .unset, .unset] [])) rfl (hb hby at_41) (by decide) (by decide)
      obtain ⟨b5, g5⟩ : ∃ z, z = h3.size := ⟨_, rfl⟩
      rw [← g5] at A5 D5 st5
      have ge_b5 : n0 ≤ b5 := Nat.le_trans (Nat.le_trans (Nat.le_trans Z0 E1.1) K3.1) (Nat.le_of_eq g5.symm)
      have gz_b5 : h0.size ≤ b5 := Nat.le_trans (Nat.le_trans (Nat.le_trans (Nat.le_refl _) E1.1) K3.1) (Nat.le_of_eq g5.symm)
      have F_id_b5 : Fld Z h5 b5 "com/example/cast3/cast3/Page$Entry" "id" "J" (.long (0 : Int64)) := D5 (Or.inr (hw _ (List.mem_of_getElem? (i := 15) rfl))) (ty := .long) (by decide)
      have F_time_b5 : Fld Z h5 b5 "com/example/cast3/cast3/Page$Entry" "time" "J" (.long (0 : Int64)) := D5 (Or.inr (hw _ (List.mem_of_getElem? (i := 17) rfl))) (ty := .long) (by decide)
      refine own_fs (st5 _ (Steps.refl _)) ?_
      show own_G p.tables e below _ (T5.setTop (mkF m 44 #[.val (.long i1), .second, .val (.long t1), .second, .val (.long i2), .second, .val (.long t2), .second, .val (.int md), .val (.long tb), .second, .val (.long ib), .second, .val (.ref b1), .unset, .unset, .unset, .unset, .unset, .unset] [(.ref b5)]))
      refine own_fs (XS.dup X5.here hx rfl (hb hby at_44) rfl rfl (Steps.refl _)) ?_
      show own_G p.tables e below _ (T5.setTop (mkF m 45 #[.val (.long i1), .second, .val (.long t1), .second, .val (.long i2), .second, .val (.long t2), .second, .val (.int md), .val (.long tb), .second, .val (.long ib), .second, .val (.ref b1), .unset, .unset, .unset, .unset, .unset, .unset] [(.ref b5), (.ref b5)]))
      refine own_fs (XS.lload X5.here hx rfl (hb hby at_45) rfl (Steps.refl _)) ?_
      show own_G p.tables e below _ (T5.setTop (mkF m 47 #[.val (.long i1), .second, .val (.long t1), .second, .val (.long i2), .second, .val (.long t2), .second, .val (.int md), .val (.long tb), .second, .val (.long ib), .second, .val (.ref b1), .unset, .unset, .unset, .unset, .unset, .unset] [(.long ib), (.ref b5), (.ref b5)]))
      refine own_fs (XS.lload X5.here hx rfl (hb hby at_47) rfl (Steps.refl _)) ?_
      show own_G p.tables e below _ (T5.setTop (mkF m 49 #[.val (.long i1), .second, .val (.long t1), .second, .val (.long i2), .second, .val (.long t2), .second, .val (.int md), .val (.long tb), .second, .val (.long ib), .second, .val (.ref b1), .unset, .unset, .unset, .unset, .unset, .unset] [(.long tb), (.long ib), (.ref b5), (.ref b5)]))
      have Zs8 : n0 ≤ h5.size := (Nat.le_trans (Nat.le_trans (Nat.le_trans Z0 E1.1) K3.1) E5.1)
      obtain ⟨_, _, ⟨T7, L7, k7, n7⟩, -, X7, ⟨Lc7, hQ7, l7, y7, z7⟩, st7⟩ := X5.specialBack hx (y := (⟨"com/example/cast3/cast3/Page$Entry", "<init>", "(JJ)V"⟩ : MethodName)) rfl hown (mvT hZ (hw _ (List.mem_of_getElem? (i := 3) rfl))) (mvT hZ (hw _ (List.mem_of_getElem? (i := 4) rfl))) (mvT hZ (hw _ (List.mem_of_getElem? (i := 5) rfl))) (by decide) (backOf (W := 1) (own_init l Z a0 hw [] b5 ib tb (0 : Int64) (0 : Int64) h5 n0 Zs8 A5 F_id_b5 F_time_b5 ge_b5) hZ (hw _ (List.mem_of_getElem? (i := 5) rfl)) (hw _ (List.mem_of_getElem? (i := 2) rfl)) (by decide) (by decide)) (g := (mkF m 49 #[.val (.long i1), .second, .val (.long t1), .second, .val (.long i2), .second, .val (.long t2), .second, .val (.int md), .val (.long tb), .second, .val (.long ib), .second, .val (.ref b1), .unset, .unset, .unset, .unset, .unset, .unset] [(.long tb), (.long ib), (.ref b5), (.ref b5)])) rfl (by rw [hml]; rfl) (Steps.refl _) (a := b5) (argsL := [(.long ib), (.long tb)]) (rest := [(.ref b5)]) (lenOf own_pd1 rfl) rfl (by show 2 * 0 + _ ≤ _; exact Nat.le_of_eq rfl) (hb hby at_49) (fun _ _ => ⟨rfl, e5, (by decide : 2 + 0 ≤ _), (by decide : 4 + 0 ≤ _)⟩)
      dsimp only [Pt.U, Pt.locs, Pt.cells, Pt.slots] at X7 l7 y7 z7 st7 hQ7
      subst l7 y7 z7
      obtain ⟨h7, e7⟩ : ∃ h, T7.heap = h := ⟨_, rfl⟩
      rw [e7] at hQ7
      obtain ⟨rfl, Nq7, K7, P6_0, P6_1⟩ := hQ7
      have N7 := Fr.app N3 Nq7
      refine own_fs st7 ?_
      show own_G p.tables e below _ (T7.setTop (mkF m 52 #[.val (.long i1), .second, .val (.long t1), .second, .val (.long i2), .second, .val (.long t2), .second, .val (.int md), .val (.long tb), .second, .val (.long ib), .second, .val (.ref b1), .unset, .unset, .unset, .unset, .unset, .unset] [(.ref b5)]))
      refine own_fs (XS.astore X7.here hx rfl (hb hby at_52) rfl rfl (l' := #[.val (.long i1), .second, .val (.long t1), .second, .val (.long i2), .second, .val (.long t2), .second, .val (.int md), .val (.long tb), .second, .val (.long ib), .second, .val (.ref b1), .val (.ref b5), .unset, .unset, .unset, .unset, .unset]) rfl (Steps.refl _)) ?_
      show own_G p.tables e below _ (T7.setTop (mkF m 54 #[.val (.long i1), .second, .val (.long t1), .second, .val (.long i2), .second, .val (.long t2), .second, .val (.int md), .val (.long tb), .second, .val (.long ib), .second, .val (.ref b1), .val (.ref b5), .unset, .unset, .unset, .unset, .unset] []))
      refine own_fs (XS.aload X7.here hx rfl (hb hby at_54) rfl rfl (Steps.refl _)) ?_
      show own_G p.tables e below _ (T7.setTop (mkF m 56 #[.val (.long i1), .second, .val (.long t1), .second, .val (.long i2), .second, .val (.long t2), .second, .val (.int md), .val (.long tb), .second, .val (.long ib), .second, .val (.ref b1), .val (.ref b5), .unset, .unset, .unset, .unset, .unset] [(.ref b1)]))
      refine own_fs (XS.aload X7.here hx rfl (hb hby at_56) rfl rfl (Steps.refl _)) ?_
      show own_G p.tables e below _ (T7.setTop (mkF m 58 #[.val (.long i1), .second, .val (.long t1), .second, .val (.long i2), .second, .val (.long t2), .second, .val (.int md), .val (.long tb), .second, .val (.long ib), .second, .val (.ref b1), .val (.ref b5), .unset, .unset, .unset, .unset, .unset] [(.ref b5), (.ref b1)]))
      have Zs11 : n0 ≤ h7.size := (Nat.le_trans (Nat.le_trans (Nat.le_trans (Nat.le_trans Z0 E1.1) K3.1) E5.1) K7.1)
      obtain ⟨cq10, kq10, q10a, q10b, q10c⟩ := isOf hZ e7 ((Exa.ext E5 (A1.keep K3)).keep K7)
      obtain ⟨_, _, ⟨T10, L10, k10, n10⟩, -, X10, ⟨Lc10, hQ10, l10, y10, z10⟩, st10⟩ := X7.virtualBack hx (y := (⟨"com/example/cast3/cast3/Page$Entry", "comesAfter", "(Lcom/example/cast3/cast3/Page$Entry;)Z"⟩ : MethodName)) (z := (⟨"com/example/cast3/cast3/Page$Entry", "comesAfter", "(Lcom/example/cast3/cast3/Page$Entry;)Z"⟩ : MethodName)) hown (mvT hZ (hw _ (List.mem_of_getElem? (i := 18) rfl))) (mvT hZ (hw _ (List.mem_of_getElem? (i := 19) rfl))) (notFace_of_selects (args := #[]) (mvT hZ (hw _ (List.mem_of_getElem? (i := 21) rfl)))) (mvT hZ (hw _ (List.mem_of_getElem? (i := 21) rfl))) (mvT hZ (hw _ (List.mem_of_getElem? (i := 20) rfl))) (by decide) (backOf (W := 0) (own_comes l Z a0 hw [] b1 b5 i1 t1 ib tb h7 n0 Zs11 ((Fld.ext E5 P2_0).keep K7 (ninS (Nat.ne_of_lt (Nat.lt_of_lt_of_le (Exa.lt (A1.keep K3)) (Nat.le_of_eq g5.symm))) nin0)) ((Fld.ext E5 P2_1).keep K7 (ninS (Nat.ne_of_lt (Nat.lt_of_lt_of_le (Exa.lt (A1.keep K3)) (Nat.le_of_eq g5.symm))) nin0)) P6_0 P6_1) hZ (hw _ (List.mem_of_getElem? (i := 22) rfl)) (hw _ (List.mem_of_getElem? (i := 2) rfl)) (by decide) (by decide)) q10a q10c (g := (mkF m 58 #[.val (.long i1), .second, .val (.long t1), .second, .val (.long i2), .second, .val (.long t2), .second, .val (.int md), .val (.long tb), .second, .val (.long ib), .second, .val (.ref b1), .val (.ref b5), .unset, .unset, .unset, .unset, .unset] [(.ref b5), (.ref b1)])) rfl (by rw [hml]; rfl) (Steps.refl _) (argsL := [(.ref b5)]) (rest := []) (lenOf own_pd2 rfl) rfl (by show 2 * 0 + _ ≤ _; exact Nat.le_of_eq rfl) (hb hby at_58) (fun _ _ => ⟨rfl, e7, (by decide : 2 + 0 ≤ _), (by decide : 4 + 0 ≤ _)⟩)
      dsimp only [Pt.U, Pt.locs, Pt.cells, Pt.slots] at X10 l10 y10 z10 st10 hQ10
      subst l10 y10 z10
      obtain ⟨rfl, Nq10, e10⟩ := hQ10
      have N10 := Fr.app N7 Nq10
      refine own_fs st10 ?_
      show own_G p.tables e below _ (T10.setTop (mkF m 61 #[.val (.long i1), .second, .val (.long t1), .second, .val (.long i2), .second, .val (.long t2), .second, .val (.int md), .val (.long tb), .second, .val (.long ib), .second, .val (.ref b1), .val (.ref b5), .unset, .unset, .unset, .unset, .unset] [(.int (own_ca i1 t1 ib tb))]))
      refine own_fs (XS.istore X10.here hx rfl (hb hby at_61) rfl (l' := #[.val (.long i1), .second, .val (.long t1), .second, .val (.long i2), .second, .val (.long t2), .second, .val (.int md), .val (.long tb), .second, .val (.long ib), .second, .val (.ref b1), .val (.ref b5), .val (.int (own_ca i1 t1 ib tb)), .unset, .unset, .unset, .unset]) rfl (Steps.refl _)) ?_
      show own_G p.tables e below _ (T10.setTop (mkF m 63 #[.val (.long i1), .second, .val (.long t1), .second, .val (.long i2), .second, .val (.long t2), .second, .val (.int md), .val (.long tb), .second, .val (.long ib), .second, .val (.ref b1), .val (.ref b5), .val (.int (own_ca i1 t1 ib tb)), .unset, .unset, .unset, .unset] []))
      refine own_fs (XS.aload X10.here hx rfl (hb hby at_63) rfl rfl (Steps.refl _)) ?_
      show own_G p.tables e below _ (T10.setTop (mkF m 65 #[.val (.long i1), .second, .val (.long t1), .second, .val (.long i2), .second, .val (.long t2), .second, .val (.int md), .val (.long tb), .second, .val (.long ib), .second, .val (.ref b1), .val (.ref b5), .val (.int (own_ca i1 t1 ib tb)), .unset, .unset, .unset, .unset] [(.ref b5)]))
      refine own_fs (XS.aload X10.here hx rfl (hb hby at_65) rfl rfl (Steps.refl _)) ?_
      show own_G p.tables e below _ (T10.setTop (mkF m 67 #[.val (.long i1), .second, .val (.long t1), .second, .val (.long i2), .second, .val (.long t2), .second, .val (.int md), .val (.long tb), .second, .val (.long ib), .second, .val (.ref b1), .val (.ref b5), .val (.int (own_ca i1 t1 ib tb)), .unset, .unset, .unset, .unset] [(.ref b1), (.ref b5)]))
      have Zs14 : n0 ≤ h7.size := (Nat.le_trans (Nat.le_trans (Nat.le_trans (Nat.le_trans Z0 E1.1) K3.1) E5.1) K7.1)
      obtain ⟨cq13, kq13, q13a, q13b, q13c⟩ := isOf hZ e10 (A5.keep K7)
      obtain ⟨_, _, ⟨T13, L13, k13, n13⟩, -, X13, ⟨Lc13, hQ13, l13, y13, z13⟩, st13⟩ := X10.virtualBack hx (y := (⟨"com/example/cast3/cast3/Page$Entry", "comesAfter", "(Lcom/example/cast3/cast3/Page$Entry;)Z"⟩ : MethodName)) (z := (⟨"com/example/cast3/cast3/Page$Entry", "comesAfter", "(Lcom/example/cast3/cast3/Page$Entry;)Z"⟩ : MethodName)) hown (mvT hZ (hw _ (List.mem_of_getElem? (i := 18) rfl))) (mvT hZ (hw _ (List.mem_of_getElem? (i := 19) rfl))) (notFace_of_selects (args := #[]) (mvT hZ (hw _ (List.mem_of_getElem? (i := 21) rfl)))) (mvT hZ (hw _ (List.mem_of_getElem? (i := 21) rfl))) (mvT hZ (hw _ (List.mem_of_getElem? (i := 20) rfl))) (by decide) (backOf (W := 0) (own_comes l Z a0 hw [] b5 b1 ib tb i1 t1 h7 n0 Zs14 P6_0 P6_1 ((Fld.ext E5 P2_0).keep K7 (ninS (Nat.ne_of_lt (Nat.lt_of_lt_of_le (Exa.lt (A1.keep K3)) (Nat.le_of_eq g5.symm))) nin0)) ((Fld.ext E5 P2_1).keep K7 (ninS (Nat.ne_of_lt (Nat.lt_of_lt_of_le (Exa.lt (A1.keep K3)) (Nat.le_of_eq g5.symm))) nin0))) hZ (hw _ (List.mem_of_getElem? (i := 22) rfl)) (hw _ (List.mem_of_getElem? (i := 2) rfl)) (by decide) (by decide)) q13a q13c (g := (mkF m 67 #[.val (.long i1), .second, .val (.long t1), .second, .val (.long i2), .second, .val (.long t2), .second, .val (.int md), .val (.long tb), .second, .val (.long ib), .second, .val (.ref b1), .val (.ref b5), .val (.int (own_ca i1 t1 ib tb)), .unset, .unset, .unset, .unset] [(.ref b1), (.ref b5)])) rfl (by rw [hml]; rfl) (Steps.refl _) (argsL := [(.ref b1)]) (rest := []) (lenOf own_pd2 rfl) rfl (by show 2 * 0 + _ ≤ _; exact Nat.le_of_eq rfl) (hb hby at_67) (fun _ _ => ⟨rfl, e10, (by decide : 2 + 0 ≤ _), (by decide : 4 + 0 ≤ _)⟩)
      dsimp only [Pt.U, Pt.locs, Pt.cells, Pt.slots] at X13 l13 y13 z13 st13 hQ13
      subst l13 y13 z13
      obtain ⟨rfl, Nq13, e13⟩ := hQ13
      have N13 := Fr.app N10 Nq13
      refine own_fs st13 ?_
      show own_G p.tables e below _ (T13.setTop (mkF m 70 #[.val (.long i1), .second, .val (.long t1), .second, .val (.long i2), .second, .val (.long t2), .second, .val (.int md), .val (.long tb), .second, .val (.long ib), .second, .val (.ref b1), .val (.ref b5), .val (.int (own_ca i1 t1 ib tb)), .unset, .unset, .unset, .unset] [(.int (own_ca ib tb i1 t1))]))
      refine own_fs (XS.istore X13.here hx rfl (hb hby at_70) rfl (l' := #[.val (.long i1), .second, .val (.long t1), .second, .val (.long i2), .second, .val (.long t2), .second, .val (.int md), .val (.long tb), .second, .val (.long ib), .second, .val (.ref b1), .val (.ref b5), .val (.int (own_ca i1 t1 ib tb)), .val (.int (own_ca ib tb i1 t1)), .unset, .unset, .unset]) rfl (Steps.refl _)) ?_
      show own_G p.tables e below _ (T13.setTop (mkF m 72 #[.val (.long i1), .second, .val (.long t1), .second, .val (.long i2), .second, .val (.long t2), .second, .val (.int md), .val (.long tb), .second, .val (.long ib), .second, .val (.ref b1), .val (.ref b5), .val (.int (own_ca i1 t1 ib tb)), .val (.int (own_ca ib tb i1 t1)), .unset, .unset, .unset] []))
      rcases own_tri t1 tb with ⟨ta0, ta1, ta2, ta3⟩ | ⟨ta1, ta0, ta2, ta3⟩ | ⟨ta2, ta1, ta0, ta3⟩
      · rcases own_tri i1 ib with ⟨ia0, ia1, ia2, ia3⟩ | ⟨ia1, ia0, ia2, ia3⟩ | ⟨ia2, ia1, ia0, ia3⟩
        · rw [show own_ca i1 t1 ib tb = (1 : Int32) from by simp only [own_ca, if_pos ta0, if_neg ta1, if_neg ta2, if_neg ta3, if_pos ia0, if_neg ia1, if_neg ia2, if_neg ia3]]
          rw [show own_ca ib tb i1 t1 = (0 : Int32) from by simp only [own_ca, if_pos ta0, if_neg ta1, if_neg ta2, if_neg ta3, if_pos ia0, if_neg ia1, if_neg ia2, if_neg ia3]]
          show own_G p.tables e below _ (T13.setTop (mkF m 72 #[.val (.long i1), .second, .val (.long t1), .second, .val (.long i2), .second, .val (.long t2), .second, .val (.int md), .val (.long tb), .second, .val (.long ib), .second, .val (.ref b1), .val (.ref b5), .val (.int (1 : Int32)), .val (.int (0 : Int32)), .unset, .unset, .unset] []))
          refine own_fs (XS.lloadN X13.here hx rfl (hb hby at_72) rfl (Steps.refl _)) ?_
          show own_G p.tables e below _ (T13.setTop (mkF m 73 #[.val (.long i1), .second, .val (.long t1), .second, .val (.long i2), .second, .val (.long t2), .second, .val (.int md), .val (.long tb), .second, .val (.long ib), .second, .val (.ref b1), .val (.ref b5), .val (.int (1 : Int32)), .val (.int (0 : Int32)), .unset, .unset, .unset] [(.long t1)]))
          refine own_fs (XS.lload X13.here hx rfl (hb hby at_73) rfl (Steps.refl _)) ?_
          show own_G p.tables e below _ (T13.setTop (mkF m 75 #[.val (.long i1), .second, .val (.long t1), .second, .val (.long i2), .second, .val (.long t2), .second, .val (.int md), .val (.long tb), .second, .val (.long ib), .second, .val (.ref b1), .val (.ref b5), .val (.int (1 : Int32)), .val (.int (0 : Int32)), .unset, .unset, .unset] [(.long tb), (.long t1)]))
          refine own_fs (XT.lcmp X13.here hx rfl (hb hby at_75) rfl (Steps.refl _)) ?_
          show own_G p.tables e below _ (T13.setTop (mkF m 76 #[.val (.long i1), .second, .val (.long t1), .second, .val (.long i2), .second, .val (.long t2), .second, .val (.int md), .val (.long tb), .second, .val (.long ib), .second, .val (.ref b1), .val (.ref b5), .val (.int (1 : Int32)), .val (.int (0 : Int32)), .unset, .unset, .unset] [(.int (XT.cmpL t1 tb))]))
          refine own_fs (XS.ifNo X13.here hx rfl (hb hby at_76) rfl (XT.ll_eq_f ta1) (Steps.refl _)) ?_
          show own_G p.tables e below _ (T13.setTop (mkF m 79 #[.val (.long i1), .second, .val (.long t1), .second, .val (.long i2), .second, .val (.long t2), .second, .val (.int md), .val (.long tb), .second, .val (.long ib), .second, .val (.ref b1), .val (.ref b5), .val (.int (1 : Int32)), .val (.int (0 : Int32)), .unset, .unset, .unset] []))
          refine own_fs (XS.lloadN X13.here hx rfl (hb hby at_79) rfl (Steps.refl _)) ?_
          show own_G p.tables e below _ (T13.setTop (mkF m 80 #[.val (.long i1), .second, .val (.long t1), .second, .val (.long i2), .second, .val (.long t2), .second, .val (.int md), .val (.long tb), .second, .val (.long ib), .second, .val (.ref b1), .val (.ref b5), .val (.int (1 : Int32)), .val (.int (0 : Int32)), .unset, .unset, .unset] [(.long t1)]))
          refine own_fs (XS.lload X13.here hx rfl (hb hby at_80) rfl (Steps.refl _)) ?_
          show own_G p.tables e below _ (T13.setTop (mkF m 82 #[.val (.long i1), .second, .val (.long t1), .second, .val (.long i2), .second, .val (.long t2), .second, .val (.int md), .val (.long tb), .second, .val (.long ib), .second, .val (.ref b1), .val (.ref b5), .val (.int (1 : Int32)), .val (.int (0 : Int32)), .unset, .unset, .unset] [(.long tb), (.long t1)]))
          refine own_fs (XT.lcmp X13.here hx rfl (hb hby at_82) rfl (Steps.refl _)) ?_
          show own_G p.tables e below _ (T13.setTop (mkF m 83 #[.val (.long i1), .second, .val (.long t1), .second, .val (.long i2), .second, .val (.long t2), .second, .val (.int md), .val (.long tb), .second, .val (.long ib), .second, .val (.ref b1), .val (.ref b5), .val (.int (1 : Int32)), .val (.int (0 : Int32)), .unset, .unset, .unset] [(.int (XT.cmpL t1 tb))]))
          refine own_fs (XS.ifNo X13.here hx rfl (hb hby at_83) rfl (XT.ll_ge_f ta0) (Steps.refl _)) ?_
          show own_G p.tables e below _ (T13.setTop (mkF m 86 #[.val (.long i1), .second, .val (.long t1), .second, .val (.long i2), .second, .val (.long t2), .second, .val (.int md), .val (.long tb), .second, .val (.long ib), .second, .val (.ref b1), .val (.ref b5), .val (.int (1 : Int32)), .val (.int (0 : Int32)), .unset, .unset, .unset] []))
          refine own_fs (XS.iconst X13.here hx rfl (hb hby at_86) (Steps.refl _)) ?_
          show own_G p.tables e below _ (T13.setTop (mkF m 87 #[.val (.long i1), .second, .val (.long t1), .second, .val (.long i2), .second, .val (.long t2), .second, .val (.int md), .val (.long tb), .second, .val (.long ib), .second, .val (.ref b1), .val (.ref b5), .val (.int (1 : Int32)), .val (.int (0 : Int32)), .unset, .unset, .unset] [(.int (1 : Int32))]))
          refine own_fs (XS.goto X13.here hx rfl (pc0 := 87) (pc' := 91) rfl (hb hby at_87) (by decide) (by decide) (Steps.refl _)) ?_
          show own_G p.tables e below _ (T13.setTop (mkF m 91 #[.val (.long i1), .second, .val (.long t1), .second, .val (.long i2), .second, .val (.long t2), .second, .val (.int md), .val (.long tb), .second, .val (.long ib), .second, .val (.ref b1), .val (.ref b5), .val (.int (1 : Int32)), .val (.int (0 : Int32)), .unset, .unset, .unset] [(.int (1 : Int32))]))
          refine own_fs (XS.istore X13.here hx rfl (hb hby at_91) rfl (l' := #[.val (.long i1), .second, .val (.long t1), .second, .val (.long i2), .second, .val (.long t2), .second, .val (.int md), .val (.long tb), .second, .val (.long ib), .second, .val (.ref b1), .val (.ref b5), .val (.int (1 : Int32)), .val (.int (0 : Int32)), .val (.int (1 : Int32)), .unset, .unset]) rfl (Steps.refl _)) ?_
          show own_G p.tables e below _ (T13.setTop (mkF m 93 #[.val (.long i1), .second, .val (.long t1), .second, .val (.long i2), .second, .val (.long t2), .second, .val (.int md), .val (.long tb), .second, .val (.long ib), .second, .val (.ref b1), .val (.ref b5), .val (.int (1 : Int32)), .val (.int (0 : Int32)), .val (.int (1 : Int32)), .unset, .unset] []))
          refine own_fs (XS.goto X13.here hx rfl (pc0 := 93) (pc' := 123) rfl (hb hby at_93) (by decide) (by decide) (Steps.refl _)) ?_
          show own_G p.tables e below _ (T13.setTop (mkF m 123 #[.val (.long i1), .second, .val (.long t1), .second, .val (.long i2), .second, .val (.long t2), .second, .val (.int md), .val (.long tb), .second, .val (.long ib), .second, .val (.ref b1), .val (.ref b5), .val (.int (1 : Int32)), .val (.int (0 : Int32)), .val (.int (1 : Int32)), .unset, .unset] []))
          refine own_fs (XS.lloadN X13.here hx rfl (hb hby at_123) rfl (Steps.refl _)) ?_
          show own_G p.tables e below _ (T13.setTop (mkF m 124 #[.val (.long i1), .second, .val (.long t1), .second, .val (.long i2), .second, .val (.long t2), .second, .val (.int md), .val (.long tb), .second, .val (.long ib), .second, .val (.ref b1), .val (.ref b5), .val (.int (1 : Int32)), .val (.int (0 : Int32)), .val (.int (1 : Int32)), .unset, .unset] [(.long t1)]))
          refine own_fs (XS.lload X13.here hx rfl (hb hby at_124) rfl (Steps.refl _)) ?_
          show own_G p.tables e below _ (T13.setTop (mkF m 126 #[.val (.long i1), .second, .val (.long t1), .second, .val (.long i2), .second, .val (.long t2), .second, .val (.int md), .val (.long tb), .second, .val (.long ib), .second, .val (.ref b1), .val (.ref b5), .val (.int (1 : Int32)), .val (.int (0 : Int32)), .val (.int (1 : Int32)), .unset, .unset] [(.long tb), (.long t1)]))
          refine own_fs (XT.lcmp X13.here hx rfl (hb hby at_126) rfl (Steps.refl _)) ?_
          show own_G p.tables e below _ (T13.setTop (mkF m 127 #[.val (.long i1), .second, .val (.long t1), .second, .val (.long i2), .second, .val (.long t2), .second, .val (.int md), .val (.long tb), .second, .val (.long ib), .second, .val (.ref b1), .val (.ref b5), .val (.int (1 : Int32)), .val (.int (0 : Int32)), .val (.int (1 : Int32)), .unset, .unset] [(.int (XT.cmpL t1 tb))]))
          refine own_fs (XS.ifYes X13.here hx rfl (pc0 := 127) (pc' := 141) rfl (hb hby at_127) rfl (XT.ll_ne_t ta1) (by decide) (by decide) (Steps.refl _)) ?_
          show own_G p.tables e below _ (T13.setTop (mkF m 141 #[.val (.long i1), .second, .val (.long t1), .second, .val (.long i2), .second, .val (.long t2), .second, .val (.int md), .val (.long tb), .second, .val (.long ib), .second, .val (.ref b1), .val (.ref b5), .val (.int (1 : Int32)), .val (.int (0 : Int32)), .val (.int (1 : Int32)), .unset, .unset] []))
          refine own_fs (XS.iconst X13.here hx rfl (hb hby at_141) (Steps.refl _)) ?_
          show own_G p.tables e below _ (T13.setTop (mkF m 142 #[.val (.long i1), .second, .val (.long t1), .second, .val (.long i2), .second, .val (.long t2), .second, .val (.int md), .val (.long tb), .second, .val (.long ib), .second, .val (.ref b1), .val (.ref b5), .val (.int (1 : Int32)), .val (.int (0 : Int32)), .val (.int (1 : Int32)), .unset, .unset] [(.int (0 : Int32))]))
          refine own_fs (XS.istore X13.here hx rfl (hb hby at_142) rfl (l' := #[.val (.long i1), .second, .val (.long t1), .second, .val (.long i2), .second, .val (.long t2), .second, .val (.int md), .val (.long tb), .second, .val (.long ib), .second, .val (.ref b1), .val (.ref b5), .val (.int (1 : Int32)), .val (.int (0 : Int32)), .val (.int (1 : Int32)), .val (.int (0 : Int32)), .unset]) rfl (Steps.refl _)) ?_
          show own_G p.tables e below _ (T13.setTop (mkF m 144 #[.val (.long i1), .second, .val (.long t1), .second, .val (.long i2), .second, .val (.long t2), .second, .val (.int md), .val (.long tb), .second, .val (.long ib), .second, .val (.ref b1), .val (.ref b5), .val (.int (1 : Int32)), .val (.int (0 : Int32)), .val (.int (1 : Int32)), .val (.int (0 : Int32)), .unset] []))
          refine own_fs (XS.iload X13.here hx rfl (hb hby at_144) rfl (Steps.refl _)) ?_
          show own_G p.tables e below _ (T13.setTop (mkF m 146 #[.val (.long i1), .second, .val (.long t1), .second, .val (.long i2), .second, .val (.long t2), .second, .val (.int md), .val (.long tb), .second, .val (.long ib), .second, .val (.ref b1), .val (.ref b5), .val (.int (1 : Int32)), .val (.int (0 : Int32)), .val (.int (1 : Int32)), .val (.int (0 : Int32)), .unset] [(.int (0 : Int32))]))
          refine own_fs (XS.ifYes X13.here hx rfl (pc0 := 146) (pc' := 169) rfl (hb hby at_146) rfl (XT.i0_eq_t (by decide : (0 : Int32) = (0 : Int32))) (by decide) (by decide) (Steps.refl _)) ?_
          show own_G p.tables e below _ (T13.setTop (mkF m 169 #[.val (.long i1), .second, .val (.long t1), .second, .val (.long i2), .second, .val (.long t2), .second, .val (.int md), .val (.long tb), .second, .val (.long ib), .second, .val (.ref b1), .val (.ref b5), .val (.int (1 : Int32)), .val (.int (0 : Int32)), .val (.int (1 : Int32)), .val (.int (0 : Int32)), .unset] []))
          refine own_fs (XS.iload X13.here hx rfl (hb hby at_169) rfl (Steps.refl _)) ?_
          show own_G p.tables e below _ (T13.setTop (mkF m 171 #[.val (.long i1), .second, .val (.long t1), .second, .val (.long i2), .second, .val (.long t2), .second, .val (.int md), .val (.long tb), .second, .val (.long ib), .second, .val (.ref b1), .val (.ref b5), .val (.int (1 : Int32)), .val (.int (0 : Int32)), .val (.int (1 : Int32)), .val (.int (0 : Int32)), .unset] [(.int (1 : Int32))]))
          refine own_fs (XS.iload X13.here hx rfl (hb hby at_171) rfl (Steps.refl _)) ?_
          show own_G p.tables e below _ (T13.setTop (mkF m 173 #[.val (.long i1), .second, .val (.long t1), .second, .val (.long i2), .second, .val (.long t2), .second, .val (.int md), .val (.long tb), .second, .val (.long ib), .second, .val (.ref b1), .val (.ref b5), .val (.int (1 : Int32)), .val (.int (0 : Int32)), .val (.int (1 : Int32)), .val (.int (0 : Int32)), .unset] [(.int (0 : Int32)), (.int (1 : Int32))]))
          refine own_fs (XS.icmpNo X13.here hx rfl (hb hby at_173) rfl (XT.ii_eq_f (by decide : ¬ ((1 : Int32) = (0 : Int32)))) (Steps.refl _)) ?_
          show own_G p.tables e below _ (T13.setTop (mkF m 176 #[.val (.long i1), .second, .val (.long t1), .second, .val (.long i2), .second, .val (.long t2), .second, .val (.int md), .val (.long tb), .second, .val (.long ib), .second, .val (.ref b1), .val (.ref b5), .val (.int (1 : Int32)), .val (.int (0 : Int32)), .val (.int (1 : Int32)), .val (.int (0 : Int32)), .unset] []))
          refine own_fs (XS.iconst X13.here hx rfl (hb hby at_176) (Steps.refl _)) ?_
          show own_G p.tables e below _ (T13.setTop (mkF m 177 #[.val (.long i1), .second, .val (.long t1), .second, .val (.long i2), .second, .val (.long t2), .second, .val (.int md), .val (.long tb), .second, .val (.long ib), .second, .val (.ref b1), .val (.ref b5), .val (.int (1 : Int32)), .val (.int (0 : Int32)), .val (.int (1 : Int32)), .val (.int (0 : Int32)), .unset] [(.int (1 : Int32))]))
          refine own_fs (XS.goto X13.here hx rfl (pc0 := 177) (pc' := 181) rfl (hb hby at_177) (by decide) (by decide) (Steps.refl _)) ?_
          show own_G p.tables e below _ (T13.setTop (mkF m 181 #[.val (.long i1), .second, .val (.long t1), .second, .val (.long i2), .second, .val (.long t2), .second, .val (.int md), .val (.long tb), .second, .val (.long ib), .second, .val (.ref b1), .val (.ref b5), .val (.int (1 : Int32)), .val (.int (0 : Int32)), .val (.int (1 : Int32)), .val (.int (0 : Int32)), .unset] [(.int (1 : Int32))]))
          refine own_fs (XS.istore X13.here hx rfl (hb hby at_181) rfl (l' := #[.val (.long i1), .second, .val (.long t1), .second, .val (.long i2), .second, .val (.long t2), .second, .val (.int md), .val (.long tb), .second, .val (.long ib), .second, .val (.ref b1), .val (.ref b5), .val (.int (1 : Int32)), .val (.int (0 : Int32)), .val (.int (1 : Int32)), .val (.int (0 : Int32)), .val (.int (1 : Int32))]) rfl (Steps.refl _)) ?_
          show own_G p.tables e below _ (T13.setTop (mkF m 183 #[.val (.long i1), .second, .val (.long t1), .second, .val (.long i2), .second, .val (.long t2), .second, .val (.int md), .val (.long tb), .second, .val (.long ib), .second, .val (.ref b1), .val (.ref b5), .val (.int (1 : Int32)), .val (.int (0 : Int32)), .val (.int (1 : Int32)), .val (.int (0 : Int32)), .val (.int (1 : Int32))] []))
          refine own_fs (XS.iload X13.here hx rfl (hb hby at_183) rfl (Steps.refl _)) ?_
          show own_G p.tables e below _ (T13.setTop (mkF m 185 #[.val (.long i1), .second, .val (.long t1), .second, .val (.long i2), .second, .val (.long t2), .second, .val (.int md), .val (.long tb), .second, .val (.long ib), .second, .val (.ref b1), .val (.ref b5), .val (.int (1 : Int32)), .val (.int (0 : Int32)), .val (.int (1 : Int32)), .val (.int (0 : Int32)), .val (.int (1 : Int32))] [(.int (1 : Int32))]))
          refine own_fs (XS.iload X13.here hx rfl (hb hby at_185) rfl (Steps.refl _)) ?_
          show own_G p.tables e below _ (T13.setTop (mkF m 187 #[.val (.long i1), .second, .val (.long t1), .second, .val (.long i2), .second, .val (.long t2), .second, .val (.int md), .val (.long tb), .second, .val (.long ib), .second, .val (.ref b1), .val (.ref b5), .val (.int (1 : Int32)), .val (.int (0 : Int32)), .val (.int (1 : Int32)), .val (.int (0 : Int32)), .val (.int (1 : Int32))] [(.int (1 : Int32)), (.int (1 : Int32))]))
          refine own_fs (XS.icmpNo X13.here hx rfl (hb hby at_187) rfl (XT.ii_ne_f (by decide : (1 : Int32) = (1 : Int32))) (Steps.refl _)) ?_
          show own_G p.tables e below _ (T13.setTop (mkF m 190 #[.val (.long i1), .second, .val (.long t1), .second, .val (.long i2), .second, .val (.long t2), .second, .val (.int md), .val (.long tb), .second, .val (.long ib), .second, .val (.ref b1), .val (.ref b5), .val (.int (1 : Int32)), .val (.int (0 : Int32)), .val (.int (1 : Int32)), .val (.int (0 : Int32)), .val (.int (1 : Int32))] []))
          refine own_fs (XS.iload X13.here hx rfl (hb hby at_190) rfl (Steps.refl _)) ?_
          show own_G p.tables e below _ (T13.setTop (mkF m 192 #[.val (.long i1), .second, .val (.long t1), .second, .val (.long i2), .second, .val (.long t2), .second, .val (.int md), .val (.long tb), .second, .val (.long ib), .second, .val (.ref b1), .val (.ref b5), .val (.int (1 : Int32)), .val (.int (0 : Int32)), .val (.int (1 : Int32)), .val (.int (0 : Int32)), .val (.int (1 : Int32))] [(.int (1 : Int32))]))
          refine own_fs (XS.ifNo X13.here hx rfl (hb hby at_192) rfl (XT.i0_eq_f (by decide : ¬ ((1 : Int32) = (0 : Int32)))) (Steps.refl _)) ?_
          show own_G p.tables e below _ (T13.setTop (mkF m 195 #[.val (.long i1), .second, .val (.long t1), .second, .val (.long i2), .second, .val (.long t2), .second, .val (.int md), .val (.long tb), .second, .val (.long ib), .second, .val (.ref b1), .val (.ref b5), .val (.int (1 : Int32)), .val (.int (0 : Int32)), .val (.int (1 : Int32)), .val (.int (0 : Int32)), .val (.int (1 : Int32))] []))
          refine own_fs (XS.iconst X13.here hx rfl (hb hby at_195) (Steps.refl _)) ?_
          show own_G p.tables e below _ (T13.setTop (mkF m 196 #[.val (.long i1), .second, .val (.long t1), .second, .val (.long i2), .second, .val (.long t2), .second, .val (.int md), .val (.long tb), .second, .val (.long ib), .second, .val (.ref b1), .val (.ref b5), .val (.int (1 : Int32)), .val (.int (0 : Int32)), .val (.int (1 : Int32)), .val (.int (0 : Int32)), .val (.int (1 : Int32))] [(.int (1 : Int32))]))
          refine own_fs (XS.goto X13.here hx rfl (pc0 := 196) (pc' := 200) rfl (hb hby at_196) (by decide) (by decide) (Steps.refl _)) ?_
          show own_G p.tables e below _ (T13.setTop (mkF m 200 #[.val (.long i1), .second, .val (.long t1), .second, .val (.long i2), .second, .val (.long t2), .second, .val (.int md), .val (.long tb), .second, .val (.long ib), .second, .val (.ref b1), .val (.ref b5), .val (.int (1 : Int32)), .val (.int (0 : Int32)), .val (.int (1 : Int32)), .val (.int (0 : Int32)), .val (.int (1 : Int32))] [(.int (1 : Int32))]))
          exact own_retN X13 hx (t := .boolean) Bd.returns hlk (by simp) (hb hby at_200) (by decide) (by decide) e13 ⟨rfl, N13⟩
        · rw [show own_ca i1 t1 ib tb = (1 : Int32) from by simp only [own_ca, if_pos ta0, if_neg ta1, if_neg ta2, if_neg ta3, if_neg ia0, if_pos ia1, if_neg ia2, if_pos ia3]]
          rw [show own_ca ib tb i1 t1 = (0 : Int32) from by simp only [own_ca, if_pos ta0, if_neg ta1, if_neg ta2, if_neg ta3, if_neg ia0, if_pos ia1, if_neg ia2, if_pos ia3]]
          show own_G p.tables e below _ (T13.setTop (mkF m 72 #[.val (.long i1), .second, .val (.long t1), .second, .val (.long i2), .second, .val (.long t2), .second, .val (.int md), .val (.long tb), .second, .val (.long ib), .second, .val (.ref b1), .val (.ref b5), .val (.int (1 : Int32)), .val (.int (0 : Int32)), .unset, .unset, .unset] []))
          refine own_fs (XS.lloadN X13.here hx rfl (hb hby at_72) rfl (Steps.refl _)) ?_
          show own_G p.tables e below _ (T13.setTop (mkF m 73 #[.val (.long i1), .second, .val (.long t1), .second, .val (.long i2), .second, .val (.long t2), .second, .val (.int md), .val (.long tb), .second, .val (.long ib), .second, .val (.ref b1), .val (.ref b5), .val (.int (1 : Int32)), .val (.int (0 : Int32)), .unset, .unset, .unset] [(.long t1)]))
          refine own_fs (XS.lload X13.here hx rfl (hb hby at_73) rfl (Steps.refl _)) ?_
          show own_G p.tables e below _ (T13.setTop (mkF m 75 #[.val (.long i1), .second, .val (.long t1), .second, .val (.long i2), .second, .val (.long t2), .second, .val (.int md), .val (.long tb), .second, .val (.long ib), .second, .val (.ref b1), .val (.ref b5), .val (.int (1 : Int32)), .val (.int (0 : Int32)), .unset, .unset, .unset] [(.long tb), (.long t1)]))
          refine own_fs (XT.lcmp X13.here hx rfl (hb hby at_75) rfl (Steps.refl _)) ?_
          show own_G p.tables e below _ (T13.setTop (mkF m 76 #[.val (.long i1), .second, .val (.long t1), .second, .val (.long i2), .second, .val (.long t2), .second, .val (.int md), .val (.long tb), .second, .val (.long ib), .second, .val (.ref b1), .val (.ref b5), .val (.int (1 : Int32)), .val (.int (0 : Int32)), .unset, .unset, .unset] [(.int (XT.cmpL t1 tb))]))
          refine own_fs (XS.ifNo X13.here hx rfl (hb hby at_76) rfl (XT.ll_eq_f ta1) (Steps.refl _)) ?_
          show own_G p.tables e below _ (T13.setTop (mkF m 79 #[.val (.long i1), .second, .val (.long t1), .second, .val (.long i2), .second, .val (.long t2), .second, .val (.int md), .val (.long tb), .second, .val (.long ib), .second, .val (.ref b1), .val (.ref b5), .val (.int (1 : Int32)), .val (.int (0 : Int32)), .unset, .unset, .unset] []))
          refine own_fs (XS.lloadN X13.here hx rfl (hb hby at_79) rfl (Steps.refl _)) ?_
          show own_G p.tables e below _ (T13.setTop (mkF m 80 #[.val (.long i1), .second, .val (.long t1), .second, .val (.long i2), .second, .val (.long t2), .second, .val (.int md), .val (.long tb), .second, .val (.long ib), .second, .val (.ref b1), .val (.ref b5), .val (.int (1 : Int32)), .val (.int (0 : Int32)), .unset, .unset, .unset] [(.long t1)]))
          refine own_fs (XS.lload X13.here hx rfl (hb hby at_80) rfl (Steps.refl _)) ?_
          show own_G p.tables e below _ (T13.setTop (mkF m 82 #[.val (.long i1), .second, .val (.long t1), .second, .val (.long i2), .second, .val (.long t2), .second, .val (.int md), .val (.long tb), .second, .val (.long ib), .second, .val (.ref b1), .val (.ref b5), .val (.int (1 : Int32)), .val (.int (0 : Int32)), .unset, .unset, .unset] [(.long tb), (.long t1)]))
          refine own_fs (XT.lcmp X13.here hx rfl (hb hby at_82) rfl (Steps.refl _)) ?_
          show own_G p.tables e below _ (T13.setTop (mkF m 83 #[.val (.long i1), .second, .val (.long t1), .second, .val (.long i2), .second, .val (.long t2), .second, .val (.int md), .val (.long tb), .second, .val (.long ib), .second, .val (.ref b1), .val (.ref b5), .val (.int (1 : Int32)), .val (.int (0 : Int32)), .unset, .unset, .unset] [(.int (XT.cmpL t1 tb))]))
          refine own_fs (XS.ifNo X13.here hx rfl (hb hby at_83) rfl (XT.ll_ge_f ta0) (Steps.refl _)) ?_
          show own_G p.tables e below _ (T13.setTop (mkF m 86 #[.val (.long i1), .second, .val (.long t1), .second, .val (.long i2), .second, .val (.long t2), .second, .val (.int md), .val (.long tb), .second, .val (.long ib), .second, .val (.ref b1), .val (.ref b5), .val (.int (1 : Int32)), .val (.int (0 : Int32)), .unset, .unset, .unset] []))
          refine own_fs (XS.iconst X13.here hx rfl (hb hby at_86) (Steps.refl _)) ?_
          show own_G p.tables e below _ (T13.setTop (mkF m 87 #[.val (.long i1), .second, .val (.long t1), .second, .val (.long i2), .second, .val (.long t2), .second, .val (.int md), .val (.long tb), .second, .val (.long ib), .second, .val (.ref b1), .val (.ref b5), .val (.int (1 : Int32)), .val (.int (0 : Int32)), .unset, .unset, .unset] [(.int (1 : Int32))]))
          refine own_fs (XS.goto X13.here hx rfl (pc0 := 87) (pc' := 91) rfl (hb hby at_87) (by decide) (by decide) (Steps.refl _)) ?_
          show own_G p.tables e below _ (T13.setTop (mkF m 91 #[.val (.long i1), .second, .val (.long t1), .second, .val (.long i2), .second, .val (.long t2), .second, .val (.int md), .val (.long tb), .second, .val (.long ib), .second, .val (.ref b1), .val (.ref b5), .val (.int (1 : Int32)), .val (.int (0 : Int32)), .unset, .unset, .unset] [(.int (1 : Int32))]))
          refine own_fs (XS.istore X13.here hx rfl (hb hby at_91) rfl (l' := #[.val (.long i1), .second, .val (.long t1), .second, .val (.long i2), .second, .val (.long t2), .second, .val (.int md), .val (.long tb), .second, .val (.long ib), .second, .val (.ref b1), .val (.ref b5), .val (.int (1 : Int32)), .val (.int (0 : Int32)), .val (.int (1 : Int32)), .unset, .unset]) rfl (Steps.refl _)) ?_
          show own_G p.tables e below _ (T13.setTop (mkF m 93 #[.val (.long i1), .second, .val (.long t1), .second, .val (.long i2), .second, .val (.long t2), .second, .val (.int md), .val (.long tb), .second, .val (.long ib), .second, .val (.ref b1), .val (.ref b5), .val (.int (1 : Int32)), .val (.int (0 : Int32)), .val (.int (1 : Int32)), .unset, .unset] []))
          refine own_fs (XS.goto X13.here hx rfl (pc0 := 93) (pc' := 123) rfl (hb hby at_93) (by decide) (by decide) (Steps.refl _)) ?_
          show own_G p.tables e below _ (T13.setTop (mkF m 123 #[.val (.long i1), .second, .val (.long t1), .second, .val (.long i2), .second, .val (.long t2), .second, .val (.int md), .val (.long tb), .second, .val (.long ib), .second, .val (.ref b1), .val (.ref b5), .val (.int (1 : Int32)), .val (.int (0 : Int32)), .val (.int (1 : Int32)), .unset, .unset] []))
          refine own_fs (XS.lloadN X13.here hx rfl (hb hby at_123) rfl (Steps.refl _)) ?_
          show own_G p.tables e below _ (T13.setTop (mkF m 124 #[.val (.long i1), .second, .val (.long t1), .second, .val (.long i2), .second, .val (.long t2), .second, .val (.int md), .val (.long tb), .second, .val (.long ib), .second, .val (.ref b1), .val (.ref b5), .val (.int (1 : Int32)), .val (.int (0 : Int32)), .val (.int (1 : Int32)), .unset, .unset] [(.long t1)]))
          refine own_fs (XS.lload X13.here hx rfl (hb hby at_124) rfl (Steps.refl _)) ?_
          show own_G p.tables e below _ (T13.setTop (mkF m 126 #[.val (.long i1), .second, .val (.long t1), .second, .val (.long i2), .second, .val (.long t2), .second, .val (.int md), .val (.long tb), .second, .val (.long ib), .second, .val (.ref b1), .val (.ref b5), .val (.int (1 : Int32)), .val (.int (0 : Int32)), .val (.int (1 : Int32)), .unset, .unset] [(.long tb), (.long t1)]))
          refine own_fs (XT.lcmp X13.here hx rfl (hb hby at_126) rfl (Steps.refl _)) ?_
          show own_G p.tables e below _ (T13.setTop (mkF m 127 #[.val (.long i1), .second, .val (.long t1), .second, .val (.long i2), .second, .val (.long t2), .second, .val (.int md), .val (.long tb), .second, .val (.long ib), .second, .val (.ref b1), .val (.ref b5), .val (.int (1 : Int32)), .val (.int (0 : Int32)), .val (.int (1 : Int32)), .unset, .unset] [(.int (XT.cmpL t1 tb))]))
          refine own_fs (XS.ifYes X13.here hx rfl (pc0 := 127) (pc' := 141) rfl (hb hby at_127) rfl (XT.ll_ne_t ta1) (by decide) (by decide) (Steps.refl _)) ?_
          show own_G p.tables e below _ (T13.setTop (mkF m 141 #[.val (.long i1), .second, .val (.long t1), .second, .val (.long i2), .second, .val (.long t2), .second, .val (.int md), .val (.long tb), .second, .val (.long ib), .second, .val (.ref b1), .val (.ref b5), .val (.int (1 : Int32)), .val (.int (0 : Int32)), .val (.int (1 : Int32)), .unset, .unset] []))
          refine own_fs (XS.iconst X13.here hx rfl (hb hby at_141) (Steps.refl _)) ?_
          show own_G p.tables e below _ (T13.setTop (mkF m 142 #[.val (.long i1), .second, .val (.long t1), .second, .val (.long i2), .second, .val (.long t2), .second, .val (.int md), .val (.long tb), .second, .val (.long ib), .second, .val (.ref b1), .val (.ref b5), .val (.int (1 : Int32)), .val (.int (0 : Int32)), .val (.int (1 : Int32)), .unset, .unset] [(.int (0 : Int32))]))
          refine own_fs (XS.istore X13.here hx rfl (hb hby at_142) rfl (l' := #[.val (.long i1), .second, .val (.long t1), .second, .val (.long i2), .second, .val (.long t2), .second, .val (.int md), .val (.long tb), .second, .val (.long ib), .second, .val (.ref b1), .val (.ref b5), .val (.int (1 : Int32)), .val (.int (0 : Int32)), .val (.int (1 : Int32)), .val (.int (0 : Int32)), .unset]) rfl (Steps.refl _)) ?_
          show own_G p.tables e below _ (T13.setTop (mkF m 144 #[.val (.long i1), .second, .val (.long t1), .second, .val (.long i2), .second, .val (.long t2), .second, .val (.int md), .val (.long tb), .second, .val (.long ib), .second, .val (.ref b1), .val (.ref b5), .val (.int (1 : Int32)), .val (.int (0 : Int32)), .val (.int (1 : Int32)), .val (.int (0 : Int32)), .unset] []))
          refine own_fs (XS.iload X13.here hx rfl (hb hby at_144) rfl (Steps.refl _)) ?_
          show own_G p.tables e below _ (T13.setTop (mkF m 146 #[.val (.long i1), .second, .val (.long t1), .second, .val (.long i2), .second, .val (.long t2), .second, .val (.int md), .val (.long tb), .second, .val (.long ib), .second, .val (.ref b1), .val (.ref b5), .val (.int (1 : Int32)), .val (.int (0 : Int32)), .val (.int (1 : Int32)), .val (.int (0 : Int32)), .unset] [(.int (0 : Int32))]))
          refine own_fs (XS.ifYes X13.here hx rfl (pc0 := 146) (pc' := 169) rfl (hb hby at_146) rfl (XT.i0_eq_t (by decide : (0 : Int32) = (0 : Int32))) (by decide) (by decide) (Steps.refl _)) ?_
          show own_G p.tables e below _ (T13.setTop (mkF m 169 #[.val (.long i1), .second, .val (.long t1), .second, .val (.long i2), .second, .val (.long t2), .second, .val (.int md), .val (.long tb), .second, .val (.long ib), .second, .val (.ref b1), .val (.ref b5), .val (.int (1 : Int32)), .val (.int (0 : Int32)), .val (.int (1 : Int32)), .val (.int (0 : Int32)), .unset] []))
          refine own_fs (XS.iload X13.here hx rfl (hb hby at_169) rfl (Steps.refl _)) ?_
          show own_G p.tables e below _ (T13.setTop (mkF m 171 #[.val (.long i1), .second, .val (.long t1), .second, .val (.long i2), .second, .val (.long t2), .second, .val (.int md), .val (.long tb), .second, .val (.long ib), .second, .val (.ref b1), .val (.ref b5), .val (.int (1 : Int32)), .val (.int (0 : Int32)), .val (.int (1 : Int32)), .val (.int (0 : Int32)), .unset] [(.int (1 : Int32))]))
          refine own_fs (XS.iload X13.here hx rfl (hb hby at_171) rfl (Steps.refl _)) ?_
          show own_G p.tables e below _ (T13.setTop (mkF m 173 #[.val (.long i1), .second, .val (.long t1), .second, .val (.long i2), .second, .val (.long t2), .second, .val (.int md), .val (.long tb), .second, .val (.long ib), .second, .val (.ref b1), .val (.ref b5), .val (.int (1 : Int32)), .val (.int (0 : Int32)), .val (.int (1 : Int32)), .val (.int (0 : Int32)), .unset] [(.int (0 : Int32)), (.int (1 : Int32))]))
          refine own_fs (XS.icmpNo X13.here hx rfl (hb hby at_173) rfl (XT.ii_eq_f (by decide : ¬ ((1 : Int32) = (0 : Int32)))) (Steps.refl _)) ?_
          show own_G p.tables e below _ (T13.setTop (mkF m 176 #[.val (.long i1), .second, .val (.long t1), .second, .val (.long i2), .second, .val (.long t2), .second, .val (.int md), .val (.long tb), .second, .val (.long ib), .second, .val (.ref b1), .val (.ref b5), .val (.int (1 : Int32)), .val (.int (0 : Int32)), .val (.int (1 : Int32)), .val (.int (0 : Int32)), .unset] []))
          refine own_fs (XS.iconst X13.here hx rfl (hb hby at_176) (Steps.refl _)) ?_
          show own_G p.tables e below _ (T13.setTop (mkF m 177 #[.val (.long i1), .second, .val (.long t1), .second, .val (.long i2), .second, .val (.long t2), .second, .val (.int md), .val (.long tb), .second, .val (.long ib), .second, .val (.ref b1), .val (.ref b5), .val (.int (1 : Int32)), .val (.int (0 : Int32)), .val (.int (1 : Int32)), .val (.int (0 : Int32)), .unset] [(.int (1 : Int32))]))
          refine own_fs (XS.goto X13.here hx rfl (pc0 := 177) (pc' := 181) rfl (hb hby at_177) (by decide) (by decide) (Steps.refl _)) ?_
          show own_G p.tables e below _ (T13.setTop (mkF m 181 #[.val (.long i1), .second, .val (.long t1), .second, .val (.long i2), .second, .val (.long t2), .second, .val (.int md), .val (.long tb), .second, .val (.long ib), .second, .val (.ref b1), .val (.ref b5), .val (.int (1 : Int32)), .val (.int (0 : Int32)), .val (.int (1 : Int32)), .val (.int (0 : Int32)), .unset] [(.int (1 : Int32))]))
          refine own_fs (XS.istore X13.here hx rfl (hb hby at_181) rfl (l' := #[.val (.long i1), .second, .val (.long t1), .second, .val (.long i2), .second, .val (.long t2), .second, .val (.int md), .val (.long tb), .second, .val (.long ib), .second, .val (.ref b1), .val (.ref b5), .val (.int (1 : Int32)), .val (.int (0 : Int32)), .val (.int (1 : Int32)), .val (.int (0 : Int32)), .val (.int (1 : Int32))]) rfl (Steps.refl _)) ?_
          show own_G p.tables e below _ (T13.setTop (mkF m 183 #[.val (.long i1), .second, .val (.long t1), .second, .val (.long i2), .second, .val (.long t2), .second, .val (.int md), .val (.long tb), .second, .val (.long ib), .second, .val (.ref b1), .val (.ref b5), .val (.int (1 : Int32)), .val (.int (0 : Int32)), .val (.int (1 : Int32)), .val (.int (0 : Int32)), .val (.int (1 : Int32))] []))
          refine own_fs (XS.iload X13.here hx rfl (hb hby at_183) rfl (Steps.refl _)) ?_
          show own_G p.tables e below _ (T13.setTop (mkF m 185 #[.val (.long i1), .second, .val (.long t1), .second, .val (.long i2), .second, .val (.long t2), .second, .val (.int md), .val (.long tb), .second, .val (.long ib), .second, .val (.ref b1), .val (.ref b5), .val (.int (1 : Int32)), .val (.int (0 : Int32)), .val (.int (1 : Int32)), .val (.int (0 : Int32)), .val (.int (1 : Int32))] [(.int (1 : Int32))]))
          refine own_fs (XS.iload X13.here hx rfl (hb hby at_185) rfl (Steps.refl _)) ?_
          show own_G p.tables e below _ (T13.setTop (mkF m 187 #[.val (.long i1), .second, .val (.long t1), .second, .val (.long i2), .second, .val (.long t2), .second, .val (.int md), .val (.long tb), .second, .val (.long ib), .second, .val (.ref b1), .val (.ref b5), .val (.int (1 : Int32)), .val (.int (0 : Int32)), .val (.int (1 : Int32)), .val (.int (0 : Int32)), .val (.int (1 : Int32))] [(.int (1 : Int32)), (.int (1 : Int32))]))
          refine own_fs (XS.icmpNo X13.here hx rfl (hb hby at_187) rfl (XT.ii_ne_f (by decide : (1 : Int32) = (1 : Int32))) (Steps.refl _)) ?_
          show own_G p.tables e below _ (T13.setTop (mkF m 190 #[.val (.long i1), .second, .val (.long t1), .second, .val (.long i2), .second, .val (.long t2), .second, .val (.int md), .val (.long tb), .second, .val (.long ib), .second, .val (.ref b1), .val (.ref b5), .val (.int (1 : Int32)), .val (.int (0 : Int32)), .val (.int (1 : Int32)), .val (.int (0 : Int32)), .val (.int (1 : Int32))] []))
          refine own_fs (XS.iload X13.here hx rfl (hb hby at_190) rfl (Steps.refl _)) ?_
          show own_G p.tables e below _ (T13.setTop (mkF m 192 #[.val (.long i1), .second, .val (.long t1), .second, .val (.long i2), .second, .val (.long t2), .second, .val (.int md), .val (.long tb), .second, .val (.long ib), .second, .val (.ref b1), .val (.ref b5), .val (.int (1 : Int32)), .val (.int (0 : Int32)), .val (.int (1 : Int32)), .val (.int (0 : Int32)), .val (.int (1 : Int32))] [(.int (1 : Int32))]))
          refine own_fs (XS.ifNo X13.here hx rfl (hb hby at_192) rfl (XT.i0_eq_f (by decide : ¬ ((1 : Int32) = (0 : Int32)))) (Steps.refl _)) ?_
          show own_G p.tables e below _ (T13.setTop (mkF m 195 #[.val (.long i1), .second, .val (.long t1), .second, .val (.long i2), .second, .val (.long t2), .second, .val (.int md), .val (.long tb), .second, .val (.long ib), .second, .val (.ref b1), .val (.ref b5), .val (.int (1 : Int32)), .val (.int (0 : Int32)), .val (.int (1 : Int32)), .val (.int (0 : Int32)), .val (.int (1 : Int32))] []))
          refine own_fs (XS.iconst X13.here hx rfl (hb hby at_195) (Steps.refl _)) ?_
          show own_G p.tables e below _ (T13.setTop (mkF m 196 #[.val (.long i1), .second, .val (.long t1), .second, .val (.long i2), .second, .val (.long t2), .second, .val (.int md), .val (.long tb), .second, .val (.long ib), .second, .val (.ref b1), .val (.ref b5), .val (.int (1 : Int32)), .val (.int (0 : Int32)), .val (.int (1 : Int32)), .val (.int (0 : Int32)), .val (.int (1 : Int32))] [(.int (1 : Int32))]))
          refine own_fs (XS.goto X13.here hx rfl (pc0 := 196) (pc' := 200) rfl (hb hby at_196) (by decide) (by decide) (Steps.refl _)) ?_
          show own_G p.tables e below _ (T13.setTop (mkF m 200 #[.val (.long i1), .second, .val (.long t1), .second, .val (.long i2), .second, .val (.long t2), .second, .val (.int md), .val (.long tb), .second, .val (.long ib), .second, .val (.ref b1), .val (.ref b5), .val (.int (1 : Int32)), .val (.int (0 : Int32)), .val (.int (1 : Int32)), .val (.int (0 : Int32)), .val (.int (1 : Int32))] [(.int (1 : Int32))]))
          exact own_retN X13 hx (t := .boolean) Bd.returns hlk (by simp) (hb hby at_200) (by decide) (by decide) e13 ⟨rfl, N13⟩
        · rw [show own_ca i1 t1 ib tb = (1 : Int32) from by simp only [own_ca, if_pos ta0, if_neg ta1, if_neg ta2, if_neg ta3, if_neg ia0, if_neg ia1, if_pos ia2, if_neg ia3]]
          rw [show own_ca ib tb i1 t1 = (0 : Int32) from by simp only [own_ca, if_pos ta0, if_neg ta1, if_neg ta2, if_neg ta3, if_neg ia0, if_neg ia1, if_pos ia2, if_neg ia3]]
          show own_G p.tables e below _ (T13.setTop (mkF m 72 #[.val (.long i1), .second, .val (.long t1), .second, .val (.long i2), .second, .val (.long t2), .second, .val (.int md), .val (.long tb), .second, .val (.long ib), .second, .val (.ref b1), .val (.ref b5), .val (.int (1 : Int32)), .val (.int (0 : Int32)), .unset, .unset, .unset] []))
          refine own_fs (XS.lloadN X13.here hx rfl (hb hby at_72) rfl (Steps.refl _)) ?_
          show own_G p.tables e below _ (T13.setTop (mkF m 73 #[.val (.long i1), .second, .val (.long t1), .second, .val (.long i2), .second, .val (.long t2), .second, .val (.int md), .val (.long tb), .second, .val (.long ib), .second, .val (.ref b1), .val (.ref b5), .val (.int (1 : Int32)), .val (.int (0 : Int32)), .unset, .unset, .unset] [(.long t1)]))
          refine own_fs (XS.lload X13.here hx rfl (hb hby at_73) rfl (Steps.refl _)) ?_
          show own_G p.tables e below _ (T13.setTop (mkF m 75 #[.val (.long i1), .second, .val (.long t1), .second, .val (.long i2), .second, .val (.long t2), .second, .val (.int md), .val (.long tb), .second, .val (.long ib), .second, .val (.ref b1), .val (.ref b5), .val (.int (1 : Int32)), .val (.int (0 : Int32)), .unset, .unset, .unset] [(.long tb), (.long t1)]))
          refine own_fs (XT.lcmp X13.here hx rfl (hb hby at_75) rfl (Steps.refl _)) ?_
          show own_G p.tables e below _ (T13.setTop (mkF m 76 #[.val (.long i1), .second, .val (.long t1), .second, .val (.long i2), .second, .val (.long t2), .second, .val (.int md), .val (.long tb), .second, .val (.long ib), .second, .val (.ref b1), .val (.ref b5), .val (.int (1 : Int32)), .val (.int (0 : Int32)), .unset, .unset, .unset] [(.int (XT.cmpL t1 tb))]))
          refine own_fs (XS.ifNo X13.here hx rfl (hb hby at_76) rfl (XT.ll_eq_f ta1) (Steps.refl _)) ?_
          show own_G p.tables e below _ (T13.setTop (mkF m 79 #[.val (.long i1), .second, .val (.long t1), .second, .val (.long i2), .second, .val (.long t2), .second, .val (.int md), .val (.long tb), .second, .val (.long ib), .second, .val (.ref b1), .val (.ref b5), .val (.int (1 : Int32)), .val (.int (0 : Int32)), .unset, .unset, .unset] []))
          refine own_fs (XS.lloadN X13.here hx rfl (hb hby at_79) rfl (Steps.refl _)) ?_
          show own_G p.tables e below _ (T13.setTop (mkF m 80 #[.val (.long i1), .second, .val (.long t1), .second, .val (.long i2), .second, .val (.long t2), .second, .val (.int md), .val (.long tb), .second, .val (.long ib), .second, .val (.ref b1), .val (.ref b5), .val (.int (1 : Int32)), .val (.int (0 : Int32)), .unset, .unset, .unset] [(.long t1)]))
          refine own_fs (XS.lload X13.here hx rfl (hb hby at_80) rfl (Steps.refl _)) ?_
          show own_G p.tables e below _ (T13.setTop (mkF m 82 #[.val (.long i1), .second, .val (.long t1), .second, .val (.long i2), .second, .val (.long t2), .second, .val (.int md), .val (.long tb), .second, .val (.long ib), .second, .val (.ref b1), .val (.ref b5), .val (.int (1 : Int32)), .val (.int (0 : Int32)), .unset, .unset, .unset] [(.long tb), (.long t1)]))
          refine own_fs (XT.lcmp X13.here hx rfl (hb hby at_82) rfl (Steps.refl _)) ?_
          show own_G p.tables e below _ (T13.setTop (mkF m 83 #[.val (.long i1), .second, .val (.long t1), .second, .val (.long i2), .second, .val (.long t2), .second, .val (.int md), .val (.long tb), .second, .val (.long ib), .second, .val (.ref b1), .val (.ref b5), .val (.int (1 : Int32)), .val (.int (0 : Int32)), .unset, .unset, .unset] [(.int (XT.cmpL t1 tb))]))
          refine own_fs (XS.ifNo X13.here hx rfl (hb hby at_83) rfl (XT.ll_ge_f ta0) (Steps.refl _)) ?_
          show own_G p.tables e below _ (T13.setTop (mkF m 86 #[.val (.long i1), .second, .val (.long t1), .second, .val (.long i2), .second, .val (.long t2), .second, .val (.int md), .val (.long tb), .second, .val (.long ib), .second, .val (.ref b1), .val (.ref b5), .val (.int (1 : Int32)), .val (.int (0 : Int32)), .unset, .unset, .unset] []))
          refine own_fs (XS.iconst X13.here hx rfl (hb hby at_86) (Steps.refl _)) ?_
          show own_G p.tables e below _ (T13.setTop (mkF m 87 #[.val (.long i1), .second, .val (.long t1), .second, .val (.long i2), .second, .val (.long t2), .second, .val (.int md), .val (.long tb), .second, .val (.long ib), .second, .val (.ref b1), .val (.ref b5), .val (.int (1 : Int32)), .val (.int (0 : Int32)), .unset, .unset, .unset] [(.int (1 : Int32))]))
          refine own_fs (XS.goto X13.here hx rfl (pc0 := 87) (pc' := 91) rfl (hb hby at_87) (by decide) (by decide) (Steps.refl _)) ?_
          show own_G p.tables e below _ (T13.setTop (mkF m 91 #[.val (.long i1), .second, .val (.long t1), .second, .val (.long i2), .second, .val (.long t2), .second, .val (.int md), .val (.long tb), .second, .val (.long ib), .second, .val (.ref b1), .val (.ref b5), .val (.int (1 : Int32)), .val (.int (0 : Int32)), .unset, .unset, .unset] [(.int (1 : Int32))]))
          refine own_fs (XS.istore X13.here hx rfl (hb hby at_91) rfl (l' := #[.val (.long i1), .second, .val (.long t1), .second, .val (.long i2), .second, .val (.long t2), .second, .val (.int md), .val (.long tb), .second, .val (.long ib), .second, .val (.ref b1), .val (.ref b5), .val (.int (1 : Int32)), .val (.int (0 : Int32)), .val (.int (1 : Int32)), .unset, .unset]) rfl (Steps.refl _)) ?_
          show own_G p.tables e below _ (T13.setTop (mkF m 93 #[.val (.long i1), .second, .val (.long t1), .second, .val (.long i2), .second, .val (.long t2), .second, .val (.int md), .val (.long tb), .second, .val (.long ib), .second, .val (.ref b1), .val (.ref b5), .val (.int (1 : Int32)), .val (.int (0 : Int32)), .val (.int (1 : Int32)), .unset, .unset] []))
          refine own_fs (XS.goto X13.here hx rfl (pc0 := 93) (pc' := 123) rfl (hb hby at_93) (by decide) (by decide) (Steps.refl _)) ?_
          show own_G p.tables e below _ (T13.setTop (mkF m 123 #[.val (.long i1), .second, .val (.long t1), .second, .val (.long i2), .second, .val (.long t2), .second, .val (.int md), .val (.long tb), .second, .val (.long ib), .second, .val (.ref b1), .val (.ref b5), .val (.int (1 : Int32)), .val (.int (0 : Int32)), .val (.int (1 : Int32)), .unset, .unset] []))
          refine own_fs (XS.lloadN X13.here hx rfl (hb hby at_123) rfl (Steps.refl _)) ?_
          show own_G p.tables e below _ (T13.setTop (mkF m 124 #[.val (.long i1), .second, .val (.long t1), .second, .val (.long i2), .second, .val (.long t2), .second, .val (.int md), .val (.long tb), .second, .val (.long ib), .second, .val (.ref b1), .val (.ref b5), .val (.int (1 : Int32)), .val (.int (0 : Int32)), .val (.int (1 : Int32)), .unset, .unset] [(.long t1)]))
          refine own_fs (XS.lload X13.here hx rfl (hb hby at_124) rfl (Steps.refl _)) ?_
          show own_G p.tables e below _ (T13.setTop (mkF m 126 #[.val (.long i1), .second, .val (.long t1), .second, .val (.long i2), .second, .val (.long t2), .second, .val (.int md), .val (.long tb), .second, .val (.long ib), .second, .val (.ref b1), .val (.ref b5), .val (.int (1 : Int32)), .val (.int (0 : Int32)), .val (.int (1 : Int32)), .unset, .unset] [(.long tb), (.long t1)]))
          refine own_fs (XT.lcmp X13.here hx rfl (hb hby at_126) rfl (Steps.refl _)) ?_
          show own_G p.tables e below _ (T13.setTop (mkF m 127 #[.val (.long i1), .second, .val (.long t1), .second, .val (.long i2), .second, .val (.long t2), .second, .val (.int md), .val (.long tb), .second, .val (.long ib), .second, .val (.ref b1), .val (.ref b5), .val (.int (1 : Int32)), .val (.int (0 : Int32)), .val (.int (1 : Int32)), .unset, .unset] [(.int (XT.cmpL t1 tb))]))
          refine own_fs (XS.ifYes X13.here hx rfl (pc0 := 127) (pc' := 141) rfl (hb hby at_127) rfl (XT.ll_ne_t ta1) (by decide) (by decide) (Steps.refl _)) ?_
          show own_G p.tables e below _ (T13.setTop (mkF m 141 #[.val (.long i1), .second, .val (.long t1), .second, .val (.long i2), .second, .val (.long t2), .second, .val (.int md), .val (.long tb), .second, .val (.long ib), .second, .val (.ref b1), .val (.ref b5), .val (.int (1 : Int32)), .val (.int (0 : Int32)), .val (.int (1 : Int32)), .unset, .unset] []))
          refine own_fs (XS.iconst X13.here hx rfl (hb hby at_141) (Steps.refl _)) ?_
          show own_G p.tables e below _ (T13.setTop (mkF m 142 #[.val (.long i1), .second, .val (.long t1), .second, .val (.long i2), .second, .val (.long t2), .second, .val (.int md), .val (.long tb), .second, .val (.long ib), .second, .val (.ref b1), .val (.ref b5), .val (.int (1 : Int32)), .val (.int (0 : Int32)), .val (.int (1 : Int32)), .unset, .unset] [(.int (0 : Int32))]))
          refine own_fs (XS.istore X13.here hx rfl (hb hby at_142) rfl (l' := #[.val (.long i1), .second, .val (.long t1), .second, .val (.long i2), .second, .val (.long t2), .second, .val (.int md), .val (.long tb), .second, .val (.long ib), .second, .val (.ref b1), .val (.ref b5), .val (.int (1 : Int32)), .val (.int (0 : Int32)), .val (.int (1 : Int32)), .val (.int (0 : Int32)), .unset]) rfl (Steps.refl _)) ?_
          show own_G p.tables e below _ (T13.setTop (mkF m 144 #[.val (.long i1), .second, .val (.long t1), .second, .val (.long i2), .second, .val (.long t2), .second, .val (.int md), .val (.long tb), .second, .val (.long ib), .second, .val (.ref b1), .val (.ref b5), .val (.int (1 : Int32)), .val (.int (0 : Int32)), .val (.int (1 : Int32)), .val (.int (0 : Int32)), .unset] []))
          refine own_fs (XS.iload X13.here hx rfl (hb hby at_144) rfl (Steps.refl _)) ?_
          show own_G p.tables e below _ (T13.setTop (mkF m 146 #[.val (.long i1), .second, .val (.long t1), .second, .val (.long i2), .second, .val (.long t2), .second, .val (.int md), .val (.long tb), .second, .val (.long ib), .second, .val (.ref b1), .val (.ref b5), .val (.int (1 : Int32)), .val (.int (0 : Int32)), .val (.int (1 : Int32)), .val (.int (0 : Int32)), .unset] [(.int (0 : Int32))]))
          refine own_fs (XS.ifYes X13.here hx rfl (pc0 := 146) (pc' := 169) rfl (hb hby at_146) rfl (XT.i0_eq_t (by decide : (0 : Int32) = (0 : Int32))) (by decide) (by decide) (Steps.refl _)) ?_
          show own_G p.tables e below _ (T13.setTop (mkF m 169 #[.val (.long i1), .second, .val (.long t1), .second, .val (.long i2), .second, .val (.long t2), .second, .val (.int md), .val (.long tb), .second, .val (.long ib), .second, .val (.ref b1), .val (.ref b5), .val (.int (1 : Int32)), .val (.int (0 : Int32)), .val (.int (1 : Int32)), .val (.int (0 : Int32)), .unset] []))
          refine own_fs (XS.iload X13.here hx rfl (hb hby at_169) rfl (Steps.refl _)) ?_
          show own_G p.tables e below _ (T13.setTop (mkF m 171 #[.val (.long i1), .second, .val (.long t1), .second, .val (.long i2), .second, .val (.long t2), .second, .val (.int md), .val (.long tb), .second, .val (.long ib), .second, .val (.ref b1), .val (.ref b5), .val (.int (1 : Int32)), .val (.int (0 : Int32)), .val (.int (1 : Int32)), .val (.int (0 : Int32)), .unset] [(.int (1 : Int32))]))
          refine own_fs (XS.iload X13.here hx rfl (hb hby at_171) rfl (Steps.refl _)) ?_
          show own_G p.tables e below _ (T13.setTop (mkF m 173 #[.val (.long i1), .second, .val (.long t1), .second, .val (.long i2), .second, .val (.long t2), .second, .val (.int md), .val (.long tb), .second, .val (.long ib), .second, .val (.ref b1), .val (.ref b5), .val (.int (1 : Int32)), .val (.int (0 : Int32)), .val (.int (1 : Int32)), .val (.int (0 : Int32)), .unset] [(.int (0 : Int32)), (.int (1 : Int32))]))
          refine own_fs (XS.icmpNo X13.here hx rfl (hb hby at_173) rfl (XT.ii_eq_f (by decide : ¬ ((1 : Int32) = (0 : Int32)))) (Steps.refl _)) ?_
          show own_G p.tables e below _ (T13.setTop (mkF m 176 #[.val (.long i1), .second, .val (.long t1), .second, .val (.long i2), .second, .val (.long t2), .second, .val (.int md), .val (.long tb), .second, .val (.long ib), .second, .val (.ref b1), .val (.ref b5), .val (.int (1 : Int32)), .val (.int (0 : Int32)), .val (.int (1 : Int32)), .val (.int (0 : Int32)), .unset] []))
          refine own_fs (XS.iconst X13.here hx rfl (hb hby at_176) (Steps.refl _)) ?_
          show own_G p.tables e below _ (T13.setTop (mkF m 177 #[.val (.long i1), .second, .val (.long t1), .second, .val (.long i2), .second, .val (.long t2), .second, .val (.int md), .val (.long tb), .second, .val (.long ib), .second, .val (.ref b1), .val (.ref b5), .val (.int (1 : Int32)), .val (.int (0 : Int32)), .val (.int (1 : Int32)), .val (.int (0 : Int32)), .unset] [(.int (1 : Int32))]))
          refine own_fs (XS.goto X13.here hx rfl (pc0 := 177) (pc' := 181) rfl (hb hby at_177) (by decide) (by decide) (Steps.refl _)) ?_
          show own_G p.tables e below _ (T13.setTop (mkF m 181 #[.val (.long i1), .second, .val (.long t1), .second, .val (.long i2), .second, .val (.long t2), .second, .val (.int md), .val (.long tb), .second, .val (.long ib), .second, .val (.ref b1), .val (.ref b5), .val (.int (1 : Int32)), .val (.int (0 : Int32)), .val (.int (1 : Int32)), .val (.int (0 : Int32)), .unset] [(.int (1 : Int32))]))
          refine own_fs (XS.istore X13.here hx rfl (hb hby at_181) rfl (l' := #[.val (.long i1), .second, .val (.long t1), .second, .val (.long i2), .second, .val (.long t2), .second, .val (.int md), .val (.long tb), .second, .val (.long ib), .second, .val (.ref b1), .val (.ref b5), .val (.int (1 : Int32)), .val (.int (0 : Int32)), .val (.int (1 : Int32)), .val (.int (0 : Int32)), .val (.int (1 : Int32))]) rfl (Steps.refl _)) ?_
          show own_G p.tables e below _ (T13.setTop (mkF m 183 #[.val (.long i1), .second, .val (.long t1), .second, .val (.long i2), .second, .val (.long t2), .second, .val (.int md), .val (.long tb), .second, .val (.long ib), .second, .val (.ref b1), .val (.ref b5), .val (.int (1 : Int32)), .val (.int (0 : Int32)), .val (.int (1 : Int32)), .val (.int (0 : Int32)), .val (.int (1 : Int32))] []))
          refine own_fs (XS.iload X13.here hx rfl (hb hby at_183) rfl (Steps.refl _)) ?_
          show own_G p.tables e below _ (T13.setTop (mkF m 185 #[.val (.long i1), .second, .val (.long t1), .second, .val (.long i2), .second, .val (.long t2), .second, .val (.int md), .val (.long tb), .second, .val (.long ib), .second, .val (.ref b1), .val (.ref b5), .val (.int (1 : Int32)), .val (.int (0 : Int32)), .val (.int (1 : Int32)), .val (.int (0 : Int32)), .val (.int (1 : Int32))] [(.int (1 : Int32))]))
          refine own_fs (XS.iload X13.here hx rfl (hb hby at_185) rfl (Steps.refl _)) ?_
          show own_G p.tables e below _ (T13.setTop (mkF m 187 #[.val (.long i1), .second, .val (.long t1), .second, .val (.long i2), .second, .val (.long t2), .second, .val (.int md), .val (.long tb), .second, .val (.long ib), .second, .val (.ref b1), .val (.ref b5), .val (.int (1 : Int32)), .val (.int (0 : Int32)), .val (.int (1 : Int32)), .val (.int (0 : Int32)), .val (.int (1 : Int32))] [(.int (1 : Int32)), (.int (1 : Int32))]))
          refine own_fs (XS.icmpNo X13.here hx rfl (hb hby at_187) rfl (XT.ii_ne_f (by decide : (1 : Int32) = (1 : Int32))) (Steps.refl _)) ?_
          show own_G p.tables e below _ (T13.setTop (mkF m 190 #[.val (.long i1), .second, .val (.long t1), .second, .val (.long i2), .second, .val (.long t2), .second, .val (.int md), .val (.long tb), .second, .val (.long ib), .second, .val (.ref b1), .val (.ref b5), .val (.int (1 : Int32)), .val (.int (0 : Int32)), .val (.int (1 : Int32)), .val (.int (0 : Int32)), .val (.int (1 : Int32))] []))
          refine own_fs (XS.iload X13.here hx rfl (hb hby at_190) rfl (Steps.refl _)) ?_
          show own_G p.tables e below _ (T13.setTop (mkF m 192 #[.val (.long i1), .second, .val (.long t1), .second, .val (.long i2), .second, .val (.long t2), .second, .val (.int md), .val (.long tb), .second, .val (.long ib), .second, .val (.ref b1), .val (.ref b5), .val (.int (1 : Int32)), .val (.int (0 : Int32)), .val (.int (1 : Int32)), .val (.int (0 : Int32)), .val (.int (1 : Int32))] [(.int (1 : Int32))]))
          refine own_fs (XS.ifNo X13.here hx rfl (hb hby at_192) rfl (XT.i0_eq_f (by decide : ¬ ((1 : Int32) = (0 : Int32)))) (Steps.refl _)) ?_
          show own_G p.tables e below _ (T13.setTop (mkF m 195 #[.val (.long i1), .second, .val (.long t1), .second, .val (.long i2), .second, .val (.long t2), .second, .val (.int md), .val (.long tb), .second, .val (.long ib), .second, .val (.ref b1), .val (.ref b5), .val (.int (1 : Int32)), .val (.int (0 : Int32)), .val (.int (1 : Int32)), .val (.int (0 : Int32)), .val (.int (1 : Int32))] []))
          refine own_fs (XS.iconst X13.here hx rfl (hb hby at_195) (Steps.refl _)) ?_
          show own_G p.tables e below _ (T13.setTop (mkF m 196 #[.val (.long i1), .second, .val (.long t1), .second, .val (.long i2), .second, .val (.long t2), .second, .val (.int md), .val (.long tb), .second, .val (.long ib), .second, .val (.ref b1), .val (.ref b5), .val (.int (1 : Int32)), .val (.int (0 : Int32)), .val (.int (1 : Int32)), .val (.int (0 : Int32)), .val (.int (1 : Int32))] [(.int (1 : Int32))]))
          refine own_fs (XS.goto X13.here hx rfl (pc0 := 196) (pc' := 200) rfl (hb hby at_196) (by decide) (by decide) (Steps.refl _)) ?_
          show own_G p.tables e below _ (T13.setTop (mkF m 200 #[.val (.long i1), .second, .val (.long t1), .second, .val (.long i2), .second, .val (.long t2), .second, .val (.int md), .val (.long tb), .second, .val (.long ib), .second, .val (.ref b1), .val (.ref b5), .val (.int (1 : Int32)), .val (.int (0 : Int32)), .val (.int (1 : Int32)), .val (.int (0 : Int32)), .val (.int (1 : Int32))] [(.int (1 : Int32))]))
          exact own_retN X13 hx (t := .boolean) Bd.returns hlk (by simp) (hb hby at_200) (by decide) (by decide) e13 ⟨rfl, N13⟩
      · rcases own_tri i1 ib with ⟨ia0, ia1, ia2, ia3⟩ | ⟨ia1, ia0, ia2, ia3⟩ | ⟨ia2, ia1, ia0, ia3⟩
        · rw [show own_ca i1 t1 ib tb = (1 : Int32) from by simp only [own_ca, if_neg ta0, if_pos ta1, if_neg ta2, if_pos ta3, if_pos ia0, if_neg ia1, if_neg ia2, if_neg ia3]]
          rw [show own_ca ib tb i1 t1 = (0 : Int32) from by simp only [own_ca, if_neg ta0, if_pos ta1, if_neg ta2, if_pos ta3, if_pos ia0, if_neg ia1, if_neg ia2, if_neg ia3]]
          show own_G p.tables e below _ (T13.setTop (mkF m 72 #[.val (.long i1), .second, .val (.long t1), .second, .val (.long i2), .second, .val (.long t2), .second, .val (.int md), .val (.long tb), .second, .val (.long ib), .second, .val (.ref b1), .val (.ref b5), .val (.int (1 : Int32)), .val (.int (0 : Int32)), .unset, .unset, .unset] []))
          refine own_fs (XS.lloadN X13.here hx rfl (hb hby at_72) rfl (Steps.refl _)) ?_
          show own_G p.tables e below _ (T13.setTop (mkF m 73 #[.val (.long i1), .second, .val (.long t1), .second, .val (.long i2), .second, .val (.long t2), .second, .val (.int md), .val (.long tb), .second, .val (.long ib), .second, .val (.ref b1), .val (.ref b5), .val (.int (1 : Int32)), .val (.int (0 : Int32)), .unset, .unset, .unset] [(.long t1)]))
          refine own_fs (XS.lload X13.here hx rfl (hb hby at_73) rfl (Steps.refl _)) ?_
          show own_G p.tables e below _ (T13.setTop (mkF m 75 #[.val (.long i1), .second, .val (.long t1), .second, .val (.long i2), .second, .val (.long t2), .second, .val (.int md), .val (.long tb), .second, .val (.long ib), .second, .val (.ref b1), .val (.ref b5), .val (.int (1 : Int32)), .val (.int (0 : Int32)), .unset, .unset, .unset] [(.long tb), (.long t1)]))
          refine own_fs (XT.lcmp X13.here hx rfl (hb hby at_75) rfl (Steps.refl _)) ?_
          show own_G p.tables e below _ (T13.setTop (mkF m 76 #[.val (.long i1), .second, .val (.long t1), .second, .val (.long i2), .second, .val (.long t2), .second, .val (.int md), .val (.long tb), .second, .val (.long ib), .second, .val (.ref b1), .val (.ref b5), .val (.int (1 : Int32)), .val (.int (0 : Int32)), .unset, .unset, .unset] [(.int (XT.cmpL t1 tb))]))
          refine own_fs (XS.ifYes X13.here hx rfl (pc0 := 76) (pc' := 96) rfl (hb hby at_76) rfl (XT.ll_eq_t ta1) (by decide) (by decide) (Steps.refl _)) ?_
          show own_G p.tables e below _ (T13.setTop (mkF m 96 #[.val (.long i1), .second, .val (.long t1), .second, .val (.long i2), .second, .val (.long t2), .second, .val (.int md), .val (.long tb), .second, .val (.long ib), .second, .val (.ref b1), .val (.ref b5), .val (.int (1 : Int32)), .val (.int (0 : Int32)), .unset, .unset, .unset] []))
          refine own_fs (XS.lloadN X13.here hx rfl (hb hby at_96) rfl (Steps.refl _)) ?_
          show own_G p.tables e below _ (T13.setTop (mkF m 97 #[.val (.long i1), .second, .val (.long t1), .second, .val (.long i2), .second, .val (.long t2), .second, .val (.int md), .val (.long tb), .second, .val (.long ib), .second, .val (.ref b1), .val (.ref b5), .val (.int (1 : Int32)), .val (.int (0 : Int32)), .unset, .unset, .unset] [(.long i1)]))
          refine own_fs (XS.lload X13.here hx rfl (hb hby at_97) rfl (Steps.refl _)) ?_
          show own_G p.tables e below _ (T13.setTop (mkF m 99 #[.val (.long i1), .second, .val (.long t1), .second, .val (.long i2), .second, .val (.long t2), .second, .val (.int md), .val (.long tb), .second, .val (.long ib), .second, .val (.ref b1), .val (.ref b5), .val (.int (1 : Int32)), .val (.int (0 : Int32)), .unset, .unset, .unset] [(.long ib), (.long i1)]))
          refine own_fs (XT.lcmp X13.here hx rfl (hb hby at_99) rfl (Steps.refl _)) ?_
          show own_G p.tables e below _ (T13.setTop (mkF m 100 #[.val (.long i1), .second, .val (.long t1), .second, .val (.long i2), .second, .val (.long t2), .second, .val (.int md), .val (.long tb), .second, .val (.long ib), .second, .val (.ref b1), .val (.ref b5), .val (.int (1 : Int32)), .val (.int (0 : Int32)), .unset, .unset, .unset] [(.int (XT.cmpL i1 ib))]))
          refine own_fs (XS.ifNo X13.here hx rfl (hb hby at_100) rfl (XT.ll_eq_f ia1) (Steps.refl _)) ?_
          show own_G p.tables e below _ (T13.setTop (mkF m 103 #[.val (.long i1), .second, .val (.long t1), .second, .val (.long i2), .second, .val (.long t2), .second, .val (.int md), .val (.long tb), .second, .val (.long ib), .second, .val (.ref b1), .val (.ref b5), .val (.int (1 : Int32)), .val (.int (0 : Int32)), .unset, .unset, .unset] []))
          refine own_fs (XS.lloadN X13.here hx rfl (hb hby at_103) rfl (Steps.refl _)) ?_
          show own_G p.tables e below _ (T13.setTop (mkF m 104 #[.val (.long i1), .second, .val (.long t1), .second, .val (.long i2), .second, .val (.long t2), .second, .val (.int md), .val (.long tb), .second, .val (.long ib), .second, .val (.ref b1), .val (.ref b5), .val (.int (1 : Int32)), .val (.int (0 : Int32)), .unset, .unset, .unset] [(.long i1)]))
          refine own_fs (XS.lload X13.here hx rfl (hb hby at_104) rfl (Steps.refl _)) ?_
          show own_G p.tables e below _ (T13.setTop (mkF m 106 #[.val (.long i1), .second, .val (.long t1), .second, .val (.long i2), .second, .val (.long t2), .second, .val (.int md), .val (.long tb), .second, .val (.long ib), .second, .val (.ref b1), .val (.ref b5), .val (.int (1 : Int32)), .val (.int (0 : Int32)), .unset, .unset, .unset] [(.long ib), (.long i1)]))
          refine own_fs (XT.lcmp X13.here hx rfl (hb hby at_106) rfl (Steps.refl _)) ?_
          show own_G p.tables e below _ (T13.setTop (mkF m 107 #[.val (.long i1), .second, .val (.long t1), .second, .val (.long i2), .second, .val (.long t2), .second, .val (.int md), .val (.long tb), .second, .val (.long ib), .second, .val (.ref b1), .val (.ref b5), .val (.int (1 : Int32)), .val (.int (0 : Int32)), .unset, .unset, .unset] [(.int (XT.cmpL i1 ib))]))
          refine own_fs (XS.ifNo X13.here hx rfl (hb hby at_107) rfl (XT.ll_ge_f ia0) (Steps.refl _)) ?_
          show own_G p.tables e below _ (T13.setTop (mkF m 110 #[.val (.long i1), .second, .val (.long t1), .second, .val (.long i2), .second, .val (.long t2), .second, .val (.int md), .val (.long tb), .second, .val (.long ib), .second, .val (.ref b1), .val (.ref b5), .val (.int (1 : Int32)), .val (.int (0 : Int32)), .unset, .unset, .unset] []))
          refine own_fs (XS.iconst X13.here hx rfl (hb hby at_110) (Steps.refl _)) ?_
          show own_G p.tables e below _ (T13.setTop (mkF m 111 #[.val (.long i1), .second, .val (.long t1), .second, .val (.long i2), .second, .val (.long t2), .second, .val (.int md), .val (.long tb), .second, .val (.long ib), .second, .val (.ref b1), .val (.ref b5), .val (.int (1 : Int32)), .val (.int (0 : Int32)), .unset, .unset, .unset] [(.int (1 : Int32))]))
          refine own_fs (XS.goto X13.here hx rfl (pc0 := 111) (pc' := 115) rfl (hb hby at_111) (by decide) (by decide) (Steps.refl _)) ?_
          show own_G p.tables e below _ (T13.setTop (mkF m 115 #[.val (.long i1), .second, .val (.long t1), .second, .val (.long i2), .second, .val (.long t2), .second, .val (.int md), .val (.long tb), .second, .val (.long ib), .second, .val (.ref b1), .val (.ref b5), .val (.int (1 : Int32)), .val (.int (0 : Int32)), .unset, .unset, .unset] [(.int (1 : Int32))]))
          refine own_fs (XS.istore X13.here hx rfl (hb hby at_115) rfl (l' := #[.val (.long i1), .second, .val (.long t1), .second, .val (.long i2), .second, .val (.long t2), .second, .val (.int md), .val (.long tb), .second, .val (.long ib), .second, .val (.ref b1), .val (.ref b5), .val (.int (1 : Int32)), .val (.int (0 : Int32)), .val (.int (1 : Int32)), .unset, .unset]) rfl (Steps.refl _)) ?_
          show own_G p.tables e below _ (T13.setTop (mkF m 117 #[.val (.long i1), .second, .val (.long t1), .second, .val (.long i2), .second, .val (.long t2), .second, .val (.int md), .val (.long tb), .second, .val (.long ib), .second, .val (.ref b1), .val (.ref b5), .val (.int (1 : Int32)), .val (.int (0 : Int32)), .val (.int (1 : Int32)), .unset, .unset] []))
          refine own_fs (XS.goto X13.here hx rfl (pc0 := 117) (pc' := 123) rfl (hb hby at_117) (by decide) (by decide) (Steps.refl _)) ?_
          show own_G p.tables e below _ (T13.setTop (mkF m 123 #[.val (.long i1), .second, .val (.long t1), .second, .val (.long i2), .second, .val (.long t2), .second, .val (.int md), .val (.long tb), .second, .val (.long ib), .second, .val (.ref b1), .val (.ref b5), .val (.int (1 : Int32)), .val (.int (0 : Int32)), .val (.int (1 : Int32)), .unset, .unset] []))
          refine own_fs (XS.lloadN X13.here hx rfl (hb hby at_123) rfl (Steps.refl _)) ?_
          show own_G p.tables e below _ (T13.setTop (mkF m 124 #[.val (.long i1), .second, .val (.long t1), .second, .val (.long i2), .second, .val (.long t2), .second, .val (.int md), .val (.long tb), .second, .val (.long ib), .second, .val (.ref b1), .val (.ref b5), .val (.int (1 : Int32)), .val (.int (0 : Int32)), .val (.int (1 : Int32)), .unset, .unset] [(.long t1)]))
          refine own_fs (XS.lload X13.here hx rfl (hb hby at_124) rfl (Steps.refl _)) ?_
          show own_G p.tables e below _ (T13.setTop (mkF m 126 #[.val (.long i1), .second, .val (.long t1), .second, .val (.long i2), .second, .val (.long t2), .second, .val (.int md), .val (.long tb), .second, .val (.long ib), .second, .val (.ref b1), .val (.ref b5), .val (.int (1 : Int32)), .val (.int (0 : Int32)), .val (.int (1 : Int32)), .unset, .unset] [(.long tb), (.long t1)]))
          refine own_fs (XT.lcmp X13.here hx rfl (hb hby at_126) rfl (Steps.refl _)) ?_
          show own_G p.tables e below _ (T13.setTop (mkF m 127 #[.val (.long i1), .second, .val (.long t1), .second, .val (.long i2), .second, .val (.long t2), .second, .val (.int md), .val (.long tb), .second, .val (.long ib), .second, .val (.ref b1), .val (.ref b5), .val (.int (1 : Int32)), .val (.int (0 : Int32)), .val (.int (1 : Int32)), .unset, .unset] [(.int (XT.cmpL t1 tb))]))
          refine own_fs (XS.ifNo X13.here hx rfl (hb hby at_127) rfl (XT.ll_ne_f ta1) (Steps.refl _)) ?_
          show own_G p.tables e below _ (T13.setTop (mkF m 130 #[.val (.long i1), .second, .val (.long t1), .second, .val (.long i2), .second, .val (.long t2), .second, .val (.int md), .val (.long tb), .second, .val (.long ib), .second, .val (.ref b1), .val (.ref b5), .val (.int (1 : Int32)), .val (.int (0 : Int32)), .val (.int (1 : Int32)), .unset, .unset] []))
          refine own_fs (XS.lloadN X13.here hx rfl (hb hby at_130) rfl (Steps.refl _)) ?_
          show own_G p.tables e below _ (T13.setTop (mkF m 131 #[.val (.long i1), .second, .val (.long t1), .second, .val (.long i2), .second, .val (.long t2), .second, .val (.int md), .val (.long tb), .second, .val (.long ib), .second, .val (.ref b1), .val (.ref b5), .val (.int (1 : Int32)), .val (.int (0 : Int32)), .val (.int (1 : Int32)), .unset, .unset] [(.long i1)]))
          refine own_fs (XS.lload X13.here hx rfl (hb hby at_131) rfl (Steps.refl _)) ?_
          show own_G p.tables e below _ (T13.setTop (mkF m 133 #[.val (.long i1), .second, .val (.long t1), .second, .val (.long i2), .second, .val (.long t2), .second, .val (.int md), .val (.long tb), .second, .val (.long ib), .second, .val (.ref b1), .val (.ref b5), .val (.int (1 : Int32)), .val (.int (0 : Int32)), .val (.int (1 : Int32)), .unset, .unset] [(.long ib), (.long i1)]))
          refine own_fs (XT.lcmp X13.here hx rfl (hb hby at_133) rfl (Steps.refl _)) ?_
          show own_G p.tables e below _ (T13.setTop (mkF m 134 #[.val (.long i1), .second, .val (.long t1), .second, .val (.long i2), .second, .val (.long t2), .second, .val (.int md), .val (.long tb), .second, .val (.long ib), .second, .val (.ref b1), .val (.ref b5), .val (.int (1 : Int32)), .val (.int (0 : Int32)), .val (.int (1 : Int32)), .unset, .unset] [(.int (XT.cmpL i1 ib))]))
          refine own_fs (XS.ifYes X13.here hx rfl (pc0 := 134) (pc' := 141) rfl (hb hby at_134) rfl (XT.ll_ne_t ia1) (by decide) (by decide) (Steps.refl _)) ?_
          show own_G p.tables e below _ (T13.setTop (mkF m 141 #[.val (.long i1), .second, .val (.long t1), .second, .val (.long i2), .second, .val (.long t2), .second, .val (.int md), .val (.long tb), .second, .val (.long ib), .second, .val (.ref b1), .val (.ref b5), .val (.int (1 : Int32)), .val (.int (0 : Int32)), .val (.int (1 : Int32)), .unset, .unset] []))
          refine own_fs (XS.iconst X13.here hx rfl (hb hby at_141) (Steps.refl _)) ?_
          show own_G p.tables e below _ (T13.setTop (mkF m 142 #[.val (.long i1), .second, .val (.long t1), .second, .val (.long i2), .second, .val (.long t2), .second, .val (.int md), .val (.long tb), .second, .val (.long ib), .second, .val (.ref b1), .val (.ref b5), .val (.int (1 : Int32)), .val (.int (0 : Int32)), .val (.int (1 : Int32)), .unset, .unset] [(.int (0 : Int32))]))
          refine own_fs (XS.istore X13.here hx rfl (hb hby at_142) rfl (l' := #[.val (.long i1), .second, .val (.long t1), .second, .val (.long i2), .second, .val (.long t2), .second, .val (.int md), .val (.long tb), .second, .val (.long ib), .second, .val (.ref b1), .val (.ref b5), .val (.int (1 : Int32)), .val (.int (0 : Int32)), .val (.int (1 : Int32)), .val (.int (0 : Int32)), .unset]) rfl (Steps.refl _)) ?_
          show own_G p.tables e below _ (T13.setTop (mkF m 144 #[.val (.long i1), .second, .val (.long t1), .second, .val (.long i2), .second, .val (.long t2), .second, .val (.int md), .val (.long tb), .second, .val (.long ib), .second, .val (.ref b1), .val (.ref b5), .val (.int (1 : Int32)), .val (.int (0 : Int32)), .val (.int (1 : Int32)), .val (.int (0 : Int32)), .unset] []))
          refine own_fs (XS.iload X13.here hx rfl (hb hby at_144) rfl (Steps.refl _)) ?_
          show own_G p.tables e below _ (T13.setTop (mkF m 146 #[.val (.long i1), .second, .val (.long t1), .second, .val (.long i2), .second, .val (.long t2), .second, .val (.int md), .val (.long tb), .second, .val (.long ib), .second, .val (.ref b1), .val (.ref b5), .val (.int (1 : Int32)), .val (.int (0 : Int32)), .val (.int (1 : Int32)), .val (.int (0 : Int32)), .unset] [(.int (0 : Int32))]))
          refine own_fs (XS.ifYes X13.here hx rfl (pc0 := 146) (pc' := 169) rfl (hb hby at_146) rfl (XT.i0_eq_t (by decide : (0 : Int32) = (0 : Int32))) (by decide) (by decide) (Steps.refl _)) ?_
          show own_G p.tables e below _ (T13.setTop (mkF m 169 #[.val (.long i1), .second, .val (.long t1), .second, .val (.long i2), .second, .val (.long t2), .second, .val (.int md), .val (.long tb), .second, .val (.long ib), .second, .val (.ref b1), .val (.ref b5), .val (.int (1 : Int32)), .val (.int (0 : Int32)), .val (.int (1 : Int32)), .val (.int (0 : Int32)), .unset] []))
          refine own_fs (XS.iload X13.here hx rfl (hb hby at_169) rfl (Steps.refl _)) ?_
          show own_G p.tables e below _ (T13.setTop (mkF m 171 #[.val (.long i1), .second, .val (.long t1), .second, .val (.long i2), .second, .val (.long t2), .second, .val (.int md), .val (.long tb), .second, .val (.long ib), .second, .val (.ref b1), .val (.ref b5), .val (.int (1 : Int32)), .val (.int (0 : Int32)), .val (.int (1 : Int32)), .val (.int (0 : Int32)), .unset] [(.int (1 : Int32))]))
          refine own_fs (XS.iload X13.here hx rfl (hb hby at_171) rfl (Steps.refl _)) ?_
          show own_G p.tables e below _ (T13.setTop (mkF m 173 #[.val (.long i1), .second, .val (.long t1), .second, .val (.long i2), .second, .val (.long t2), .second, .val (.int md), .val (.long tb), .second, .val (.long ib), .second, .val (.ref b1), .val (.ref b5), .val (.int (1 : Int32)), .val (.int (0 : Int32)), .val (.int (1 : Int32)), .val (.int (0 : Int32)), .unset] [(.int (0 : Int32)), (.int (1 : Int32))]))
          refine own_fs (XS.icmpNo X13.here hx rfl (hb hby at_173) rfl (XT.ii_eq_f (by decide : ¬ ((1 : Int32) = (0 : Int32)))) (Steps.refl _)) ?_
          show own_G p.tables e below _ (T13.setTop (mkF m 176 #[.val (.long i1), .second, .val (.long t1), .second, .val (.long i2), .second, .val (.long t2), .second, .val (.int md), .val (.long tb), .second, .val (.long ib), .second, .val (.ref b1), .val (.ref b5), .val (.int (1 : Int32)), .val (.int (0 : Int32)), .val (.int (1 : Int32)), .val (.int (0 : Int32)), .unset] []))
          refine own_fs (XS.iconst X13.here hx rfl (hb hby at_176) (Steps.refl _)) ?_
          show own_G p.tables e below _ (T13.setTop (mkF m 177 #[.val (.long i1), .second, .val (.long t1), .second, .val (.long i2), .second, .val (.long t2), .second, .val (.int md), .val (.long tb), .second, .val (.long ib), .second, .val (.ref b1), .val (.ref b5), .val (.int (1 : Int32)), .val (.int (0 : Int32)), .val (.int (1 : Int32)), .val (.int (0 : Int32)), .unset] [(.int (1 : Int32))]))
          refine own_fs (XS.goto X13.here hx rfl (pc0 := 177) (pc' := 181) rfl (hb hby at_177) (by decide) (by decide) (Steps.refl _)) ?_
          show own_G p.tables e below _ (T13.setTop (mkF m 181 #[.val (.long i1), .second, .val (.long t1), .second, .val (.long i2), .second, .val (.long t2), .second, .val (.int md), .val (.long tb), .second, .val (.long ib), .second, .val (.ref b1), .val (.ref b5), .val (.int (1 : Int32)), .val (.int (0 : Int32)), .val (.int (1 : Int32)), .val (.int (0 : Int32)), .unset] [(.int (1 : Int32))]))
          refine own_fs (XS.istore X13.here hx rfl (hb hby at_181) rfl (l' := #[.val (.long i1), .second, .val (.long t1), .second, .val (.long i2), .second, .val (.long t2), .second, .val (.int md), .val (.long tb), .second, .val (.long ib), .second, .val (.ref b1), .val (.ref b5), .val (.int (1 : Int32)), .val (.int (0 : Int32)), .val (.int (1 : Int32)), .val (.int (0 : Int32)), .val (.int (1 : Int32))]) rfl (Steps.refl _)) ?_
          show own_G p.tables e below _ (T13.setTop (mkF m 183 #[.val (.long i1), .second, .val (.long t1), .second, .val (.long i2), .second, .val (.long t2), .second, .val (.int md), .val (.long tb), .second, .val (.long ib), .second, .val (.ref b1), .val (.ref b5), .val (.int (1 : Int32)), .val (.int (0 : Int32)), .val (.int (1 : Int32)), .val (.int (0 : Int32)), .val (.int (1 : Int32))] []))
          refine own_fs (XS.iload X13.here hx rfl (hb hby at_183) rfl (Steps.refl _)) ?_
          show own_G p.tables e below _ (T13.setTop (mkF m 185 #[.val (.long i1), .second, .val (.long t1), .second, .val (.long i2), .second, .val (.long t2), .second, .val (.int md), .val (.long tb), .second, .val (.long ib), .second, .val (.ref b1), .val (.ref b5), .val (.int (1 : Int32)), .val (.int (0 : Int32)), .val (.int (1 : Int32)), .val (.int (0 : Int32)), .val (.int (1 : Int32))] [(.int (1 : Int32))]))
          refine own_fs (XS.iload X13.here hx rfl (hb hby at_185) rfl (Steps.refl _)) ?_
          show own_G p.tables e below _ (T13.setTop (mkF m 187 #[.val (.long i1), .second, .val (.long t1), .second, .val (.long i2), .second, .val (.long t2), .second, .val (.int md), .val (.long tb), .second, .val (.long ib), .second, .val (.ref b1), .val (.ref b5), .val (.int (1 : Int32)), .val (.int (0 : Int32)), .val (.int (1 : Int32)), .val (.int (0 : Int32)), .val (.int (1 : Int32))] [(.int (1 : Int32)), (.int (1 : Int32))]))
          refine own_fs (XS.icmpNo X13.here hx rfl (hb hby at_187) rfl (XT.ii_ne_f (by decide : (1 : Int32) = (1 : Int32))) (Steps.refl _)) ?_
          show own_G p.tables e below _ (T13.setTop (mkF m 190 #[.val (.long i1), .second, .val (.long t1), .second, .val (.long i2), .second, .val (.long t2), .second, .val (.int md), .val (.long tb), .second, .val (.long ib), .second, .val (.ref b1), .val (.ref b5), .val (.int (1 : Int32)), .val (.int (0 : Int32)), .val (.int (1 : Int32)), .val (.int (0 : Int32)), .val (.int (1 : Int32))] []))
          refine own_fs (XS.iload X13.here hx rfl (hb hby at_190) rfl (Steps.refl _)) ?_
          show own_G p.tables e below _ (T13.setTop (mkF m 192 #[.val (.long i1), .second, .val (.long t1), .second, .val (.long i2), .second, .val (.long t2), .second, .val (.int md), .val (.long tb), .second, .val (.long ib), .second, .val (.ref b1), .val (.ref b5), .val (.int (1 : Int32)), .val (.int (0 : Int32)), .val (.int (1 : Int32)), .val (.int (0 : Int32)), .val (.int (1 : Int32))] [(.int (1 : Int32))]))
          refine own_fs (XS.ifNo X13.here hx rfl (hb hby at_192) rfl (XT.i0_eq_f (by decide : ¬ ((1 : Int32) = (0 : Int32)))) (Steps.refl _)) ?_
          show own_G p.tables e below _ (T13.setTop (mkF m 195 #[.val (.long i1), .second, .val (.long t1), .second, .val (.long i2), .second, .val (.long t2), .second, .val (.int md), .val (.long tb), .second, .val (.long ib), .second, .val (.ref b1), .val (.ref b5), .val (.int (1 : Int32)), .val (.int (0 : Int32)), .val (.int (1 : Int32)), .val (.int (0 : Int32)), .val (.int (1 : Int32))] []))
          refine own_fs (XS.iconst X13.here hx rfl (hb hby at_195) (Steps.refl _)) ?_
          show own_G p.tables e below _ (T13.setTop (mkF m 196 #[.val (.long i1), .second, .val (.long t1), .second, .val (.long i2), .second, .val (.long t2), .second, .val (.int md), .val (.long tb), .second, .val (.long ib), .second, .val (.ref b1), .val (.ref b5), .val (.int (1 : Int32)), .val (.int (0 : Int32)), .val (.int (1 : Int32)), .val (.int (0 : Int32)), .val (.int (1 : Int32))] [(.int (1 : Int32))]))
          refine own_fs (XS.goto X13.here hx rfl (pc0 := 196) (pc' := 200) rfl (hb hby at_196) (by decide) (by decide) (Steps.refl _)) ?_
          show own_G p.tables e below _ (T13.setTop (mkF m 200 #[.val (.long i1), .second, .val (.long t1), .second, .val (.long i2), .second, .val (.long t2), .second, .val (.int md), .val (.long tb), .second, .val (.long ib), .second, .val (.ref b1), .val (.ref b5), .val (.int (1 : Int32)), .val (.int (0 : Int32)), .val (.int (1 : Int32)), .val (.int (0 : Int32)), .val (.int (1 : Int32))] [(.int (1 : Int32))]))
          exact own_retN X13 hx (t := .boolean) Bd.returns hlk (by simp) (hb hby at_200) (by decide) (by decide) e13 ⟨rfl, N13⟩
        · rw [show own_ca i1 t1 ib tb = (0 : Int32) from by simp only [own_ca, if_neg ta0, if_pos ta1, if_neg ta2, if_pos ta3, if_neg ia0, if_pos ia1, if_neg ia2, if_pos ia3]]
          rw [show own_ca ib tb i1 t1 = (0 : Int32) from by simp only [own_ca, if_neg ta0, if_pos ta1, if_neg ta2, if_pos ta3, if_neg ia0, if_pos ia1, if_neg ia2, if_pos ia3]]
          show own_G p.tables e below _ (T13.setTop (mkF m 72 #[.val (.long i1), .second, .val (.long t1), .second, .val (.long i2), .second, .val (.long t2), .second, .val (.int md), .val (.long tb), .second, .val (.long ib), .second, .val (.ref b1), .val (.ref b5), .val (.int (0 : Int32)), .val (.int (0 : Int32)), .unset, .unset, .unset] []))
          refine own_fs (XS.lloadN X13.here hx rfl (hb hby at_72) rfl (Steps.refl _)) ?_
          show own_G p.tables e below _ (T13.setTop (mkF m 73 #[.val (.long i1), .second, .val (.long t1), .second, .val (.long i2), .second, .val (.long t2), .second, .val (.int md), .val (.long tb), .second, .val (.long ib), .second, .val (.ref b1), .val (.ref b5), .val (.int (0 : Int32)), .val (.int (0 : Int32)), .unset, .unset, .unset] [(.long t1)]))
          refine own_fs (XS.lload X13.here hx rfl (hb hby at_73) rfl (Steps.refl _)) ?_
          show own_G p.tables e below _ (T13.setTop (mkF m 75 #[.val (.long i1), .second, .val (.long t1), .second, .val (.long i2), .second, .val (.long t2), .second, .val (.int md), .val (.long tb), .second, .val (.long ib), .second, .val (.ref b1), .val (.ref b5), .val (.int (0 : Int32)), .val (.int (0 : Int32)), .unset, .unset, .unset] [(.long tb), (.long t1)]))
          refine own_fs (XT.lcmp X13.here hx rfl (hb hby at_75) rfl (Steps.refl _)) ?_
          show own_G p.tables e below _ (T13.setTop (mkF m 76 #[.val (.long i1), .second, .val (.long t1), .second, .val (.long i2), .second, .val (.long t2), .second, .val (.int md), .val (.long tb), .second, .val (.long ib), .second, .val (.ref b1), .val (.ref b5), .val (.int (0 : Int32)), .val (.int (0 : Int32)), .unset, .unset, .unset] [(.int (XT.cmpL t1 tb))]))
          refine own_fs (XS.ifYes X13.here hx rfl (pc0 := 76) (pc' := 96) rfl (hb hby at_76) rfl (XT.ll_eq_t ta1) (by decide) (by decide) (Steps.refl _)) ?_
          show own_G p.tables e below _ (T13.setTop (mkF m 96 #[.val (.long i1), .second, .val (.long t1), .second, .val (.long i2), .second, .val (.long t2), .second, .val (.int md), .val (.long tb), .second, .val (.long ib), .second, .val (.ref b1), .val (.ref b5), .val (.int (0 : Int32)), .val (.int (0 : Int32)), .unset, .unset, .unset] []))
          refine own_fs (XS.lloadN X13.here hx rfl (hb hby at_96) rfl (Steps.refl _)) ?_
          show own_G p.tables e below _ (T13.setTop (mkF m 97 #[.val (.long i1), .second, .val (.long t1), .second, .val (.long i2), .second, .val (.long t2), .second, .val (.int md), .val (.long tb), .second, .val (.long ib), .second, .val (.ref b1), .val (.ref b5), .val (.int (0 : Int32)), .val (.int (0 : Int32)), .unset, .unset, .unset] [(.long i1)]))
          refine own_fs (XS.lload X13.here hx rfl (hb hby at_97) rfl (Steps.refl _)) ?_
          show own_G p.tables e below _ (T13.setTop (mkF m 99 #[.val (.long i1), .second, .val (.long t1), .second, .val (.long i2), .second, .val (.long t2), .second, .val (.int md), .val (.long tb), .second, .val (.long ib), .second, .val (.ref b1), .val (.ref b5), .val (.int (0 : Int32)), .val (.int (0 : Int32)), .unset, .unset, .unset] [(.long ib), (.long i1)]))
          refine own_fs (XT.lcmp X13.here hx rfl (hb hby at_99) rfl (Steps.refl _)) ?_
          show own_G p.tables e below _ (T13.setTop (mkF m 100 #[.val (.long i1), .second, .val (.long t1), .second, .val (.long i2), .second, .val (.long t2), .second, .val (.int md), .val (.long tb), .second, .val (.long ib), .second, .val (.ref b1), .val (.ref b5), .val (.int (0 : Int32)), .val (.int (0 : Int32)), .unset, .unset, .unset] [(.int (XT.cmpL i1 ib))]))
          refine own_fs (XS.ifYes X13.here hx rfl (pc0 := 100) (pc' := 120) rfl (hb hby at_100) rfl (XT.ll_eq_t ia1) (by decide) (by decide) (Steps.refl _)) ?_
          show own_G p.tables e below _ (T13.setTop (mkF m 120 #[.val (.long i1), .second, .val (.long t1), .second, .val (.long i2), .second, .val (.long t2), .second, .val (.int md), .val (.long tb), .second, .val (.long ib), .second, .val (.ref b1), .val (.ref b5), .val (.int (0 : Int32)), .val (.int (0 : Int32)), .unset, .unset, .unset] []))
          refine own_fs (XS.iconst X13.here hx rfl (hb hby at_120) (Steps.refl _)) ?_
          show own_G p.tables e below _ (T13.setTop (mkF m 121 #[.val (.long i1), .second, .val (.long t1), .second, .val (.long i2), .second, .val (.long t2), .second, .val (.int md), .val (.long tb), .second, .val (.long ib), .second, .val (.ref b1), .val (.ref b5), .val (.int (0 : Int32)), .val (.int (0 : Int32)), .unset, .unset, .unset] [(.int (0 : Int32))]))
          refine own_fs (XS.istore X13.here hx rfl (hb hby at_121) rfl (l' := #[.val (.long i1), .second, .val (.long t1), .second, .val (.long i2), .second, .val (.long t2), .second, .val (.int md), .val (.long tb), .second, .val (.long ib), .second, .val (.ref b1), .val (.ref b5), .val (.int (0 : Int32)), .val (.int (0 : Int32)), .val (.int (0 : Int32)), .unset, .unset]) rfl (Steps.refl _)) ?_
          show own_G p.tables e below _ (T13.setTop (mkF m 123 #[.val (.long i1), .second, .val (.long t1), .second, .val (.long i2), .second, .val (.long t2), .second, .val (.int md), .val (.long tb), .second, .val (.long ib), .second, .val (.ref b1), .val (.ref b5), .val (.int (0 : Int32)), .val (.int (0 : Int32)), .val (.int (0 : Int32)), .unset, .unset] []))
          refine own_fs (XS.lloadN X13.here hx rfl (hb hby at_123) rfl (Steps.refl _)) ?_
          show own_G p.tables e below _ (T13.setTop (mkF m 124 #[.val (.long i1), .second, .val (.long t1), .second, .val (.long i2), .second, .val (.long t2), .second, .val (.int md), .val (.long tb), .second, .val (.long ib), .second, .val (.ref b1), .val (.ref b5), .val (.int (0 : Int32)), .val (.int (0 : Int32)), .val (.int (0 : Int32)), .unset, .unset] [(.long t1)]))
          refine own_fs (XS.lload X13.here hx rfl (hb hby at_124) rfl (Steps.refl _)) ?_
          show own_G p.tables e below _ (T13.setTop (mkF m 126 #[.val (.long i1), .second, .val (.long t1), .second, .val (.long i2), .second, .val (.long t2), .second, .val (.int md), .val (.long tb), .second, .val (.long ib), .second, .val (.ref b1), .val (.ref b5), .val (.int (0 : Int32)), .val (.int (0 : Int32)), .val (.int (0 : Int32)), .unset, .unset] [(.long tb), (.long t1)]))
          refine own_fs (XT.lcmp X13.here hx rfl (hb hby at_126) rfl (Steps.refl _)) ?_
          show own_G p.tables e below _ (T13.setTop (mkF m 127 #[.val (.long i1), .second, .val (.long t1), .second, .val (.long i2), .second, .val (.long t2), .second, .val (.int md), .val (.long tb), .second, .val (.long ib), .second, .val (.ref b1), .val (.ref b5), .val (.int (0 : Int32)), .val (.int (0 : Int32)), .val (.int (0 : Int32)), .unset, .unset] [(.int (XT.cmpL t1 tb))]))
          refine own_fs (XS.ifNo X13.here hx rfl (hb hby at_127) rfl (XT.ll_ne_f ta1) (Steps.refl _)) ?_
          show own_G p.tables e below _ (T13.setTop (mkF m 130 #[.val (.long i1), .second, .val (.long t1), .second, .val (.long i2), .second, .val (.long t2), .second, .val (.int md), .val (.long tb), .second, .val (.long ib), .second, .val (.ref b1), .val (.ref b5), .val (.int (0 : Int32)), .val (.int (0 : Int32)), .val (.int (0 : Int32)), .unset, .unset] []))
          refine own_fs (XS.lloadN X13.here hx rfl (hb hby at_130) rfl (Steps.refl _)) ?_
          show own_G p.tables e below _ (T13.setTop (mkF m 131 #[.val (.long i1), .second, .val (.long t1), .second, .val (.long i2), .second, .val (.long t2), .second, .val (.int md), .val (.long tb), .second, .val (.long ib), .second, .val (.ref b1), .val (.ref b5), .val (.int (0 : Int32)), .val (.int (0 : Int32)), .val (.int (0 : Int32)), .unset, .unset] [(.long i1)]))
          refine own_fs (XS.lload X13.here hx rfl (hb hby at_131) rfl (Steps.refl _)) ?_
          show own_G p.tables e below _ (T13.setTop (mkF m 133 #[.val (.long i1), .second, .val (.long t1), .second, .val (.long i2), .second, .val (.long t2), .second, .val (.int md), .val (.long tb), .second, .val (.long ib), .second, .val (.ref b1), .val (.ref b5), .val (.int (0 : Int32)), .val (.int (0 : Int32)), .val (.int (0 : Int32)), .unset, .unset] [(.long ib), (.long i1)]))
          refine own_fs (XT.lcmp X13.here hx rfl (hb hby at_133) rfl (Steps.refl _)) ?_
          show own_G p.tables e below _ (T13.setTop (mkF m 134 #[.val (.long i1), .second, .val (.long t1), .second, .val (.long i2), .second, .val (.long t2), .second, .val (.int md), .val (.long tb), .second, .val (.long ib), .second, .val (.ref b1), .val (.ref b5), .val (.int (0 : Int32)), .val (.int (0 : Int32)), .val (.int (0 : Int32)), .unset, .unset] [(.int (XT.cmpL i1 ib))]))
          refine own_fs (XS.ifNo X13.here hx rfl (hb hby at_134) rfl (XT.ll_ne_f ia1) (Steps.refl _)) ?_
          show own_G p.tables e below _ (T13.setTop (mkF m 137 #[.val (.long i1), .second, .val (.long t1), .second, .val (.long i2), .second, .val (.long t2), .second, .val (.int md), .val (.long tb), .second, .val (.long ib), .second, .val (.ref b1), .val (.ref b5), .val (.int (0 : Int32)), .val (.int (0 : Int32)), .val (.int (0 : Int32)), .unset, .unset] []))
          refine own_fs (XS.iconst X13.here hx rfl (hb hby at_137) (Steps.refl _)) ?_
          show own_G p.tables e below _ (T13.setTop (mkF m 138 #[.val (.long i1), .second, .val (.long t1), .second, .val (.long i2), .second, .val (.long t2), .second, .val (.int md), .val (.long tb), .second, .val (.long ib), .second, .val (.ref b1), .val (.ref b5), .val (.int (0 : Int32)), .val (.int (0 : Int32)), .val (.int (0 : Int32)), .unset, .unset] [(.int (1 : Int32))]))
          refine own_fs (XS.goto X13.here hx rfl (pc0 := 138) (pc' := 142) rfl (hb hby at_138) (by decide) (by decide) (Steps.refl _)) ?_
          show own_G p.tables e below _ (T13.setTop (mkF m 142 #[.val (.long i1), .second, .val (.long t1), .second, .val (.long i2), .second, .val (.long t2), .second, .val (.int md), .val (.long tb), .second, .val (.long ib), .second, .val (.ref b1), .val (.ref b5), .val (.int (0 : Int32)), .val (.int (0 : Int32)), .val (.int (0 : Int32)), .unset, .unset] [(.int (1 : Int32))]))
          refine own_fs (XS.istore X13.here hx rfl (hb hby at_142) rfl (l' := #[.val (.long i1), .second, .val (.long t1), .second, .val (.long i2), .second, .val (.long t2), .second, .val (.int md), .val (.long tb), .second, .val (.long ib), .second, .val (.ref b1), .val (.ref b5), .val (.int (0 : Int32)), .val (.int (0 : Int32)), .val (.int (0 : Int32)), .val (.int (1 : Int32)), .unset]) rfl (Steps.refl _)) ?_
          show own_G p.tables e below _ (T13.setTop (mkF m 144 #[.val (.long i1), .second, .val (.long t1), .second, .val (.long i2), .second, .val (.long t2), .second, .val (.int md), .val (.long tb), .second, .val (.long ib), .second, .val (.ref b1), .val (.ref b5), .val (.int (0 : Int32)), .val (.int (0 : Int32)), .val (.int (0 : Int32)), .val (.int (1 : Int32)), .unset] []))
          refine own_fs (XS.iload X13.here hx rfl (hb hby at_144) rfl (Steps.refl _)) ?_
          show own_G p.tables e below _ (T13.setTop (mkF m 146 #[.val (.long i1), .second, .val (.long t1), .second, .val (.long i2), .second, .val (.long t2), .second, .val (.int md), .val (.long tb), .second, .val (.long ib), .second, .val (.ref b1), .val (.ref b5), .val (.int (0 : Int32)), .val (.int (0 : Int32)), .val (.int (0 : Int32)), .val (.int (1 : Int32)), .unset] [(.int (1 : Int32))]))
          refine own_fs (XS.ifNo X13.here hx rfl (hb hby at_146) rfl (XT.i0_eq_f (by decide : ¬ ((1 : Int32) = (0 : Int32)))) (Steps.refl _)) ?_
          show own_G p.tables e below _ (T13.setTop (mkF m 149 #[.val (.long i1), .second, .val (.long t1), .second, .val (.long i2), .second, .val (.long t2), .second, .val (.int md), .val (.long tb), .second, .val (.long ib), .second, .val (.ref b1), .val (.ref b5), .val (.int (0 : Int32)), .val (.int (0 : Int32)), .val (.int (0 : Int32)), .val (.int (1 : Int32)), .unset] []))
          refine own_fs (XS.iload X13.here hx rfl (hb hby at_149) rfl (Steps.refl _)) ?_
          show own_G p.tables e below _ (T13.setTop (mkF m 151 #[.val (.long i1), .second, .val (.long t1), .second, .val (.long i2), .second, .val (.long t2), .second, .val (.int md), .val (.long tb), .second, .val (.long ib), .second, .val (.ref b1), .val (.ref b5), .val (.int (0 : Int32)), .val (.int (0 : Int32)), .val (.int (0 : Int32)), .val (.int (1 : Int32)), .unset] [(.int (0 : Int32))]))
          refine own_fs (XS.ifNo X13.here hx rfl (hb hby at_151) rfl (XT.i0_ne_f (by decide : (0 : Int32) = (0 : Int32))) (Steps.refl _)) ?_
          show own_G p.tables e below _ (T13.setTop (mkF m 154 #[.val (.long i1), .second, .val (.long t1), .second, .val (.long i2), .second, .val (.long t2), .second, .val (.int md), .val (.long tb), .second, .val (.long ib), .second, .val (.ref b1), .val (.ref b5), .val (.int (0 : Int32)), .val (.int (0 : Int32)), .val (.int (0 : Int32)), .val (.int (1 : Int32)), .unset] []))
          refine own_fs (XS.iload X13.here hx rfl (hb hby at_154) rfl (Steps.refl _)) ?_
          show own_G p.tables e below _ (T13.setTop (mkF m 156 #[.val (.long i1), .second, .val (.long t1), .second, .val (.long i2), .second, .val (.long t2), .second, .val (.int md), .val (.long tb), .second, .val (.long ib), .second, .val (.ref b1), .val (.ref b5), .val (.int (0 : Int32)), .val (.int (0 : Int32)), .val (.int (0 : Int32)), .val (.int (1 : Int32)), .unset] [(.int (0 : Int32))]))
          refine own_fs (XS.ifNo X13.here hx rfl (hb hby at_156) rfl (XT.i0_ne_f (by decide : (0 : Int32) = (0 : Int32))) (Steps.refl _)) ?_
          show own_G p.tables e below _ (T13.setTop (mkF m 159 #[.val (.long i1), .second, .val (.long t1), .second, .val (.long i2), .second, .val (.long t2), .second, .val (.int md), .val (.long tb), .second, .val (.long ib), .second, .val (.ref b1), .val (.ref b5), .val (.int (0 : Int32)), .val (.int (0 : Int32)), .val (.int (0 : Int32)), .val (.int (1 : Int32)), .unset] []))
          refine own_fs (XS.iconst X13.here hx rfl (hb hby at_159) (Steps.refl _)) ?_
          show own_G p.tables e below _ (T13.setTop (mkF m 160 #[.val (.long i1), .second, .val (.long t1), .second, .val (.long i2), .second, .val (.long t2), .second, .val (.int md), .val (.long tb), .second, .val (.long ib), .second, .val (.ref b1), .val (.ref b5), .val (.int (0 : Int32)), .val (.int (0 : Int32)), .val (.int (0 : Int32)), .val (.int (1 : Int32)), .unset] [(.int (1 : Int32))]))
          refine own_fs (XS.goto X13.here hx rfl (pc0 := 160) (pc' := 164) rfl (hb hby at_160) (by decide) (by decide) (Steps.refl _)) ?_
          show own_G p.tables e below _ (T13.setTop (mkF m 164 #[.val (.long i1), .second, .val (.long t1), .second, .val (.long i2), .second, .val (.long t2), .second, .val (.int md), .val (.long tb), .second, .val (.long ib), .second, .val (.ref b1), .val (.ref b5), .val (.int (0 : Int32)), .val (.int (0 : Int32)), .val (.int (0 : Int32)), .val (.int (1 : Int32)), .unset] [(.int (1 : Int32))]))
          refine own_fs (XS.istore X13.here hx rfl (hb hby at_164) rfl (l' := #[.val (.long i1), .second, .val (.long t1), .second, .val (.long i2), .second, .val (.long t2), .second, .val (.int md), .val (.long tb), .second, .val (.long ib), .second, .val (.ref b1), .val (.ref b5), .val (.int (0 : Int32)), .val (.int (0 : Int32)), .val (.int (0 : Int32)), .val (.int (1 : Int32)), .val (.int (1 : Int32))]) rfl (Steps.refl _)) ?_
          show own_G p.tables e below _ (T13.setTop (mkF m 166 #[.val (.long i1), .second, .val (.long t1), .second, .val (.long i2), .second, .val (.long t2), .second, .val (.int md), .val (.long tb), .second, .val (.long ib), .second, .val (.ref b1), .val (.ref b5), .val (.int (0 : Int32)), .val (.int (0 : Int32)), .val (.int (0 : Int32)), .val (.int (1 : Int32)), .val (.int (1 : Int32))] []))
          refine own_fs (XS.goto X13.here hx rfl (pc0 := 166) (pc' := 183) rfl (hb hby at_166) (by decide) (by decide) (Steps.refl _)) ?_
          show own_G p.tables e below _ (T13.setTop (mkF m 183 #[.val (.long i1), .second, .val (.long t1), .second, .val (.long i2), .second, .val (.long t2), .second, .val (.int md), .val (.long tb), .second, .val (.long ib), .second, .val (.ref b1), .val (.ref b5), .val (.int (0 : Int32)), .val (.int (0 : Int32)), .val (.int (0 : Int32)), .val (.int (1 : Int32)), .val (.int (1 : Int32))] []))
          refine own_fs (XS.iload X13.here hx rfl (hb hby at_183) rfl (Steps.refl _)) ?_
          show own_G p.tables e below _ (T13.setTop (mkF m 185 #[.val (.long i1), .second, .val (.long t1), .second, .val (.long i2), .second, .val (.long t2), .second, .val (.int md), .val (.long tb), .second, .val (.long ib), .second, .val (.ref b1), .val (.ref b5), .val (.int (0 : Int32)), .val (.int (0 : Int32)), .val (.int (0 : Int32)), .val (.int (1 : Int32)), .val (.int (1 : Int32))] [(.int (0 : Int32))]))
          refine own_fs (XS.iload X13.here hx rfl (hb hby at_185) rfl (Steps.refl _)) ?_
          show own_G p.tables e below _ (T13.setTop (mkF m 187 #[.val (.long i1), .second, .val (.long t1), .second, .val (.long i2), .second, .val (.long t2), .second, .val (.int md), .val (.long tb), .second, .val (.long ib), .second, .val (.ref b1), .val (.ref b5), .val (.int (0 : Int32)), .val (.int (0 : Int32)), .val (.int (0 : Int32)), .val (.int (1 : Int32)), .val (.int (1 : Int32))] [(.int (0 : Int32)), (.int (0 : Int32))]))
          refine own_fs (XS.icmpNo X13.here hx rfl (hb hby at_187) rfl (XT.ii_ne_f (by decide : (0 : Int32) = (0 : Int32))) (Steps.refl _)) ?_
          show own_G p.tables e below _ (T13.setTop (mkF m 190 #[.val (.long i1), .second, .val (.long t1), .second, .val (.long i2), .second, .val (.long t2), .second, .val (.int md), .val (.long tb), .second, .val (.long ib), .second, .val (.ref b1), .val (.ref b5), .val (.int (0 : Int32)), .val (.int (0 : Int32)), .val (.int (0 : Int32)), .val (.int (1 : Int32)), .val (.int (1 : Int32))] []))
          refine own_fs (XS.iload X13.here hx rfl (hb hby at_190) rfl (Steps.refl _)) ?_
          show own_G p.tables e below _ (T13.setTop (mkF m 192 #[.val (.long i1), .second, .val (.long t1), .second, .val (.long i2), .second, .val (.long t2), .second, .val (.int md), .val (.long tb), .second, .val (.long ib), .second, .val (.ref b1), .val (.ref b5), .val (.int (0 : Int32)), .val (.int (0 : Int32)), .val (.int (0 : Int32)), .val (.int (1 : Int32)), .val (.int (1 : Int32))] [(.int (1 : Int32))]))
          refine own_fs (XS.ifNo X13.here hx rfl (hb hby at_192) rfl (XT.i0_eq_f (by decide : ¬ ((1 : Int32) = (0 : Int32)))) (Steps.refl _)) ?_
          show own_G p.tables e below _ (T13.setTop (mkF m 195 #[.val (.long i1), .second, .val (.long t1), .second, .val (.long i2), .second, .val (.long t2), .second, .val (.int md), .val (.long tb), .second, .val (.long ib), .second, .val (.ref b1), .val (.ref b5), .val (.int (0 : Int32)), .val (.int (0 : Int32)), .val (.int (0 : Int32)), .val (.int (1 : Int32)), .val (.int (1 : Int32))] []))
          refine own_fs (XS.iconst X13.here hx rfl (hb hby at_195) (Steps.refl _)) ?_
          show own_G p.tables e below _ (T13.setTop (mkF m 196 #[.val (.long i1), .second, .val (.long t1), .second, .val (.long i2), .second, .val (.long t2), .second, .val (.int md), .val (.long tb), .second, .val (.long ib), .second, .val (.ref b1), .val (.ref b5), .val (.int (0 : Int32)), .val (.int (0 : Int32)), .val (.int (0 : Int32)), .val (.int (1 : Int32)), .val (.int (1 : Int32))] [(.int (1 : Int32))]))
          refine own_fs (XS.goto X13.here hx rfl (pc0 := 196) (pc' := 200) rfl (hb hby at_196) (by decide) (by decide) (Steps.refl _)) ?_
          show own_G p.tables e below _ (T13.setTop (mkF m 200 #[.val (.long i1), .second, .val (.long t1), .second, .val (.long i2), .second, .val (.long t2), .second, .val (.int md), .val (.long tb), .second, .val (.long ib), .second, .val (.ref b1), .val (.ref b5), .val (.int (0 : Int32)), .val (.int (0 : Int32)), .val (.int (0 : Int32)), .val (.int (1 : Int32)), .val (.int (1 : Int32))] [(.int (1 : Int32))]))
          exact own_retN X13 hx (t := .boolean) Bd.returns hlk (by simp) (hb hby at_200) (by decide) (by decide) e13 ⟨rfl, N13⟩
        · rw [show own_ca i1 t1 ib tb = (0 : Int32) from by simp only [own_ca, if_neg ta0, if_pos ta1, if_neg ta2, if_pos ta3, if_neg ia0, if_neg ia1, if_pos ia2, if_neg ia3]]
          rw [show own_ca ib tb i1 t1 = (1 : Int32) from by simp only [own_ca, if_neg ta0, if_pos ta1, if_neg ta2, if_pos ta3, if_neg ia0, if_neg ia1, if_pos ia2, if_neg ia3]]
          show own_G p.tables e below _ (T13.setTop (mkF m 72 #[.val (.long i1), .second, .val (.long t1), .second, .val (.long i2), .second, .val (.long t2), .second, .val (.int md), .val (.long tb), .second, .val (.long ib), .second, .val (.ref b1), .val (.ref b5), .val (.int (0 : Int32)), .val (.int (1 : Int32)), .unset, .unset, .unset] []))
          refine own_fs (XS.lloadN X13.here hx rfl (hb hby at_72) rfl (Steps.refl _)) ?_
          show own_G p.tables e below _ (T13.setTop (mkF m 73 #[.val (.long i1), .second, .val (.long t1), .second, .val (.long i2), .second, .val (.long t2), .second, .val (.int md), .val (.long tb), .second, .val (.long ib), .second, .val (.ref b1), .val (.ref b5), .val (.int (0 : Int32)), .val (.int (1 : Int32)), .unset, .unset, .unset] [(.long t1)]))
          refine own_fs (XS.lload X13.here hx rfl (hb hby at_73) rfl (Steps.refl _)) ?_
          show own_G p.tables e below _ (T13.setTop (mkF m 75 #[.val (.long i1), .second, .val (.long t1), .second, .val (.long i2), .second, .val (.long t2), .second, .val (.int md), .val (.long tb), .second, .val (.long ib), .second, .val (.ref b1), .val (.ref b5), .val (.int (0 : Int32)), .val (.int (1 : Int32)), .unset, .unset, .unset] [(.long tb), (.long t1)]))
          refine own_fs (XT.lcmp X13.here hx rfl (hb hby at_75) rfl (Steps.refl _)) ?_
          show own_G p.tables e below _ (T13.setTop (mkF m 76 #[.val (.long i1), .second, .val (.long t1), .second, .val (.long i2), .second, .val (.long t2), .second, .val (.int md), .val (.long tb), .second, .val (.long ib), .second, .val (.ref b1), .val (.ref b5), .val (.int (0 : Int32)), .val (.int (1 : Int32)), .unset, .unset, .unset] [(.int (XT.cmpL t1 tb))]))
          refine own_fs (XS.ifYes X13.here hx rfl (pc0 := 76) (pc' := 96) rfl (hb hby at_76) rfl (XT.ll_eq_t ta1) (by decide) (by decide) (Steps.refl _)) ?_
          show own_G p.tables e below _ (T13.setTop (mkF m 96 #[.val (.long i1), .second, .val (.long t1), .second, .val (.long i2), .second, .val (.long t2), .second, .val (.int md), .val (.long tb), .second, .val (.long ib), .second, .val (.ref b1), .val (.ref b5), .val (.int (0 : Int32)), .val (.int (1 : Int32)), .unset, .unset, .unset] []))
          refine own_fs (XS.lloadN X13.here hx rfl (hb hby at_96) rfl (Steps.refl _)) ?_
          show own_G p.tables e below _ (T13.setTop (mkF m 97 #[.val (.long i1), .second, .val (.long t1), .second, .val (.long i2), .second, .val (.long t2), .second, .val (.int md), .val (.long tb), .second, .val (.long ib), .second, .val (.ref b1), .val (.ref b5), .val (.int (0 : Int32)), .val (.int (1 : Int32)), .unset, .unset, .unset] [(.long i1)]))
          refine own_fs (XS.lload X13.here hx rfl (hb hby at_97) rfl (Steps.refl _)) ?_
          show own_G p.tables e below _ (T13.setTop (mkF m 99 #[.val (.long i1), .second, .val (.long t1), .second, .val (.long i2), .second, .val (.long t2), .second, .val (.int md), .val (.long tb), .second, .val (.long ib), .second, .val (.ref b1), .val (.ref b5), .val (.int (0 : Int32)), .val (.int (1 : Int32)), .unset, .unset, .unset] [(.long ib), (.long i1)]))
          refine own_fs (XT.lcmp X13.here hx rfl (hb hby at_99) rfl (Steps.refl _)) ?_
          show own_G p.tables e below _ (T13.setTop (mkF m 100 #[.val (.long i1), .second, .val (.long t1), .second, .val (.long i2), .second, .val (.long t2), .second, .val (.int md), .val (.long tb), .second, .val (.long ib), .second, .val (.ref b1), .val (.ref b5), .val (.int (0 : Int32)), .val (.int (1 : Int32)), .unset, .unset, .unset] [(.int (XT.cmpL i1 ib))]))
          refine own_fs (XS.ifNo X13.here hx rfl (hb hby at_100) rfl (XT.ll_eq_f ia1) (Steps.refl _)) ?_
          show own_G p.tables e below _ (T13.setTop (mkF m 103 #[.val (.long i1), .second, .val (.long t1), .second, .val (.long i2), .second, .val (.long t2), .second, .val (.int md), .val (.long tb), .second, .val (.long ib), .second, .val (.ref b1), .val (.ref b5), .val (.int (0 : Int32)), .val (.int (1 : Int32)), .unset, .unset, .unset] []))
          refine own_fs (XS.lloadN X13.here hx rfl (hb hby at_103) rfl (Steps.refl _)) ?_
          show own_G p.tables e below _ (T13.setTop (mkF m 104 #[.val (.long i1), .second, .val (.long t1), .second, .val (.long i2), .second, .val (.long t2), .second, .val (.int md), .val (.long tb), .second, .val (.long ib), .second, .val (.ref b1), .val (.ref b5), .val (.int (0 : Int32)), .val (.int (1 : Int32)), .unset, .unset, .unset] [(.long i1)]))
          refine own_fs (XS.lload X13.here hx rfl (hb hby at_104) rfl (Steps.refl _)) ?_
          show own_G p.tables e below _ (T13.setTop (mkF m 106 #[.val (.long i1), .second, .val (.long t1), .second, .val (.long i2), .second, .val (.long t2), .second, .val (.int md), .val (.long tb), .second, .val (.long ib), .second, .val (.ref b1), .val (.ref b5), .val (.int (0 : Int32)), .val (.int (1 : Int32)), .unset, .unset, .unset] [(.long ib), (.long i1)]))
          refine own_fs (XT.lcmp X13.here hx rfl (hb hby at_106) rfl (Steps.refl _)) ?_
          show own_G p.tables e below _ (T13.setTop (mkF m 107 #[.val (.long i1), .second, .val (.long t1), .second, .val (.long i2), .second, .val (.long t2), .second, .val (.int md), .val (.long tb), .second, .val (.long ib), .second, .val (.ref b1), .val (.ref b5), .val (.int (0 : Int32)), .val (.int (1 : Int32)), .unset, .unset, .unset] [(.int (XT.cmpL i1 ib))]))
          refine own_fs (XS.ifYes X13.here hx rfl (pc0 := 107) (pc' := 114) rfl (hb hby at_107) rfl (XT.ll_ge_t ia0) (by decide) (by decide) (Steps.refl _)) ?_
          show own_G p.tables e below _ (T13.setTop (mkF m 114 #[.val (.long i1), .second, .val (.long t1), .second, .val (.long i2), .second, .val (.long t2), .second, .val (.int md), .val (.long tb), .second, .val (.long ib), .second, .val (.ref b1), .val (.ref b5), .val (.int (0 : Int32)), .val (.int (1 : Int32)), .unset, .unset, .unset] []))
          refine own_fs (XS.iconst X13.here hx rfl (hb hby at_114) (Steps.refl _)) ?_
          show own_G p.tables e below _ (T13.setTop (mkF m 115 #[.val (.long i1), .second, .val (.long t1), .second, .val (.long i2), .second, .val (.long t2), .second, .val (.int md), .val (.long tb), .second, .val (.long ib), .second, .val (.ref b1), .val (.ref b5), .val (.int (0 : Int32)), .val (.int (1 : Int32)), .unset, .unset, .unset] [(.int (0 : Int32))]))
          refine own_fs (XS.istore X13.here hx rfl (hb hby at_115) rfl (l' := #[.val (.long i1), .second, .val (.long t1), .second, .val (.long i2), .second, .val (.long t2), .second, .val (.int md), .val (.long tb), .second, .val (.long ib), .second, .val (.ref b1), .val (.ref b5), .val (.int (0 : Int32)), .val (.int (1 : Int32)), .val (.int (0 : Int32)), .unset, .unset]) rfl (Steps.refl _)) ?_
          show own_G p.tables e below _ (T13.setTop (mkF m 117 #[.val (.long i1), .second, .val (.long t1), .second, .val (.long i2), .second, .val (.long t2), .second, .val (.int md), .val (.long tb), .second, .val (.long ib), .second, .val (.ref b1), .val (.ref b5), .val (.int (0 : Int32)), .val (.int (1 : Int32)), .val (.int (0 : Int32)), .unset, .unset] []))
          refine own_fs (XS.goto X13.here hx rfl (pc0 := 117) (pc' := 123) rfl (hb hby at_117) (by decide) (by decide) (Steps.refl _)) ?_
          show own_G p.tables e below _ (T13.setTop (mkF m 123 #[.val (.long i1), .second, .val (.long t1), .second, .val (.long i2), .second, .val (.long t2), .second, .val (.int md), .val (.long tb), .second, .val (.long ib), .second, .val (.ref b1), .val (.ref b5), .val (.int (0 : Int32)), .val (.int (1 : Int32)), .val (.int (0 : Int32)), .unset, .unset] []))
          refine own_fs (XS.lloadN X13.here hx rfl (hb hby at_123) rfl (Steps.refl _)) ?_
          show own_G p.tables e below _ (T13.setTop (mkF m 124 #[.val (.long i1), .second, .val (.long t1), .second, .val (.long i2), .second, .val (.long t2), .second, .val (.int md), .val (.long tb), .second, .val (.long ib), .second, .val (.ref b1), .val (.ref b5), .val (.int (0 : Int32)), .val (.int (1 : Int32)), .val (.int (0 : Int32)), .unset, .unset] [(.long t1)]))
          refine own_fs (XS.lload X13.here hx rfl (hb hby at_124) rfl (Steps.refl _)) ?_
          show own_G p.tables e below _ (T13.setTop (mkF m 126 #[.val (.long i1), .second, .val (.long t1), .second, .val (.long i2), .second, .val (.long t2), .second, .val (.int md), .val (.long tb), .second, .val (.long ib), .second, .val (.ref b1), .val (.ref b5), .val (.int (0 : Int32)), .val (.int (1 : Int32)), .val (.int (0 : Int32)), .unset, .unset] [(.long tb), (.long t1)]))
          refine own_fs (XT.lcmp X13.here hx rfl (hb hby at_126) rfl (Steps.refl _)) ?_
          show own_G p.tables e below _ (T13.setTop (mkF m 127 #[.val (.long i1), .second, .val (.long t1), .second, .val (.long i2), .second, .val (.long t2), .second, .val (.int md), .val (.long tb), .second, .val (.long ib), .second, .val (.ref b1), .val (.ref b5), .val (.int (0 : Int32)), .val (.int (1 : Int32)), .val (.int (0 : Int32)), .unset, .unset] [(.int (XT.cmpL t1 tb))]))
          refine own_fs (XS.ifNo X13.here hx rfl (hb hby at_127) rfl (XT.ll_ne_f ta1) (Steps.refl _)) ?_
          show own_G p.tables e below _ (T13.setTop (mkF m 130 #[.val (.long i1), .second, .val (.long t1), .second, .val (.long i2), .second, .val (.long t2), .second, .val (.int md), .val (.long tb), .second, .val (.long ib), .second, .val (.ref b1), .val (.ref b5), .val (.int (0 : Int32)), .val (.int (1 : Int32)), .val (.int (0 : Int32)), .unset, .unset] []))
          refine own_fs (XS.lloadN X13.here hx rfl (hb hby at_130) rfl (Steps.refl _)) ?_
          show own_G p.tables e below _ (T13.setTop (mkF m 131 #[.val (.long i1), .second, .val (.long t1), .second, .val (.long i2), .second, .val (.long t2), .second, .val (.int md), .val (.long tb), .second, .val (.long ib), .second, .val (.ref b1), .val (.ref b5), .val (.int (0 : Int32)), .val (.int (1 : Int32)), .val (.int (0 : Int32)), .unset, .unset] [(.long i1)]))
          refine own_fs (XS.lload X13.here hx rfl (hb hby at_131) rfl (Steps.refl _)) ?_
          show own_G p.tables e below _ (T13.setTop (mkF m 133 #[.val (.long i1), .second, .val (.long t1), .second, .val (.long i2), .second, .val (.long t2), .second, .val (.int md), .val (.long tb), .second, .val (.long ib), .second, .val (.ref b1), .val (.ref b5), .val (.int (0 : Int32)), .val (.int (1 : Int32)), .val (.int (0 : Int32)), .unset, .unset] [(.long ib), (.long i1)]))
          refine own_fs (XT.lcmp X13.here hx rfl (hb hby at_133) rfl (Steps.refl _)) ?_
          show own_G p.tables e below _ (T13.setTop (mkF m 134 #[.val (.long i1), .second, .val (.long t1), .second, .val (.long i2), .second, .val (.long t2), .second, .val (.int md), .val (.long tb), .second, .val (.long ib), .second, .val (.ref b1), .val (.ref b5), .val (.int (0 : Int32)), .val (.int (1 : Int32)), .val (.int (0 : Int32)), .unset, .unset] [(.int (XT.cmpL i1 ib))]))
          refine own_fs (XS.ifYes X13.here hx rfl (pc0 := 134) (pc' := 141) rfl (hb hby at_134) rfl (XT.ll_ne_t ia1) (by decide) (by decide) (Steps.refl _)) ?_
          show own_G p.tables e below _ (T13.setTop (mkF m 141 #[.val (.long i1), .second, .val (.long t1), .second, .val (.long i2), .second, .val (.long t2), .second, .val (.int md), .val (.long tb), .second, .val (.long ib), .second, .val (.ref b1), .val (.ref b5), .val (.int (0 : Int32)), .val (.int (1 : Int32)), .val (.int (0 : Int32)), .unset, .unset] []))
          refine own_fs (XS.iconst X13.here hx rfl (hb hby at_141) (Steps.refl _)) ?_
          show own_G p.tables e below _ (T13.setTop (mkF m 142 #[.val (.long i1), .second, .val (.long t1), .second, .val (.long i2), .second, .val (.long t2), .second, .val (.int md), .val (.long tb), .second, .val (.long ib), .second, .val (.ref b1), .val (.ref b5), .val (.int (0 : Int32)), .val (.int (1 : Int32)), .val (.int (0 : Int32)), .unset, .unset] [(.int (0 : Int32))]))
          refine own_fs (XS.istore X13.here hx rfl (hb hby at_142) rfl (l' := #[.val (.long i1), .second, .val (.long t1), .second, .val (.long i2), .second, .val (.long t2), .second, .val (.int md), .val (.long tb), .second, .val (.long ib), .second, .val (.ref b1), .val (.ref b5), .val (.int (0 : Int32)), .val (.int (1 : Int32)), .val (.int (0 : Int32)), .val (.int (0 : Int32)), .unset]) rfl (Steps.refl _)) ?_
          show own_G p.tables e below _ (T13.setTop (mkF m 144 #[.val (.long i1), .second, .val (.long t1), .second, .val (.long i2), .second, .val (.long t2), .second, .val (.int md), .val (.long tb), .second, .val (.long ib), .second, .val (.ref b1), .val (.ref b5), .val (.int (0 : Int32)), .val (.int (1 : Int32)), .val (.int (0 : Int32)), .val (.int (0 : Int32)), .unset] []))
          refine own_fs (XS.iload X13.here hx rfl (hb hby at_144) rfl (Steps.refl _)) ?_
          show own_G p.tables e below _ (T13.setTop (mkF m 146 #[.val (.long i1), .second, .val (.long t1), .second, .val (.long i2), .second, .val (.long t2), .second, .val (.int md), .val (.long tb), .second, .val (.long ib), .second, .val (.ref b1), .val (.ref b5), .val (.int (0 : Int32)), .val (.int (1 : Int32)), .val (.int (0 : Int32)), .val (.int (0 : Int32)), .unset] [(.int (0 : Int32))]))
          refine own_fs (XS.ifYes X13.here hx rfl (pc0 := 146) (pc' := 169) rfl (hb hby at_146) rfl (XT.i0_eq_t (by decide : (0 : Int32) = (0 : Int32))) (by decide) (by decide) (Steps.refl _)) ?_
          show own_G p.tables e below _ (T13.setTop (mkF m 169 #[.val (.long i1), .second, .val (.long t1), .second, .val (.long i2), .second, .val (.long t2), .second, .val (.int md), .val (.long tb), .second, .val (.long ib), .second, .val (.ref b1), .val (.ref b5), .val (.int (0 : Int32)), .val (.int (1 : Int32)), .val (.int (0 : Int32)), .val (.int (0 : Int32)), .unset] []))
          refine own_fs (XS.iload X13.here hx rfl (hb hby at_169) rfl (Steps.refl _)) ?_
          show own_G p.tables e below _ (T13.setTop (mkF m 171 #[.val (.long i1), .second, .val (.long t1), .second, .val (.long i2), .second, .val (.long t2), .second, .val (.int md), .val (.long tb), .second, .val (.long ib), .second, .val (.ref b1), .val (.ref b5), .val (.int (0 : Int32)), .val (.int (1 : Int32)), .val (.int (0 : Int32)), .val (.int (0 : Int32)), .unset] [(.int (0 : Int32))]))
          refine own_fs (XS.iload X13.here hx rfl (hb hby at_171) rfl (Steps.refl _)) ?_
          show own_G p.tables e below _ (T13.setTop (mkF m 173 #[.val (.long i1), .second, .val (.long t1), .second, .val (.long i2), .second, .val (.long t2), .second, .val (.int md), .val (.long tb), .second, .val (.long ib), .second, .val (.ref b1), .val (.ref b5), .val (.int (0 : Int32)), .val (.int (1 : Int32)), .val (.int (0 : Int32)), .val (.int (0 : Int32)), .unset] [(.int (1 : Int32)), (.int (0 : Int32))]))
          refine own_fs (XS.icmpNo X13.here hx rfl (hb hby at_173) rfl (XT.ii_eq_f (by decide : ¬ ((0 : Int32) = (1 : Int32)))) (Steps.refl _)) ?_
          show own_G p.tables e below _ (T13.setTop (mkF m 176 #[.val (.long i1), .second, .val (.long t1), .second, .val (.long i2), .second, .val (.long t2), .second, .val (.int md), .val (.long tb), .second, .val (.long ib), .second, .val (.ref b1), .val (.ref b5), .val (.int (0 : Int32)), .val (.int (1 : Int32)), .val (.int (0 : Int32)), .val (.int (0 : Int32)), .unset] []))
          refine own_fs (XS.iconst X13.here hx rfl (hb hby at_176) (Steps.refl _)) ?_
          show own_G p.tables e below _ (T13.setTop (mkF m 177 #[.val (.long i1), .second, .val (.long t1), .second, .val (.long i2), .second, .val (.long t2), .second, .val (.int md), .val (.long tb), .second, .val (.long ib), .second, .val (.ref b1), .val (.ref b5), .val (.int (0 : Int32)), .val (.int (1 : Int32)), .val (.int (0 : Int32)), .val (.int (0 : Int32)), .unset] [(.int (1 : Int32))]))
          refine own_fs (XS.goto X13.here hx rfl (pc0 := 177) (pc' := 181) rfl (hb hby at_177) (by decide) (by decide) (Steps.refl _)) ?_
          show own_G p.tables e below _ (T13.setTop (mkF m 181 #[.val (.long i1), .second, .val (.long t1), .second, .val (.long i2), .second, .val (.long t2), .second, .val (.int md), .val (.long tb), .second, .val (.long ib), .second, .val (.ref b1), .val (.ref b5), .val (.int (0 : Int32)), .val (.int (1 : Int32)), .val (.int (0 : Int32)), .val (.int (0 : Int32)), .unset] [(.int (1 : Int32))]))
          refine own_fs (XS.istore X13.here hx rfl (hb hby at_181) rfl (l' := #[.val (.long i1), .second, .val (.long t1), .second, .val (.long i2), .second, .val (.long t2), .second, .val (.int md), .val (.long tb), .second, .val (.long ib), .second, .val (.ref b1), .val (.ref b5), .val (.int (0 : Int32)), .val (.int (1 : Int32)), .val (.int (0 : Int32)), .val (.int (0 : Int32)), .val (.int (1 : Int32))]) rfl (Steps.refl _)) ?_
          show own_G p.tables e below _ (T13.setTop (mkF m 183 #[.val (.long i1), .second, .val (.long t1), .second, .val (.long i2), .second, .val (.long t2), .second, .val (.int md), .val (.long tb), .second, .val (.long ib), .second, .val (.ref b1), .val (.ref b5), .val (.int (0 : Int32)), .val (.int (1 : Int32)), .val (.int (0 : Int32)), .val (.int (0 : Int32)), .val (.int (1 : Int32))] []))
          refine own_fs (XS.iload X13.here hx rfl (hb hby at_183) rfl (Steps.refl _)) ?_
          show own_G p.tables e below _ (T13.setTop (mkF m 185 #[.val (.long i1), .second, .val (.long t1), .second, .val (.long i2), .second, .val (.long t2), .second, .val (.int md), .val (.long tb), .second, .val (.long ib), .second, .val (.ref b1), .val (.ref b5), .val (.int (0 : Int32)), .val (.int (1 : Int32)), .val (.int (0 : Int32)), .val (.int (0 : Int32)), .val (.int (1 : Int32))] [(.int (0 : Int32))]))
          refine own_fs (XS.iload X13.here hx rfl (hb hby at_185) rfl (Steps.refl _)) ?_
          show own_G p.tables e below _ (T13.setTop (mkF m 187 #[.val (.long i1), .second, .val (.long t1), .second, .val (.long i2), .second, .val (.long t2), .second, .val (.int md), .val (.long tb), .second, .val (.long ib), .second, .val (.ref b1), .val (.ref b5), .val (.int (0 : Int32)), .val (.int (1 : Int32)), .val (.int (0 : Int32)), .val (.int (0 : Int32)), .val (.int (1 : Int32))] [(.int (0 : Int32)), (.int (0 : Int32))]))
          refine own_fs (XS.icmpNo X13.here hx rfl (hb hby at_187) rfl (XT.ii_ne_f (by decide : (0 : Int32) = (0 : Int32))) (Steps.refl _)) ?_
          show own_G p.tables e below _ (T13.setTop (mkF m 190 #[.val (.long i1), .second, .val (.long t1), .second, .val (.long i2), .second, .val (.long t2), .second, .val (.int md), .val (.long tb), .second, .val (.long ib), .second, .val (.ref b1), .val (.ref b5), .val (.int (0 : Int32)), .val (.int (1 : Int32)), .val (.int (0 : Int32)), .val (.int (0 : Int32)), .val (.int (1 : Int32))] []))
          refine own_fs (XS.iload X13.here hx rfl (hb hby at_190) rfl (Steps.refl _)) ?_
          show own_G p.tables e below _ (T13.setTop (mkF m 192 #[.val (.long i1), .second, .val (.long t1), .second, .val (.long i2), .second, .val (.long t2), .second, .val (.int md), .val (.long tb), .second, .val (.long ib), .second, .val (.ref b1), .val (.ref b5), .val (.int (0 : Int32)), .val (.int (1 : Int32)), .val (.int (0 : Int32)), .val (.int (0 : Int32)), .val (.int (1 : Int32))] [(.int (1 : Int32))]))
          refine own_fs (XS.ifNo X13.here hx rfl (hb hby at_192) rfl (XT.i0_eq_f (by decide : ¬ ((1 : Int32) = (0 : Int32)))) (Steps.refl _)) ?_
          show own_G p.tables e below _ (T13.setTop (mkF m 195 #[.val (.long i1), .second, .val (.long t1), .second, .val (.long i2), .second, .val (.long t2), .second, .val (.int md), .val (.long tb), .second, .val (.long ib), .second, .val (.ref b1), .val (.ref b5), .val (.int (0 : Int32)), .val (.int (1 : Int32)), .val (.int (0 : Int32)), .val (.int (0 : Int32)), .val (.int (1 : Int32))] []))
          refine own_fs (XS.iconst X13.here hx rfl (hb hby at_195) (Steps.refl _)) ?_
          show own_G p.tables e below _ (T13.setTop (mkF m 196 #[.val (.long i1), .second, .val (.long t1), .second, .val (.long i2), .second, .val (.long t2), .second, .val (.int md), .val (.long tb), .second, .val (.long ib), .second, .val (.ref b1), .val (.ref b5), .val (.int (0 : Int32)), .val (.int (1 : Int32)), .val (.int (0 : Int32)), .val (.int (0 : Int32)), .val (.int (1 : Int32))] [(.int (1 : Int32))]))
          refine own_fs (XS.goto X13.here hx rfl (pc0 := 196) (pc' := 200) rfl (hb hby at_196) (by decide) (by decide) (Steps.refl _)) ?_
          show own_G p.tables e below _ (T13.setTop (mkF m 200 #[.val (.long i1), .second, .val (.long t1), .second, .val (.long i2), .second, .val (.long t2), .second, .val (.int md), .val (.long tb), .second, .val (.long ib), .second, .val (.ref b1), .val (.ref b5), .val (.int (0 : Int32)), .val (.int (1 : Int32)), .val (.int (0 : Int32)), .val (.int (0 : Int32)), .val (.int (1 : Int32))] [(.int (1 : Int32))]))
          exact own_retN X13 hx (t := .boolean) Bd.returns hlk (by simp) (hb hby at_200) (by decide) (by decide) e13 ⟨rfl, N13⟩
      · rcases own_tri i1 ib with ⟨ia0, ia1, ia2, ia3⟩ | ⟨ia1, ia0, ia2, ia3⟩ | ⟨ia2, ia1, ia0, ia3⟩
        · rw [show own_ca i1 t1 ib tb = (0 : Int32) from by simp only [own_ca, if_neg ta0, if_neg ta1, if_pos ta2, if_neg ta3, if_pos ia0, if_neg ia1, if_neg ia2, if_neg ia3]]
          rw [show own_ca ib tb i1 t1 = (1 : Int32) from by simp only [own_ca, if_neg ta0, if_neg ta1, if_pos ta2, if_neg ta3, if_pos ia0, if_neg ia1, if_neg ia2, if_neg ia3]]
          show own_G p.tables e below _ (T13.setTop (mkF m 72 #[.val (.long i1), .second, .val (.long t1), .second, .val (.long i2), .second, .val (.long t2), .second, .val (.int md), .val (.long tb), .second, .val (.long ib), .second, .val (.ref b1), .val (.ref b5), .val (.int (0 : Int32)), .val (.int (1 : Int32)), .unset, .unset, .unset] []))
          refine own_fs (XS.lloadN X13.here hx rfl (hb hby at_72) rfl (Steps.refl _)) ?_
          show own_G p.tables e below _ (T13.setTop (mkF m 73 #[.val (.long i1), .second, .val (.long t1), .second, .val (.long i2), .second, .val (.long t2), .second, .val (.int md), .val (.long tb), .second, .val (.long ib), .second, .val (.ref b1), .val (.ref b5), .val (.int (0 : Int32)), .val (.int (1 : Int32)), .unset, .unset, .unset] [(.long t1)]))
          refine own_fs (XS.lload X13.here hx rfl (hb hby at_73) rfl (Steps.refl _)) ?_
          show own_G p.tables e below _ (T13.setTop (mkF m 75 #[.val (.long i1), .second, .val (.long t1), .second, .val (.long i2), .second, .val (.long t2), .second, .val (.int md), .val (.long tb), .second, .val (.long ib), .second, .val (.ref b1), .val (.ref b5), .val (.int (0 : Int32)), .val (.int (1 : Int32)), .unset, .unset, .unset] [(.long tb), (.long t1)]))
          refine own_fs (XT.lcmp X13.here hx rfl (hb hby at_75) rfl (Steps.refl _)) ?_
          show own_G p.tables e below _ (T13.setTop (mkF m 76 #[.val (.long i1), .second, .val (.long t1), .second, .val (.long i2), .second, .val (.long t2), .second, .val (.int md), .val (.long tb), .second, .val (.long ib), .second, .val (.ref b1), .val (.ref b5), .val (.int (0 : Int32)), .val (.int (1 : Int32)), .unset, .unset, .unset] [(.int (XT.cmpL t1 tb))]))
          refine own_fs (XS.ifNo X13.here hx rfl (hb hby at_76) rfl (XT.ll_eq_f ta1) (Steps.refl _)) ?_
          show own_G p.tables e below _ (T13.setTop (mkF m 79 #[.val (.long i1), .second, .val (.long t1), .second, .val (.long i2), .second, .val (.long t2), .second, .val (.int md), .val (.long tb), .second, .val (.long ib), .second, .val (.ref b1), .val (.ref b5), .val (.int (0 : Int32)), .val (.int (1 : Int32)), .unset, .unset, .unset] []))
          refine own_fs (XS.lloadN X13.here hx rfl (hb hby at_79) rfl (Steps.refl _)) ?_
          show own_G p.tables e below _ (T13.setTop (mkF m 80 #[.val (.long i1), .second, .val (.long t1), .second, .val (.long i2), .second, .val (.long t2), .second, .val (.int md), .val (.long tb), .second, .val (.long ib), .second, .val (.ref b1), .val (.ref b5), .val (.int (0 : Int32)), .val (.int (1 : Int32)), .unset, .unset, .unset] [(.long t1)]))
          refine own_fs (XS.lload X13.here hx rfl (hb hby at_80) rfl (Steps.refl _)) ?_
          show own_G p.tables e below _ (T13.setTop (mkF m 82 #[.val (.long i1), .second, .val (.long t1), .second, .val (.long i2), .second, .val (.long t2), .second, .val (.int md), .val (.long tb), .second, .val (.long ib), .second, .val (.ref b1), .val (.ref b5), .val (.int (0 : Int32)), .val (.int (1 : Int32)), .unset, .unset, .unset] [(.long tb), (.long t1)]))
          refine own_fs (XT.lcmp X13.here hx rfl (hb hby at_82) rfl (Steps.refl _)) ?_
          show own_G p.tables e below _ (T13.setTop (mkF m 83 #[.val (.long i1), .second, .val (.long t1), .second, .val (.long i2), .second, .val (.long t2), .second, .val (.int md), .val (.long tb), .second, .val (.long ib), .second, .val (.ref b1), .val (.ref b5), .val (.int (0 : Int32)), .val (.int (1 : Int32)), .unset, .unset, .unset] [(.int (XT.cmpL t1 tb))]))
          refine own_fs (XS.ifYes X13.here hx rfl (pc0 := 83) (pc' := 90) rfl (hb hby at_83) rfl (XT.ll_ge_t ta0) (by decide) (by decide) (Steps.refl _)) ?_
          show own_G p.tables e below _ (T13.setTop (mkF m 90 #[.val (.long i1), .second, .val (.long t1), .second, .val (.long i2), .second, .val (.long t2), .second, .val (.int md), .val (.long tb), .second, .val (.long ib), .second, .val (.ref b1), .val (.ref b5), .val (.int (0 : Int32)), .val (.int (1 : Int32)), .unset, .unset, .unset] []))
          refine own_fs (XS.iconst X13.here hx rfl (hb hby at_90) (Steps.refl _)) ?_
          show own_G p.tables e below _ (T13.setTop (mkF m 91 #[.val (.long i1), .second, .val (.long t1), .second, .val (.long i2), .second, .val (.long t2), .second, .val (.int md), .val (.long tb), .second, .val (.long ib), .second, .val (.ref b1), .val (.ref b5), .val (.int (0 : Int32)), .val (.int (1 : Int32)), .unset, .unset, .unset] [(.int (0 : Int32))]))
          refine own_fs (XS.istore X13.here hx rfl (hb hby at_91) rfl (l' := #[.val (.long i1), .second, .val (.long t1), .second, .val (.long i2), .second, .val (.long t2), .second, .val (.int md), .val (.long tb), .second, .val (.long ib), .second, .val (.ref b1), .val (.ref b5), .val (.int (0 : Int32)), .val (.int (1 : Int32)), .val (.int (0 : Int32)), .unset, .unset]) rfl (Steps.refl _)) ?_
          show own_G p.tables e below _ (T13.setTop (mkF m 93 #[.val (.long i1), .second, .val (.long t1), .second, .val (.long i2), .second, .val (.long t2), .second, .val (.int md), .val (.long tb), .second, .val (.long ib), .second, .val (.ref b1), .val (.ref b5), .val (.int (0 : Int32)), .val (.int (1 : Int32)), .val (.int (0 : Int32)), .unset, .unset] []))
          refine own_fs (XS.goto X13.here hx rfl (pc0 := 93) (pc' := 123) rfl (hb hby at_93) (by decide) (by decide) (Steps.refl _)) ?_
          show own_G p.tables e below _ (T13.setTop (mkF m 123 #[.val (.long i1), .second, .val (.long t1), .second, .val (.long i2), .second, .val (.long t2), .second, .val (.int md), .val (.long tb), .second, .val (.long ib), .second, .val (.ref b1), .val (.ref b5), .val (.int (0 : Int32)), .val (.int (1 : Int32)), .val (.int (0 : Int32)), .unset, .unset] []))
          refine own_fs (XS.lloadN X13.here hx rfl (hb hby at_123) rfl (Steps.refl _)) ?_
          show own_G p.tables e below _ (T13.setTop (mkF m 124 #[.val (.long i1), .second, .val (.long t1), .second, .val (.long i2), .second, .val (.long t2), .second, .val (.int md), .val (.long tb), .second, .val (.long ib), .second, .val (.ref b1), .val (.ref b5), .val (.int (0 : Int32)), .val (.int (1 : Int32)), .val (.int (0 : Int32)), .unset, .unset] [(.long t1)]))
          refine own_fs (XS.lload X13.here hx rfl (hb hby at_124) rfl (Steps.refl _)) ?_
          show own_G p.tables e below _ (T13.setTop (mkF m 126 #[.val (.long i1), .second, .val (.long t1), .second, .val (.long i2), .second, .val (.long t2), .second, .val (.int md), .val (.long tb), .second, .val (.long ib), .second, .val (.ref b1), .val (.ref b5), .val (.int (0 : Int32)), .val (.int (1 : Int32)), .val (.int (0 : Int32)), .unset, .unset] [(.long tb), (.long t1)]))
          refine own_fs (XT.lcmp X13.here hx rfl (hb hby at_126) rfl (Steps.refl _)) ?_
          show own_G p.tables e below _ (T13.setTop (mkF m 127 #[.val (.long i1), .second, .val (.long t1), .second, .val (.long i2), .second, .val (.long t2), .second, .val (.int md), .val (.long tb), .second, .val (.long ib), .second, .val (.ref b1), .val (.ref b5), .val (.int (0 : Int32)), .val (.int (1 : Int32)), .val (.int (0 : Int32)), .unset, .unset] [(.int (XT.cmpL t1 tb))]))
          refine own_fs (XS.ifYes X13.here hx rfl (pc0 := 127) (pc' := 141) rfl (hb hby at_127) rfl (XT.ll_ne_t ta1) (by decide) (by decide) (Steps.refl _)) ?_
          show own_G p.tables e below _ (T13.setTop (mkF m 141 #[.val (.long i1), .second, .val (.long t1), .second, .val (.long i2), .second, .val (.long t2), .second, .val (.int md), .val (.long tb), .second, .val (.long ib), .second, .val (.ref b1), .val (.ref b5), .val (.int (0 : Int32)), .val (.int (1 : Int32)), .val (.int (0 : Int32)), .unset, .unset] []))
          refine own_fs (XS.iconst X13.here hx rfl (hb hby at_141) (Steps.refl _)) ?_
          show own_G p.tables e below _ (T13.setTop (mkF m 142 #[.val (.long i1), .second, .val (.long t1), .second, .val (.long i2), .second, .val (.long t2), .second, .val (.int md), .val (.long tb), .second, .val (.long ib), .second, .val (.ref b1), .val (.ref b5), .val (.int (0 : Int32)), .val (.int (1 : Int32)), .val (.int (0 : Int32)), .unset, .unset] [(.int (0 : Int32))]))
          refine own_fs (XS.istore X13.here hx rfl (hb hby at_142) rfl (l' := #[.val (.long i1), .second, .val (.long t1), .second, .val (.long i2), .second, .val (.long t2), .second, .val (.int md), .val (.long tb), .second, .val (.long ib), .second, .val (.ref b1), .val (.ref b5), .val (.int (0 : Int32)), .val (.int (1 : Int32)), .val (.int (0 : Int32)), .val (.int (0 : Int32)), .unset]) rfl (Steps.refl _)) ?_
          show own_G p.tables e below _ (T13.setTop (mkF m 144 #[.val (.long i1), .second, .val (.long t1), .second, .val (.long i2), .second, .val (.long t2), .second, .val (.int md), .val (.long tb), .second, .val (.long ib), .second, .val (.ref b1), .val (.ref b5), .val (.int (0 : Int32)), .val (.int (1 : Int32)), .val (.int (0 : Int32)), .val (.int (0 : Int32)), .unset] []))
          refine own_fs (XS.iload X13.here hx rfl (hb hby at_144) rfl (Steps.refl _)) ?_
          show own_G p.tables e below _ (T13.setTop (mkF m 146 #[.val (.long i1), .second, .val (.long t1), .second, .val (.long i2), .second, .val (.long t2), .second, .val (.int md), .val (.long tb), .second, .val (.long ib), .second, .val (.ref b1), .val (.ref b5), .val (.int (0 : Int32)), .val (.int (1 : Int32)), .val (.int (0 : Int32)), .val (.int (0 : Int32)), .unset] [(.int (0 : Int32))]))
          refine own_fs (XS.ifYes X13.here hx rfl (pc0 := 146) (pc' := 169) rfl (hb hby at_146) rfl (XT.i0_eq_t (by decide : (0 : Int32) = (0 : Int32))) (by decide) (by decide) (Steps.refl _)) ?_
          show own_G p.tables e below _ (T13.setTop (mkF m 169 #[.val (.long i1), .second, .val (.long t1), .second, .val (.long i2), .second, .val (.long t2), .second, .val (.int md), .val (.long tb), .second, .val (.long ib), .second, .val (.ref b1), .val (.ref b5), .val (.int (0 : Int32)), .val (.int (1 : Int32)), .val (.int (0 : Int32)), .val (.int (0 : Int32)), .unset] []))
          refine own_fs (XS.iload X13.here hx rfl (hb hby at_169) rfl (Steps.refl _)) ?_
          show own_G p.tables e below _ (T13.setTop (mkF m 171 #[.val (.long i1), .second, .val (.long t1), .second, .val (.long i2), .second, .val (.long t2), .second, .val (.int md), .val (.long tb), .second, .val (.long ib), .second, .val (.ref b1), .val (.ref b5), .val (.int (0 : Int32)), .val (.int (1 : Int32)), .val (.int (0 : Int32)), .val (.int (0 : Int32)), .unset] [(.int (0 : Int32))]))
          refine own_fs (XS.iload X13.here hx rfl (hb hby at_171) rfl (Steps.refl _)) ?_
          show own_G p.tables e below _ (T13.setTop (mkF m 173 #[.val (.long i1), .second, .val (.long t1), .second, .val (.long i2), .second, .val (.long t2), .second, .val (.int md), .val (.long tb), .second, .val (.long ib), .second, .val (.ref b1), .val (.ref b5), .val (.int (0 : Int32)), .val (.int (1 : Int32)), .val (.int (0 : Int32)), .val (.int (0 : Int32)), .unset] [(.int (1 : Int32)), (.int (0 : Int32))]))
          refine own_fs (XS.icmpNo X13.here hx rfl (hb hby at_173) rfl (XT.ii_eq_f (by decide : ¬ ((0 : Int32) = (1 : Int32)))) (Steps.refl _)) ?_
          show own_G p.tables e below _ (T13.setTop (mkF m 176 #[.val (.long i1), .second, .val (.long t1), .second, .val (.long i2), .second, .val (.long t2), .second, .val (.int md), .val (.long tb), .second, .val (.long ib), .second, .val (.ref b1), .val (.ref b5), .val (.int (0 : Int32)), .val (.int (1 : Int32)), .val (.int (0 : Int32)), .val (.int (0 : Int32)), .unset] []))
          refine own_fs (XS.iconst X13.here hx rfl (hb hby at_176) (Steps.refl _)) ?_
          show own_G p.tables e below _ (T13.setTop (mkF m 177 #[.val (.long i1), .second, .val (.long t1), .second, .val (.long i2), .second, .val (.long t2), .second, .val (.int md), .val (.long tb), .second, .val (.long ib), .second, .val (.ref b1), .val (.ref b5), .val (.int (0 : Int32)), .val (.int (1 : Int32)), .val (.int (0 : Int32)), .val (.int (0 : Int32)), .unset] [(.int (1 : Int32))]))
          refine own_fs (XS.goto X13.here hx rfl (pc0 := 177) (pc' := 181) rfl (hb hby at_177) (by decide) (by decide) (Steps.refl _)) ?_
          show own_G p.tables e below _ (T13.setTop (mkF m 181 #[.val (.long i1), .second, .val (.long t1), .second, .val (.long i2), .second, .val (.long t2), .second, .val (.int md), .val (.long tb), .second, .val (.long ib), .second, .val (.ref b1), .val (.ref b5), .val (.int (0 : Int32)), .val (.int (1 : Int32)), .val (.int (0 : Int32)), .val (.int (0 : Int32)), .unset] [(.int (1 : Int32))]))
          refine own_fs (XS.istore X13.here hx rfl (hb hby at_181) rfl (l' := #[.val (.long i1), .second, .val (.long t1), .second, .val (.long i2), .second, .val (.long t2), .second, .val (.int md), .val (.long tb), .second, .val (.long ib), .second, .val (.ref b1), .val (.ref b5), .val (.int (0 : Int32)), .val (.int (1 : Int32)), .val (.int (0 : Int32)), .val (.int (0 : Int32)), .val (.int (1 : Int32))]) rfl (Steps.refl _)) ?_
          show own_G p.tables e below _ (T13.setTop (mkF m 183 #[.val (.long i1), .second, .val (.long t1), .second, .val (.long i2), .second, .val (.long t2), .second, .val (.int md), .val (.long tb), .second, .val (.long ib), .second, .val (.ref b1), .val (.ref b5), .val (.int (0 : Int32)), .val (.int (1 : Int32)), .val (.int (0 : Int32)), .val (.int (0 : Int32)), .val (.int (1 : Int32))] []))
          refine own_fs (XS.iload X13.here hx rfl (hb hby at_183) rfl (Steps.refl _)) ?_
          show own_G p.tables e below _ (T13.setTop (mkF m 185 #[.val (.long i1), .second, .val (.long t1), .second, .val (.long i2), .second, .val (.long t2), .second, .val (.int md), .val (.long tb), .second, .val (.long ib), .second, .val (.ref b1), .val (.ref b5), .val (.int (0 : Int32)), .val (.int (1 : Int32)), .val (.int (0 : Int32)), .val (.int (0 : Int32)), .val (.int (1 : Int32))] [(.int (0 : Int32))]))
          refine own_fs (XS.iload X13.here hx rfl (hb hby at_185) rfl (Steps.refl _)) ?_
          show own_G p.tables e below _ (T13.setTop (mkF m 187 #[.val (.long i1), .second, .val (.long t1), .second, .val (.long i2), .second, .val (.long t2), .second, .val (.int md), .val (.long tb), .second, .val (.long ib), .second, .val (.ref b1), .val (.ref b5), .val (.int (0 : Int32)), .val (.int (1 : Int32)), .val (.int (0 : Int32)), .val (.int (0 : Int32)), .val (.int (1 : Int32))] [(.int (0 : Int32)), (.int (0 : Int32))]))
          refine own_fs (XS.icmpNo X13.here hx rfl (hb hby at_187) rfl (XT.ii_ne_f (by decide : (0 : Int32) = (0 : Int32))) (Steps.refl _)) ?_
          show own_G p.tables e below _ (T13.setTop (mkF m 190 #[.val (.long i1), .second, .val (.long t1), .second, .val (.long i2), .second, .val (.long t2), .second, .val (.int md), .val (.long tb), .second, .val (.long ib), .second, .val (.ref b1), .val (.ref b5), .val (.int (0 : Int32)), .val (.int (1 : Int32)), .val (.int (0 : Int32)), .val (.int (0 : Int32)), .val (.int (1 : Int32))] []))
          refine own_fs (XS.iload X13.here hx rfl (hb hby at_190) rfl (Steps.refl _)) ?_
          show own_G p.tables e below _ (T13.setTop (mkF m 192 #[.val (.long i1), .second, .val (.long t1), .second, .val (.long i2), .second, .val (.long t2), .second, .val (.int md), .val (.long tb), .second, .val (.long ib), .second, .val (.ref b1), .val (.ref b5), .val (.int (0 : Int32)), .val (.int (1 : Int32)), .val (.int (0 : Int32)), .val (.int (0 : Int32)), .val (.int (1 : Int32))] [(.int (1 : Int32))]))
          refine own_fs (XS.ifNo X13.here hx rfl (hb hby at_192) rfl (XT.i0_eq_f (by decide : ¬ ((1 : Int32) = (0 : Int32)))) (Steps.refl _)) ?_
          show own_G p.tables e below _ (T13.setTop (mkF m 195 #[.val (.long i1), .second, .val (.long t1), .second, .val (.long i2), .second, .val (.long t2), .second, .val (.int md), .val (.long tb), .second, .val (.long ib), .second, .val (.ref b1), .val (.ref b5), .val (.int (0 : Int32)), .val (.int (1 : Int32)), .val (.int (0 : Int32)), .val (.int (0 : Int32)), .val (.int (1 : Int32))] []))
          refine own_fs (XS.iconst X13.here hx rfl (hb hby at_195) (Steps.refl _)) ?_
          show own_G p.tables e below _ (T13.setTop (mkF m 196 #[.val (.long i1), .second, .val (.long t1), .second, .val (.long i2), .second, .val (.long t2), .second, .val (.int md), .val (.long tb), .second, .val (.long ib), .second, .val (.ref b1), .val (.ref b5), .val (.int (0 : Int32)), .val (.int (1 : Int32)), .val (.int (0 : Int32)), .val (.int (0 : Int32)), .val (.int (1 : Int32))] [(.int (1 : Int32))]))
          refine own_fs (XS.goto X13.here hx rfl (pc0 := 196) (pc' := 200) rfl (hb hby at_196) (by decide) (by decide) (Steps.refl _)) ?_
          show own_G p.tables e below _ (T13.setTop (mkF m 200 #[.val (.long i1), .second, .val (.long t1), .second, .val (.long i2), .second, .val (.long t2), .second, .val (.int md), .val (.long tb), .second, .val (.long ib), .second, .val (.ref b1), .val (.ref b5), .val (.int (0 : Int32)), .val (.int (1 : Int32)), .val (.int (0 : Int32)), .val (.int (0 : Int32)), .val (.int (1 : Int32))] [(.int (1 : Int32))]))
          exact own_retN X13 hx (t := .boolean) Bd.returns hlk (by simp) (hb hby at_200) (by decide) (by decide) e13 ⟨rfl, N13⟩
        · rw [show own_ca i1 t1 ib tb = (0 : Int32) from by simp only [own_ca, if_neg ta0, if_neg ta1, if_pos ta2, if_neg ta3, if_neg ia0, if_pos ia1, if_neg ia2, if_pos ia3]]
          rw [show own_ca ib tb i1 t1 = (1 : Int32) from by simp only [own_ca, if_neg ta0, if_neg ta1, if_pos ta2, if_neg ta3, if_neg ia0, if_pos ia1, if_neg ia2, if_pos ia3]]
          show own_G p.tables e below _ (T13.setTop (mkF m 72 #[.val (.long i1), .second, .val (.long t1), .second, .val (.long i2), .second, .val (.long t2), .second, .val (.int md), .val (.long tb), .second, .val (.long ib), .second, .val (.ref b1), .val (.ref b5), .val (.int (0 : Int32)), .val (.int (1 : Int32)), .unset, .unset, .unset] []))
          refine own_fs (XS.lloadN X13.here hx rfl (hb hby at_72) rfl (Steps.refl _)) ?_
          show own_G p.tables e below _ (T13.setTop (mkF m 73 #[.val (.long i1), .second, .val (.long t1), .second, .val (.long i2), .second, .val (.long t2), .second, .val (.int md), .val (.long tb), .second, .val (.long ib), .second, .val (.ref b1), .val (.ref b5), .val (.int (0 : Int32)), .val (.int (1 : Int32)), .unset, .unset, .unset] [(.long t1)]))
          refine own_fs (XS.lload X13.here hx rfl (hb hby at_73) rfl (Steps.refl _)) ?_
          show own_G p.tables e below _ (T13.setTop (mkF m 75 #[.val (.long i1), .second, .val (.long t1), .second, .val (.long i2), .second, .val (.long t2), .second, .val (.int md), .val (.long tb), .second, .val (.long ib), .second, .val (.ref b1), .val (.ref b5), .val (.int (0 : Int32)), .val (.int (1 : Int32)), .unset, .unset, .unset] [(.long tb), (.long t1)]))
          refine own_fs (XT.lcmp X13.here hx rfl (hb hby at_75) rfl (Steps.refl _)) ?_
          show own_G p.tables e below _ (T13.setTop (mkF m 76 #[.val (.long i1), .second, .val (.long t1), .second, .val (.long i2), .second, .val (.long t2), .second, .val (.int md), .val (.long tb), .second, .val (.long ib), .second, .val (.ref b1), .val (.ref b5), .val (.int (0 : Int32)), .val (.int (1 : Int32)), .unset, .unset, .unset] [(.int (XT.cmpL t1 tb))]))
          refine own_fs (XS.ifNo X13.here hx rfl (hb hby at_76) rfl (XT.ll_eq_f ta1) (Steps.refl _)) ?_
          show own_G p.tables e below _ (T13.setTop (mkF m 79 #[.val (.long i1), .second, .val (.long t1), .second, .val (.long i2), .second, .val (.long t2), .second, .val (.int md), .val (.long tb), .second, .val (.long ib), .second, .val (.ref b1), .val (.ref b5), .val (.int (0 : Int32)), .val (.int (1 : Int32)), .unset, .unset, .unset] []))
          refine own_fs (XS.lloadN X13.here hx rfl (hb hby at_79) rfl (Steps.refl _)) ?_
          show own_G p.tables e below _ (T13.setTop (mkF m 80 #[.val (.long i1), .second, .val (.long t1), .second, .val (.long i2), .second, .val (.long t2), .second, .val (.int md), .val (.long tb), .second, .val (.long ib), .second, .val (.ref b1), .val (.ref b5), .val (.int (0 : Int32)), .val (.int (1 : Int32)), .unset, .unset, .unset] [(.long t1)]))
          refine own_fs (XS.lload X13.here hx rfl (hb hby at_80) rfl (Steps.refl _)) ?_
          show own_G p.tables e below _ (T13.setTop (mkF m 82 #[.val (.long i1), .second, .val (.long t1), .second, .val (.long i2), .second, .val (.long t2), .second, .val (.int md), .val (.long tb), .second, .val (.long ib), .second, .val (.ref b1), .val (.ref b5), .val (.int (0 : Int32)), .val (.int (1 : Int32)), .unset, .unset, .unset] [(.long tb), (.long t1)]))
          refine own_fs (XT.lcmp X13.here hx rfl (hb hby at_82) rfl (Steps.refl _)) ?_
          show own_G p.tables e below _ (T13.setTop (mkF m 83 #[.val (.long i1), .second, .val (.long t1), .second, .val (.long i2), .second, .val (.long t2), .second, .val (.int md), .val (.long tb), .second, .val (.long ib), .second, .val (.ref b1), .val (.ref b5), .val (.int (0 : Int32)), .val (.int (1 : Int32)), .unset, .unset, .unset] [(.int (XT.cmpL t1 tb))]))
          refine own_fs (XS.ifYes X13.here hx rfl (pc0 := 83) (pc' := 90) rfl (hb hby at_83) rfl (XT.ll_ge_t ta0) (by decide) (by decide) (Steps.refl _)) ?_
          show own_G p.tables e below _ (T13.setTop (mkF m 90 #[.val (.long i1), .second, .val (.long t1), .second, .val (.long i2), .second, .val (.long t2), .second, .val (.int md), .val (.long tb), .second, .val (.long ib), .second, .val (.ref b1), .val (.ref b5), .val (.int (0 : Int32)), .val (.int (1 : Int32)), .unset, .unset, .unset] []))
          refine own_fs (XS.iconst X13.here hx rfl (hb hby at_90) (Steps.refl _)) ?_
          show own_G p.tables e below _ (T13.setTop (mkF m 91 #[.val (.long i1), .second, .val (.long t1), .second, .val (.long i2), .second, .val (.long t2), .second, .val (.int md), .val (.long tb), .second, .val (.long ib), .second, .val (.ref b1), .val (.ref b5), .val (.int (0 : Int32)), .val (.int (1 : Int32)), .unset, .unset, .unset] [(.int (0 : Int32))]))
          refine own_fs (XS.istore X13.here hx rfl (hb hby at_91) rfl (l' := #[.val (.long i1), .second, .val (.long t1), .second, .val (.long i2), .second, .val (.long t2), .second, .val (.int md), .val (.long tb), .second, .val (.long ib), .second, .val (.ref b1), .val (.ref b5), .val (.int (0 : Int32)), .val (.int (1 : Int32)), .val (.int (0 : Int32)), .unset, .unset]) rfl (Steps.refl _)) ?_
          show own_G p.tables e below _ (T13.setTop (mkF m 93 #[.val (.long i1), .second, .val (.long t1), .second, .val (.long i2), .second, .val (.long t2), .second, .val (.int md), .val (.long tb), .second, .val (.long ib), .second, .val (.ref b1), .val (.ref b5), .val (.int (0 : Int32)), .val (.int (1 : Int32)), .val (.int (0 : Int32)), .unset, .unset] []))
          refine own_fs (XS.goto X13.here hx rfl (pc0 := 93) (pc' := 123) rfl (hb hby at_93) (by decide) (by decide) (Steps.refl _)) ?_
          show own_G p.tables e below _ (T13.setTop (mkF m 123 #[.val (.long i1), .second, .val (.long t1), .second, .val (.long i2), .second, .val (.long t2), .second, .val (.int md), .val (.long tb), .second, .val (.long ib), .second, .val (.ref b1), .val (.ref b5), .val (.int (0 : Int32)), .val (.int (1 : Int32)), .val (.int (0 : Int32)), .unset, .unset] []))
          refine own_fs (XS.lloadN X13.here hx rfl (hb hby at_123) rfl (Steps.refl _)) ?_
          show own_G p.tables e below _ (T13.setTop (mkF m 124 #[.val (.long i1), .second, .val (.long t1), .second, .val (.long i2), .second, .val (.long t2), .second, .val (.int md), .val (.long tb), .second, .val (.long ib), .second, .val (.ref b1), .val (.ref b5), .val (.int (0 : Int32)), .val (.int (1 : Int32)), .val (.int (0 : Int32)), .unset, .unset] [(.long t1)]))
          refine own_fs (XS.lload X13.here hx rfl (hb hby at_124) rfl (Steps.refl _)) ?_
          show own_G p.tables e below _ (T13.setTop (mkF m 126 #[.val (.long i1), .second, .val (.long t1), .second, .val (.long i2), .second, .val (.long t2), .second, .val (.int md), .val (.long tb), .second, .val (.long ib), .second, .val (.ref b1), .val (.ref b5), .val (.int (0 : Int32)), .val (.int (1 : Int32)), .val (.int (0 : Int32)), .unset, .unset] [(.long tb), (.long t1)]))
          refine own_fs (XT.lcmp X13.here hx rfl (hb hby at_126) rfl (Steps.refl _)) ?_
          show own_G p.tables e below _ (T13.setTop (mkF m 127 #[.val (.long i1), .second, .val (.long t1), .second, .val (.long i2), .second, .val (.long t2), .second, .val (.int md), .val (.long tb), .second, .val (.long ib), .second, .val (.ref b1), .val (.ref b5), .val (.int (0 : Int32)), .val (.int (1 : Int32)), .val (.int (0 : Int32)), .unset, .unset] [(.int (XT.cmpL t1 tb))]))
          refine own_fs (XS.ifYes X13.here hx rfl (pc0 := 127) (pc' := 141) rfl (hb hby at_127) rfl (XT.ll_ne_t ta1) (by decide) (by decide) (Steps.refl _)) ?_
          show own_G p.tables e below _ (T13.setTop (mkF m 141 #[.val (.long i1), .second, .val (.long t1), .second, .val (.long i2), .second, .val (.long t2), .second, .val (.int md), .val (.long tb), .second, .val (.long ib), .second, .val (.ref b1), .val (.ref b5), .val (.int (0 : Int32)), .val (.int (1 : Int32)), .val (.int (0 : Int32)), .unset, .unset] []))
          refine own_fs (XS.iconst X13.here hx rfl (hb hby at_141) (Steps.refl _)) ?_
          show own_G p.tables e below _ (T13.setTop (mkF m 142 #[.val (.long i1), .second, .val (.long t1), .second, .val (.long i2), .second, .val (.long t2), .second, .val (.int md), .val (.long tb), .second, .val (.long ib), .second, .val (.ref b1), .val (.ref b5), .val (.int (0 : Int32)), .val (.int (1 : Int32)), .val (.int (0 : Int32)), .unset, .unset] [(.int (0 : Int32))]))
          refine own_fs (XS.istore X13.here hx rfl (hb hby at_142) rfl (l' := #[.val (.long i1), .second, .val (.long t1), .second, .val (.long i2), .second, .val (.long t2), .second, .val (.int md), .val (.long tb), .second, .val (.long ib), .second, .val (.ref b1), .val (.ref b5), .val (.int (0 : Int32)), .val (.int (1 : Int32)), .val (.int (0 : Int32)), .val (.int (0 : Int32)), .unset]) rfl (Steps.refl _)) ?_
          show own_G p.tables e below _ (T13.setTop (mkF m 144 #[.val (.long i1), .second, .val (.long t1), .second, .val (.long i2), .second, .val (.long t2), .second, .val (.int md), .val (.long tb), .second, .val (.long ib), .second, .val (.ref b1), .val (.ref b5), .val (.int (0 : Int32)), .val (.int (1 : Int32)), .val (.int (0 : Int32)), .val (.int (0 : Int32)), .unset] []))
          refine own_fs (XS.iload X13.here hx rfl (hb hby at_144) rfl (Steps.refl _)) ?_
          show own_G p.tables e below _ (T13.setTop (mkF m 146 #[.val (.long i1), .second, .val (.long t1), .second, .val (.long i2), .second, .val (.long t2), .second, .val (.int md), .val (.long tb), .second, .val (.long ib), .second, .val (.ref b1), .val (.ref b5), .val (.int (0 : Int32)), .val (.int (1 : Int32)), .val (.int (0 : Int32)), .val (.int (0 : Int32)), .unset] [(.int (0 : Int32))]))
          refine own_fs (XS.ifYes X13.here hx rfl (pc0 := 146) (pc' := 169) rfl (hb hby at_146) rfl (XT.i0_eq_t (by decide : (0 : Int32) = (0 : Int32))) (by decide) (by decide) (Steps.refl _)) ?_
          show own_G p.tables e below _ (T13.setTop (mkF m 169 #[.val (.long i1), .second, .val (.long t1), .second, .val (.long i2), .second, .val (.long t2), .second, .val (.int md), .val (.long tb), .second, .val (.long ib), .second, .val (.ref b1), .val (.ref b5), .val (.int (0 : Int32)), .val (.int (1 : Int32)), .val (.int (0 : Int32)), .val (.int (0 : Int32)), .unset] []))
          refine own_fs (XS.iload X13.here hx rfl (hb hby at_169) rfl (Steps.refl _)) ?_
          show own_G p.tables e below _ (T13.setTop (mkF m 171 #[.val (.long i1), .second, .val (.long t1), .second, .val (.long i2), .second, .val (.long t2), .second, .val (.int md), .val (.long tb), .second, .val (.long ib), .second, .val (.ref b1), .val (.ref b5), .val (.int (0 : Int32)), .val (.int (1 : Int32)), .val (.int (0 : Int32)), .val (.int (0 : Int32)), .unset] [(.int (0 : Int32))]))
          refine own_fs (XS.iload X13.here hx rfl (hb hby at_171) rfl (Steps.refl _)) ?_
          show own_G p.tables e below _ (T13.setTop (mkF m 173 #[.val (.long i1), .second, .val (.long t1), .second, .val (.long i2), .second, .val (.long t2), .second, .val (.int md), .val (.long tb), .second, .val (.long ib), .second, .val (.ref b1), .val (.ref b5), .val (.int (0 : Int32)), .val (.int (1 : Int32)), .val (.int (0 : Int32)), .val (.int (0 : Int32)), .unset] [(.int (1 : Int32)), (.int (0 : Int32))]))
          refine own_fs (XS.icmpNo X13.here hx rfl (hb hby at_173) rfl (XT.ii_eq_f (by decide : ¬ ((0 : Int32) = (1 : Int32)))) (Steps.refl _)) ?_
          show own_G p.tables e below _ (T13.setTop (mkF m 176 #[.val (.long i1), .second, .val (.long t1), .second, .val (.long i2), .second, .val (.long t2), .second, .val (.int md), .val (.long tb), .second, .val (.long ib), .second, .val (.ref b1), .val (.ref b5), .val (.int (0 : Int32)), .val (.int (1 : Int32)), .val (.int (0 : Int32)), .val (.int (0 : Int32)), .unset] []))
          refine own_fs (XS.iconst X13.here hx rfl (hb hby at_176) (Steps.refl _)) ?_
          show own_G p.tables e below _ (T13.setTop (mkF m 177 #[.val (.long i1), .second, .val (.long t1), .second, .val (.long i2), .second, .val (.long t2), .second, .val (.int md), .val (.long tb), .second, .val (.long ib), .second, .val (.ref b1), .val (.ref b5), .val (.int (0 : Int32)), .val (.int (1 : Int32)), .val (.int (0 : Int32)), .val (.int (0 : Int32)), .unset] [(.int (1 : Int32))]))
          refine own_fs (XS.goto X13.here hx rfl (pc0 := 177) (pc' := 181) rfl (hb hby at_177) (by decide) (by decide) (Steps.refl _)) ?_
          show own_G p.tables e below _ (T13.setTop (mkF m 181 #[.val (.long i1), .second, .val (.long t1), .second, .val (.long i2), .second, .val (.long t2), .second, .val (.int md), .val (.long tb), .second, .val (.long ib), .second, .val (.ref b1), .val (.ref b5), .val (.int (0 : Int32)), .val (.int (1 : Int32)), .val (.int (0 : Int32)), .val (.int (0 : Int32)), .unset] [(.int (1 : Int32))]))
          refine own_fs (XS.istore X13.here hx rfl (hb hby at_181) rfl (l' := #[.val (.long i1), .second, .val (.long t1), .second, .val (.long i2), .second, .val (.long t2), .second, .val (.int md), .val (.long tb), .second, .val (.long ib), .second, .val (.ref b1), .val (.ref b5), .val (.int (0 : Int32)), .val (.int (1 : Int32)), .val (.int (0 : Int32)), .val (.int (0 : Int32)), .val (.int (1 : Int32))]) rfl (Steps.refl _)) ?_
          show own_G p.tables e below _ (T13.setTop (mkF m 183 #[.val (.long i1), .second, .val (.long t1), .second, .val (.long i2), .second, .val (.long t2), .second, .val (.int md), .val (.long tb), .second, .val (.long ib), .second, .val (.ref b1), .val (.ref b5), .val (.int (0 : Int32)), .val (.int (1 : Int32)), .val (.int (0 : Int32)), .val (.int (0 : Int32)), .val (.int (1 : Int32))] []))
          refine own_fs (XS.iload X13.here hx rfl (hb hby at_183) rfl (Steps.refl _)) ?_
          show own_G p.tables e below _ (T13.setTop (mkF m 185 #[.val (.long i1), .second, .val (.long t1), .second, .val (.long i2), .second, .val (.long t2), .second, .val (.int md), .val (.long tb), .second, .val (.long ib), .second, .val (.ref b1), .val (.ref b5), .val (.int (0 : Int32)), .val (.int (1 : Int32)), .val (.int (0 : Int32)), .val (.int (0 : Int32)), .val (.int (1 : Int32))] [(.int (0 : Int32))]))
          refine own_fs (XS.iload X13.here hx rfl (hb hby at_185) rfl (Steps.refl _)) ?_
          show own_G p.tables e below _ (T13.setTop (mkF m 187 #[.val (.long i1), .second, .val (.long t1), .second, .val (.long i2), .second, .val (.long t2), .second, .val (.int md), .val (.long tb), .second, .val (.long ib), .second, .val (.ref b1), .val (.ref b5), .val (.int (0 : Int32)), .val (.int (1 : Int32)), .val (.int (0 : Int32)), .val (.int (0 : Int32)), .val (.int (1 : Int32))] [(.int (0 : Int32)), (.int (0 : Int32))]))
          refine own_fs (XS.icmpNo X13.here hx rfl (hb hby at_187) rfl (XT.ii_ne_f (by decide : (0 : Int32) = (0 : Int32))) (Steps.refl _)) ?_
          show own_G p.tables e below _ (T13.setTop (mkF m 190 #[.val (.long i1), .second, .val (.long t1), .second, .val (.long i2), .second, .val (.long t2), .second, .val (.int md), .val (.long tb), .second, .val (.long ib), .second, .val (.ref b1), .val (.ref b5), .val (.int (0 : Int32)), .val (.int (1 : Int32)), .val (.int (0 : Int32)), .val (.int (0 : Int32)), .val (.int (1 : Int32))] []))
          refine own_fs (XS.iload X13.here hx rfl (hb hby at_190) rfl (Steps.refl _)) ?_
          show own_G p.tables e below _ (T13.setTop (mkF m 192 #[.val (.long i1), .second, .val (.long t1), .second, .val (.long i2), .second, .val (.long t2), .second, .val (.int md), .val (.long tb), .second, .val (.long ib), .second, .val (.ref b1), .val (.ref b5), .val (.int (0 : Int32)), .val (.int (1 : Int32)), .val (.int (0 : Int32)), .val (.int (0 : Int32)), .val (.int (1 : Int32))] [(.int (1 : Int32))]))
          refine own_fs (XS.ifNo X13.here hx rfl (hb hby at_192) rfl (XT.i0_eq_f (by decide : ¬ ((1 : Int32) = (0 : Int32)))) (Steps.refl _)) ?_
          show own_G p.tables e below _ (T13.setTop (mkF m 195 #[.val (.long i1), .second, .val (.long t1), .second, .val (.long i2), .second, .val (.long t2), .second, .val (.int md), .val (.long tb), .second, .val (.long ib), .second, .val (.ref b1), .val (.ref b5), .val (.int (0 : Int32)), .val (.int (1 : Int32)), .val (.int (0 : Int32)), .val (.int (0 : Int32)), .val (.int (1 : Int32))] []))
          refine own_fs (XS.iconst X13.here hx rfl (hb hby at_195) (Steps.refl _)) ?_
          show own_G p.tables e below _ (T13.setTop (mkF m 196 #[.val (.long i1), .second, .val (.long t1), .second, .val (.long i2), .second, .val (.long t2), .second, .val (.int md), .val (.long tb), .second, .val (.long ib), .second, .val (.ref b1), .val (.ref b5), .val (.int (0 : Int32)), .val (.int (1 : Int32)), .val (.int (0 : Int32)), .val (.int (0 : Int32)), .val (.int (1 : Int32))] [(.int (1 : Int32))]))
          refine own_fs (XS.goto X13.here hx rfl (pc0 := 196) (pc' := 200) rfl (hb hby at_196) (by decide) (by decide) (Steps.refl _)) ?_
          show own_G p.tables e below _ (T13.setTop (mkF m 200 #[.val (.long i1), .second, .val (.long t1), .second, .val (.long i2), .second, .val (.long t2), .second, .val (.int md), .val (.long tb), .second, .val (.long ib), .second, .val (.ref b1), .val (.ref b5), .val (.int (0 : Int32)), .val (.int (1 : Int32)), .val (.int (0 : Int32)), .val (.int (0 : Int32)), .val (.int (1 : Int32))] [(.int (1 : Int32))]))
          exact own_retN X13 hx (t := .boolean) Bd.returns hlk (by simp) (hb hby at_200) (by decide) (by decide) e13 ⟨rfl, N13⟩
        · rw [show own_ca i1 t1 ib tb = (0 : Int32) from by simp only [own_ca, if_neg ta0, if_neg ta1, if_pos ta2, if_neg ta3, if_neg ia0, if_neg ia1, if_pos ia2, if_neg ia3]]
          rw [show own_ca ib tb i1 t1 = (1 : Int32) from by simp only [own_ca, if_neg ta0, if_neg ta1, if_pos ta2, if_neg ta3, if_neg ia0, if_neg ia1, if_pos ia2, if_neg ia3]]
          show own_G p.tables e below _ (T13.setTop (mkF m 72 #[.val (.long i1), .second, .val (.long t1), .second, .val (.long i2), .second, .val (.long t2), .second, .val (.int md), .val (.long tb), .second, .val (.long ib), .second, .val (.ref b1), .val (.ref b5), .val (.int (0 : Int32)), .val (.int (1 : Int32)), .unset, .unset, .unset] []))
          refine own_fs (XS.lloadN X13.here hx rfl (hb hby at_72) rfl (Steps.refl _)) ?_
          show own_G p.tables e below _ (T13.setTop (mkF m 73 #[.val (.long i1), .second, .val (.long t1), .second, .val (.long i2), .second, .val (.long t2), .second, .val (.int md), .val (.long tb), .second, .val (.long ib), .second, .val (.ref b1), .val (.ref b5), .val (.int (0 : Int32)), .val (.int (1 : Int32)), .unset, .unset, .unset] [(.long t1)]))
          refine own_fs (XS.lload X13.here hx rfl (hb hby at_73) rfl (Steps.refl _)) ?_
          show own_G p.tables e below _ (T13.setTop (mkF m 75 #[.val (.long i1), .second, .val (.long t1), .second, .val (.long i2), .second, .val (.long t2), .second, .val (.int md), .val (.long tb), .second, .val (.long ib), .second, .val (.ref b1), .val (.ref b5), .val (.int (0 : Int32)), .val (.int (1 : Int32)), .unset, .unset, .unset] [(.long tb), (.long t1)]))
          refine own_fs (XT.lcmp X13.here hx rfl (hb hby at_75) rfl (Steps.refl _)) ?_
          show own_G p.tables e below _ (T13.setTop (mkF m 76 #[.val (.long i1), .second, .val (.long t1), .second, .val (.long i2), .second, .val (.long t2), .second, .val (.int md), .val (.long tb), .second, .val (.long ib), .second, .val (.ref b1), .val (.ref b5), .val (.int (0 : Int32)), .val (.int (1 : Int32)), .unset, .unset, .unset] [(.int (XT.cmpL t1 tb))]))
          refine own_fs (XS.ifNo X13.here hx rfl (hb hby at_76) rfl (XT.ll_eq_f ta1) (Steps.refl _)) ?_
          show own_G p.tables e below _ (T13.setTop (mkF m 79 #[.val (.long i1), .second, .val (.long t1), .second, .val (.long i2), .second, .val (.long t2), .second, .val (.int md), .val (.long tb), .second, .val (.long ib), .second, .val (.ref b1), .val (.ref b5), .val (.int (0 : Int32)), .val (.int (1 : Int32)), .unset, .unset, .unset] []))
          refine own_fs (XS.lloadN X13.here hx rfl (hb hby at_79) rfl (Steps.refl _)) ?_
          show own_G p.tables e below _ (T13.setTop (mkF m 80 #[.val (.long i1), .second, .val (.long t1), .second, .val (.long i2), .second, .val (.long t2), .second, .val (.int md), .val (.long tb), .second, .val (.long ib), .second, .val (.ref b1), .val (.ref b5), .val (.int (0 : Int32)), .val (.int (1 : Int32)), .unset, .unset, .unset] [(.long t1)]))
          refine own_fs (XS.lload X13.here hx rfl (hb hby at_80) rfl (Steps.refl _)) ?_
          show own_G p.tables e below _ (T13.setTop (mkF m 82 #[.val (.long i1), .second, .val (.long t1), .second, .val (.long i2), .second, .val (.long t2), .second, .val (.int md), .val (.long tb), .second, .val (.long ib), .second, .val (.ref b1), .val (.ref b5), .val (.int (0 : Int32)), .val (.int (1 : Int32)), .unset, .unset, .unset] [(.long tb), (.long t1)]))
          refine own_fs (XT.lcmp X13.here hx rfl (hb hby at_82) rfl (Steps.refl _)) ?_
          show own_G p.tables e below _ (T13.setTop (mkF m 83 #[.val (.long i1), .second, .val (.long t1), .second, .val (.long i2), .second, .val (.long t2), .second, .val (.int md), .val (.long tb), .second, .val (.long ib), .second, .val (.ref b1), .val (.ref b5), .val (.int (0 : Int32)), .val (.int (1 : Int32)), .unset, .unset, .unset] [(.int (XT.cmpL t1 tb))]))
          refine own_fs (XS.ifYes X13.here hx rfl (pc0 := 83) (pc' := 90) rfl (hb hby at_83) rfl (XT.ll_ge_t ta0) (by decide) (by decide) (Steps.refl _)) ?_
          show own_G p.tables e below _ (T13.setTop (mkF m 90 #[.val (.long i1), .second, .val (.long t1), .second, .val (.long i2), .second, .val (.long t2), .second, .val (.int md), .val (.long tb), .second, .val (.long ib), .second, .val (.ref b1), .val (.ref b5), .val (.int (0 : Int32)), .val (.int (1 : Int32)), .unset, .unset, .unset] []))
          refine own_fs (XS.iconst X13.here hx rfl (hb hby at_90) (Steps.refl _)) ?_
          show own_G p.tables e below _ (T13.setTop (mkF m 91 #[.val (.long i1), .second, .val (.long t1), .second, .val (.long i2), .second, .val (.long t2), .second, .val (.int md), .val (.long tb), .second, .val (.long ib), .second, .val (.ref b1), .val (.ref b5), .val (.int (0 : Int32)), .val (.int (1 : Int32)), .unset, .unset, .unset] [(.int (0 : Int32))]))
          refine own_fs (XS.istore X13.here hx rfl (hb hby at_91) rfl (l' := #[.val (.long i1), .second, .val (.long t1), .second, .val (.long i2), .second, .val (.long t2), .second, .val (.int md), .val (.long tb), .second, .val (.long ib), .second, .val (.ref b1), .val (.ref b5), .val (.int (0 : Int32)), .val (.int (1 : Int32)), .val (.int (0 : Int32)), .unset, .unset]) rfl (Steps.refl _)) ?_
          show own_G p.tables e below _ (T13.setTop (mkF m 93 #[.val (.long i1), .second, .val (.long t1), .second, .val (.long i2), .second, .val (.long t2), .second, .val (.int md), .val (.long tb), .second, .val (.long ib), .second, .val (.ref b1), .val (.ref b5), .val (.int (0 : Int32)), .val (.int (1 : Int32)), .val (.int (0 : Int32)), .unset, .unset] []))
          refine own_fs (XS.goto X13.here hx rfl (pc0 := 93) (pc' := 123) rfl (hb hby at_93) (by decide) (by decide) (Steps.refl _)) ?_
          show own_G p.tables e below _ (T13.setTop (mkF m 123 #[.val (.long i1), .second, .val (.long t1), .second, .val (.long i2), .second, .val (.long t2), .second, .val (.int md), .val (.long tb), .second, .val (.long ib), .second, .val (.ref b1), .val (.ref b5), .val (.int (0 : Int32)), .val (.int (1 : Int32)), .val (.int (0 : Int32)), .unset, .unset] []))
          refine own_fs (XS.lloadN X13.here hx rfl (hb hby at_123) rfl (Steps.refl _)) ?_
          show own_G p.tables e below _ (T13.setTop (mkF m 124 #[.val (.long i1), .second, .val (.long t1), .second, .val (.long i2), .second, .val (.long t2), .second, .val (.int md), .val (.long tb), .second, .val (.long ib), .second, .val (.ref b1), .val (.ref b5), .val (.int (0 : Int32)), .val (.int (1 : Int32)), .val (.int (0 : Int32)), .unset, .unset] [(.long t1)]))
          refine own_fs (XS.lload X13.here hx rfl (hb hby at_124) rfl (Steps.refl _)) ?_
          show own_G p.tables e below _ (T13.setTop (mkF m 126 #[.val (.long i1), .second, .val (.long t1), .second, .val (.long i2), .second, .val (.long t2), .second, .val (.int md), .val (.long tb), .second, .val (.long ib), .second, .val (.ref b1), .val (.ref b5), .val (.int (0 : Int32)), .val (.int (1 : Int32)), .val (.int (0 : Int32)), .unset, .unset] [(.long tb), (.long t1)]))
          refine own_fs (XT.lcmp X13.here hx rfl (hb hby at_126) rfl (Steps.refl _)) ?_
          show own_G p.tables e below _ (T13.setTop (mkF m 127 #[.val (.long i1), .second, .val (.long t1), .second, .val (.long i2), .second, .val (.long t2), .second, .val (.int md), .val (.long tb), .second, .val (.long ib), .second, .val (.ref b1), .val (.ref b5), .val (.int (0 : Int32)), .val (.int (1 : Int32)), .val (.int (0 : Int32)), .unset, .unset] [(.int (XT.cmpL t1 tb))]))
          refine own_fs (XS.ifYes X13.here hx rfl (pc0 := 127) (pc' := 141) rfl (hb hby at_127) rfl (XT.ll_ne_t ta1) (by decide) (by decide) (Steps.refl _)) ?_
          show own_G p.tables e below _ (T13.setTop (mkF m 141 #[.val (.long i1), .second, .val (.long t1), .second, .val (.long i2), .second, .val (.long t2), .second, .val (.int md), .val (.long tb), .second, .val (.long ib), .second, .val (.ref b1), .val (.ref b5), .val (.int (0 : Int32)), .val (.int (1 : Int32)), .val (.int (0 : Int32)), .unset, .unset] []))
          refine own_fs (XS.iconst X13.here hx rfl (hb hby at_141) (Steps.refl _)) ?_
          show own_G p.tables e below _ (T13.setTop (mkF m 142 #[.val (.long i1), .second, .val (.long t1), .second, .val (.long i2), .second, .val (.long t2), .second, .val (.int md), .val (.long tb), .second, .val (.long ib), .second, .val (.ref b1), .val (.ref b5), .val (.int (0 : Int32)), .val (.int (1 : Int32)), .val (.int (0 : Int32)), .unset, .unset] [(.int (0 : Int32))]))
          refine own_fs (XS.istore X13.here hx rfl (hb hby at_142) rfl (l' := #[.val (.long i1), .second, .val (.long t1), .second, .val (.long i2), .second, .val (.long t2), .second, .val (.int md), .val (.long tb), .second, .val (.long ib), .second, .val (.ref b1), .val (.ref b5), .val (.int (0 : Int32)), .val (.int (1 : Int32)), .val (.int (0 : Int32)), .val (.int (0 : Int32)), .unset]) rfl (Steps.refl _)) ?_
          show own_G p.tables e below _ (T13.setTop (mkF m 144 #[.val (.long i1), .second, .val (.long t1), .second, .val (.long i2), .second, .val (.long t2), .second, .val (.int md), .val (.long tb), .second, .val (.long ib), .second, .val (.ref b1), .val (.ref b5), .val (.int (0 : Int32)), .val (.int (1 : Int32)), .val (.int (0 : Int32)), .val (.int (0 : Int32)), .unset] []))
          refine own_fs (XS.iload X13.here hx rfl (hb hby at_144) rfl (Steps.refl _)) ?_
          show own_G p.tables e below _ (T13.setTop (mkF m 146 #[.val (.long i1), .second, .val (.long t1), .second, .val (.long i2), .second, .val (.long t2), .second, .val (.int md), .val (.long tb), .second, .val (.long ib), .second, .val (.ref b1), .val (.ref b5), .val (.int (0 : Int32)), .val (.int (1 : Int32)), .val (.int (0 : Int32)), .val (.int (0 : Int32)), .unset] [(.int (0 : Int32))]))
          refine own_fs (XS.ifYes X13.here hx rfl (pc0 := 146) (pc' := 169) rfl (hb hby at_146) rfl (XT.i0_eq_t (by decide : (0 : Int32) = (0 : Int32))) (by decide) (by decide) (Steps.refl _)) ?_
          show own_G p.tables e below _ (T13.setTop (mkF m 169 #[.val (.long i1), .second, .val (.long t1), .second, .val (.long i2), .second, .val (.long t2), .second, .val (.int md), .val (.long tb), .second, .val (.long ib), .second, .val (.ref b1), .val (.ref b5), .val (.int (0 : Int32)), .val (.int (1 : Int32)), .val (.int (0 : Int32)), .val (.int (0 : Int32)), .unset] []))
          refine own_fs (XS.iload X13.here hx rfl (hb hby at_169) rfl (Steps.refl _)) ?_
          show own_G p.tables e below _ (T13.setTop (mkF m 171 #[.val (.long i1), .second, .val (.long t1), .second, .val (.long i2), .second, .val (.long t2), .second, .val (.int md), .val (.long tb), .second, .val (.long ib), .second, .val (.ref b1), .val (.ref b5), .val (.int (0 : Int32)), .val (.int (1 : Int32)), .val (.int (0 : Int32)), .val (.int (0 : Int32)), .unset] [(.int (0 : Int32))]))
          refine own_fs (XS.iload X13.here hx rfl (hb hby at_171) rfl (Steps.refl _)) ?_
          show own_G p.tables e below _ (T13.setTop (mkF m 173 #[.val (.long i1), .second, .val (.long t1), .second, .val (.long i2), .second, .val (.long t2), .second, .val (.int md), .val (.long tb), .second, .val (.long ib), .second, .val (.ref b1), .val (.ref b5), .val (.int (0 : Int32)), .val (.int (1 : Int32)), .val (.int (0 : Int32)), .val (.int (0 : Int32)), .unset] [(.int (1 : Int32)), (.int (0 : Int32))]))
          refine own_fs (XS.icmpNo X13.here hx rfl (hb hby at_173) rfl (XT.ii_eq_f (by decide : ¬ ((0 : Int32) = (1 : Int32)))) (Steps.refl _)) ?_
          show own_G p.tables e below _ (T13.setTop (mkF m 176 #[.val (.long i1), .second, .val (.long t1), .second, .val (.long i2), .second, .val (.long t2), .second, .val (.int md), .val (.long tb), .second, .val (.long ib), .second, .val (.ref b1), .val (.ref b5), .val (.int (0 : Int32)), .val (.int (1 : Int32)), .val (.int (0 : Int32)), .val (.int (0 : Int32)), .unset] []))
          refine own_fs (XS.iconst X13.here hx rfl (hb hby at_176) (Steps.refl _)) ?_
          show own_G p.tables e below _ (T13.setTop (mkF m 177 #[.val (.long i1), .second, .val (.long t1), .second, .val (.long i2), .second, .val (.long t2), .second, .val (.int md), .val (.long tb), .second, .val (.long ib), .second, .val (.ref b1), .val (.ref b5), .val (.int (0 : Int32)), .val (.int (1 : Int32)), .val (.int (0 : Int32)), .val (.int (0 : Int32)), .unset] [(.int (1 : Int32))]))
          refine own_fs (XS.goto X13.here hx rfl (pc0 := 177) (pc' := 181) rfl (hb hby at_177) (by decide) (by decide) (Steps.refl _)) ?_
          show own_G p.tables e below _ (T13.setTop (mkF m 181 #[.val (.long i1), .second, .val (.long t1), .second, .val (.long i2), .second, .val (.long t2), .second, .val (.int md), .val (.long tb), .second, .val (.long ib), .second, .val (.ref b1), .val (.ref b5), .val (.int (0 : Int32)), .val (.int (1 : Int32)), .val (.int (0 : Int32)), .val (.int (0 : Int32)), .unset] [(.int (1 : Int32))]))
          refine own_fs (XS.istore X13.here hx rfl (hb hby at_181) rfl (l' := #[.val (.long i1), .second, .val (.long t1), .second, .val (.long i2), .second, .val (.long t2), .second, .val (.int md), .val (.long tb), .second, .val (.long ib), .second, .val (.ref b1), .val (.ref b5), .val (.int (0 : Int32)), .val (.int (1 : Int32)), .val (.int (0 : Int32)), .val (.int (0 : Int32)), .val (.int (1 : Int32))]) rfl (Steps.refl _)) ?_
          show own_G p.tables e below _ (T13.setTop (mkF m 183 #[.val (.long i1), .second, .val (.long t1), .second, .val (.long i2), .second, .val (.long t2), .second, .val (.int md), .val (.long tb), .second, .val (.long ib), .second, .val (.ref b1), .val (.ref b5), .val (.int (0 : Int32)), .val (.int (1 : Int32)), .val (.int (0 : Int32)), .val (.int (0 : Int32)), .val (.int (1 : Int32))] []))
          refine own_fs (XS.iload X13.here hx rfl (hb hby at_183) rfl (Steps.refl _)) ?_
          show own_G p.tables e below _ (T13.setTop (mkF m 185 #[.val (.long i1), .second, .val (.long t1), .second, .val (.long i2), .second, .val (.long t2), .second, .val (.int md), .val (.long tb), .second, .val (.long ib), .second, .val (.ref b1), .val (.ref b5), .val (.int (0 : Int32)), .val (.int (1 : Int32)), .val (.int (0 : Int32)), .val (.int (0 : Int32)), .val (.int (1 : Int32))] [(.int (0 : Int32))]))
          refine own_fs (XS.iload X13.here hx rfl (hb hby at_185) rfl (Steps.refl _)) ?_
          show own_G p.tables e below _ (T13.setTop (mkF m 187 #[.val (.long i1), .second, .val (.long t1), .second, .val (.long i2), .second, .val (.long t2), .second, .val (.int md), .val (.long tb), .second, .val (.long ib), .second, .val (.ref b1), .val (.ref b5), .val (.int (0 : Int32)), .val (.int (1 : Int32)), .val (.int (0 : Int32)), .val (.int (0 : Int32)), .val (.int (1 : Int32))] [(.int (0 : Int32)), (.int (0 : Int32))]))
          refine own_fs (XS.icmpNo X13.here hx rfl (hb hby at_187) rfl (XT.ii_ne_f (by decide : (0 : Int32) = (0 : Int32))) (Steps.refl _)) ?_
          show own_G p.tables e below _ (T13.setTop (mkF m 190 #[.val (.long i1), .second, .val (.long t1), .second, .val (.long i2), .second, .val (.long t2), .second, .val (.int md), .val (.long tb), .second, .val (.long ib), .second, .val (.ref b1), .val (.ref b5), .val (.int (0 : Int32)), .val (.int (1 : Int32)), .val (.int (0 : Int32)), .val (.int (0 : Int32)), .val (.int (1 : Int32))] []))
          refine own_fs (XS.iload X13.here hx rfl (hb hby at_190) rfl (Steps.refl _)) ?_
          show own_G p.tables e below _ (T13.setTop (mkF m 192 #[.val (.long i1), .second, .val (.long t1), .second, .val (.long i2), .second, .val (.long t2), .second, .val (.int md), .val (.long tb), .second, .val (.long ib), .second, .val (.ref b1), .val (.ref b5), .val (.int (0 : Int32)), .val (.int (1 : Int32)), .val (.int (0 : Int32)), .val (.int (0 : Int32)), .val (.int (1 : Int32))] [(.int (1 : Int32))]))
          refine own_fs (XS.ifNo X13.here hx rfl (hb hby at_192) rfl (XT.i0_eq_f (by decide : ¬ ((1 : Int32) = (0 : Int32)))) (Steps.refl _)) ?_
          show own_G p.tables e below _ (T13.setTop (mkF m 195 #[.val (.long i1), .second, .val (.long t1), .second, .val (.long i2), .second, .val (.long t2), .second, .val (.int md), .val (.long tb), .second, .val (.long ib), .second, .val (.ref b1), .val (.ref b5), .val (.int (0 : Int32)), .val (.int (1 : Int32)), .val (.int (0 : Int32)), .val (.int (0 : Int32)), .val (.int (1 : Int32))] []))
          refine own_fs (XS.iconst X13.here hx rfl (hb hby at_195) (Steps.refl _)) ?_
          show own_G p.tables e below _ (T13.setTop (mkF m 196 #[.val (.long i1), .second, .val (.long t1), .second, .val (.long i2), .second, .val (.long t2), .second, .val (.int md), .val (.long tb), .second, .val (.long ib), .second, .val (.ref b1), .val (.ref b5), .val (.int (0 : Int32)), .val (.int (1 : Int32)), .val (.int (0 : Int32)), .val (.int (0 : Int32)), .val (.int (1 : Int32))] [(.int (1 : Int32))]))
          refine own_fs (XS.goto X13.here hx rfl (pc0 := 196) (pc' := 200) rfl (hb hby at_196) (by decide) (by decide) (Steps.refl _)) ?_
          show own_G p.tables e below _ (T13.setTop (mkF m 200 #[.val (.long i1), .second, .val (.long t1), .second, .val (.long i2), .second, .val (.long t2), .second, .val (.int md), .val (.long tb), .second, .val (.long ib), .second, .val (.ref b1), .val (.ref b5), .val (.int (0 : Int32)), .val (.int (1 : Int32)), .val (.int (0 : Int32)), .val (.int (0 : Int32)), .val (.int (1 : Int32))] [(.int (1 : Int32))]))
          exact own_retN X13 hx (t := .boolean) Bd.returns hlk (by simp) (hb hby at_200) (by decide) (by decide) e13 ⟨rfl, N13⟩
    show own_G p.tables e below _ (s₁.setTop (mkF m 15 #[.val (.long i1), .second, .val (.long t1), .second, .val (.long i2), .second, .val (.long t2), .second, .val (.int md), .val (.long tb), .second, .unset, .unset, .unset, .unset, .unset, .unset, .unset, .unset, .unset] []))
    refine own_fs (XS.iload X0.here hx rfl (hb hby at_15) rfl (Steps.refl _)) ?_
    show own_G p.tables e below _ (s₁.setTop (mkF m 17 #[.val (.long i1), .second, .val (.long t1), .second, .val (.long i2), .second, .val (.long t2), .second, .val (.int md), .val (.long tb), .second, .unset, .unset, .unset, .unset, .unset, .unset, .unset, .unset, .unset] [(.int md)]))
    refine own_fs (XS.iconst X0.here hx rfl (hb hby at_17) (Steps.refl _)) ?_
    show own_G p.tables e below _ (s₁.setTop (mkF m 18 #[.val (.long i1), .second, .val (.long t1), .second, .val (.long i2), .second, .val (.long t2), .second, .val (.int md), .val (.long tb), .second, .unset, .unset, .unset, .unset, .unset, .unset, .unset, .unset, .unset] [(.int (2 : Int32)), (.int md)]))
    refine own_fs (XS.iand X0.here hx rfl (hb hby at_18) rfl (Steps.refl _)) ?_
    show own_G p.tables e below _ (s₁.setTop (mkF m 19 #[.val (.long i1), .second, .val (.long t1), .second, .val (.long i2), .second, .val (.long t2), .second, .val (.int md), .val (.long tb), .second, .unset, .unset, .unset, .unset, .unset, .unset, .unset, .unset, .unset] [(.int (md &&& (2 : Int32)))]))
    by_cases hc19 : (md &&& (2 : Int32)) = (0 : Int32)
    · refine own_fs (XS.ifYes X0.here hx rfl (pc0 := 19) (pc' := 26) rfl (hb hby at_19) rfl (XT.i0_eq_t hc19) (by decide) (by decide) (Steps.refl _)) ?_
      show own_G p.tables e below _ (s₁.setTop (mkF m 26 #[.val (.long i1), .second, .val (.long t1), .second, .val (.long i2), .second, .val (.long t2), .second, .val (.int md), .val (.long tb), .second, .unset, .unset, .unset, .unset, .unset, .unset, .unset, .unset, .unset] []))
      refine own_fs (XS.lload X0.here hx rfl (hb hby at_26) rfl (Steps.refl _)) ?_
      exact J28 _
    · refine own_fs (XS.ifNo X0.here hx rfl (hb hby at_19) rfl (XT.i0_eq_f hc19) (Steps.refl _)) ?_
      show own_G p.tables e below _ (s₁.setTop (mkF m 22 #[.val (.long i1), .second, .val (.long t1), .second, .val (.long i2), .second, .val (.long t2), .second, .val (.int md), .val (.long tb), .second, .unset, .unset, .unset, .unset, .unset, .unset, .unset, .unset, .unset] []))
      refine own_fs (XS.lloadN X0.here hx rfl (hb hby at_22) rfl (Steps.refl _)) ?_
      show own_G p.tables e below _ (s₁.setTop (mkF m 23 #[.val (.long i1), .second, .val (.long t1), .second, .val (.long i2), .second, .val (.long t2), .second, .val (.int md), .val (.long tb), .second, .unset, .unset, .unset, .unset, .unset, .unset, .unset, .unset, .unset] [(.long i1)]))
      refine own_fs (XS.goto X0.here hx rfl (pc0 := 23) (pc' := 28) rfl (hb hby at_23) (by decide) (by decide) (Steps.refl _)) ?_
      exact J28 _
  show own_G p.tables e below _ (s₁.setTop (mkF m 0 #[.val (.long i1), .second, .val (.long t1), .second, .val (.long i2), .second, .val (.long t2), .second, .val (.int md), .unset, .unset, .unset, .unset, .unset, .unset, .unset, .unset, .unset, .unset, .unset] []))
  refine own_fs (XS.iload X0.here hx rfl (hb hby at_0) rfl (Steps.refl _)) ?_
  show own_G p.tables e below _ (s₁.setTop (mkF m 2 #[.val (.long i1), .second, .val (.long t1), .second, .val (.long i2), .second, .val (.long t2), .second, .val (.int md), .unset, .unset, .unset, .unset, .unset, .unset, .unset, .unset, .unset, .unset, .unset] [(.int md)]))
  refine own_fs (XS.iconst X0.here hx rfl (hb hby at_2) (Steps.refl _)) ?_
  show own_G p.tables e below _ (s₁.setTop (mkF m 3 #[.val (.long i1), .second, .val (.long t1), .second, .val (.long i2), .second, .val (.long t2), .second, .val (.int md), .unset, .unset, .unset, .unset, .unset, .unset, .unset, .unset, .unset, .unset, .unset] [(.int (1 : Int32)), (.int md)]))
  refine own_fs (XS.iand X0.here hx rfl (hb hby at_3) rfl (Steps.refl _)) ?_
  show own_G p.tables e below _ (s₁.setTop (mkF m 4 #[.val (.long i1), .second, .val (.long t1), .second, .val (.long i2), .second, .val (.long t2), .second, .val (.int md), .unset, .unset, .unset, .unset, .unset, .unset, .unset, .unset, .unset, .unset, .unset] [(.int (md &&& (1 : Int32)))]))
  by_cases hc4 : (md &&& (1 : Int32)) = (0 : Int32)
  · refine own_fs (XS.ifYes X0.here hx rfl (pc0 := 4) (pc' := 11) rfl (hb hby at_4) rfl (XT.i0_eq_t hc4) (by decide) (by decide) (Steps.refl _)) ?_
    show own_G p.tables e below _ (s₁.setTop (mkF m 11 #[.val (.long i1), .second, .val (.long t1), .second, .val (.long i2), .second, .val (.long t2), .second, .val (.int md), .unset, .unset, .unset, .unset, .unset, .unset, .unset, .unset, .unset, .unset, .unset] []))
    refine own_fs (XS.lload X0.here hx rfl (hb hby at_11) rfl (Steps.refl _)) ?_
    exact J13 _
  · refine own_fs (XS.ifNo X0.here hx rfl (hb hby at_4) rfl (XT.i0_eq_f hc4) (Steps.refl _)) ?_
    show own_G p.tables e below _ (s₁.setTop (mkF m 7 #[.val (.long i1), .second, .val (.long t1), .second, .val (.long i2), .second, .val (.long t2), .second, .val (.int md), .unset, .unset, .unset, .unset, .unset, .unset, .unset, .unset, .unset, .unset, .unset] []))
    refine own_fs (XS.lloadN X0.here hx rfl (hb hby at_7) rfl (Steps.refl _)) ?_
    show own_G p.tables e below _ (s₁.setTop (mkF m 8 #[.val (.long i1), .second, .val (.long t1), .second, .val (.long i2), .second, .val (.long t2), .second, .val (.int md), .unset, .unset, .unset, .unset, .unset, .unset, .unset, .unset, .unset, .unset, .unset] [(.long t1)]))
    refine own_fs (XS.goto X0.here hx rfl (pc0 := 8) (pc' := 13) rfl (hb hby at_8) (by decide) (by decide) (Steps.refl _)) ?_
    exact J13 _
set_option maxRecDepth 65536 in
set_option maxHeartbeats 40000000 in
theorem comes_1 {Post : Tables → Env → Array Value → State → Outcome → State → Prop} (hpost : ∀ tb e args s v u, (limb_1_1.after args s (.returned v) u = true ∧ limb_1_2.after args s (.returned v) u = true ∧ True) → FrameEnd s (.returned v) u (Jvm.fieldLocs frame_1_writes args s ++ Jvm.arrayLocs frame_1_arrays args s ++ Jvm.staticLocs frame_1_statics s) 16 128 → Post tb e args s (.returned v) u) :
    ArmFor flags0 classFile x code maxLocals ret World_1 tables_1 room_1 Calls_1 rest_1 Pre_1 Post := by
  intro l hfl _ _ p e ha hc hk s m args below hf hA hF happ hP
  obtain ⟨hcalls, hrest, hpre⟩ := hP
  obtain ⟨-, -, -, hnamed, -, -, -, hat⟩ := (Spec.applies_iff hf).mp happ
  obtain ⟨hg, hn⟩ := and_e (Cond.before_iff.mp (show (Jvm.Cond.and given_1 narrow_1).before args s = true from hpre))
  obtain ⟨hcount, hg0⟩ := and_e hg
  obtain ⟨ga0, hg1⟩ := and_e hg0
  obtain ⟨ga1, hg2⟩ := and_e hg1
  obtain ⟨ga2, hg3⟩ := and_e hg2
  obtain ⟨ga3, hg4⟩ := and_e hg3
  obtain ⟨w0, w1, w2, w3, w4, rfl⟩ : ∃ w0 w1 w2 w3 w4 : Value, args = #[w0, w1, w2, w3, w4] := by
    have hs : args.size = 5 := by simpa [Cond.value, given_1] using hcount
    obtain ⟨L⟩ := args
    match L, hs with
    | [w0, w1, w2, w3, w4], _ => exact ⟨w0, w1, w2, w3, w4, rfl⟩
  have hw := fun d (hd : d ∈ tables_1) => atoms_spec (ws := Jvm.Cond.code x code maxLocals ret :: tables_1) hat d (List.mem_cons_of_mem _ hd)
  have hfit : Fit s := fun {y c} hc i hi => by
    obtain ⟨ha, rfl⟩ := Array.getElem?_eq_some_iff.mp hc
    have q := List.all_eq_true.mp ((Array.all_eq_true_iff_forall_mem.mp hF) _ (Array.getElem_mem ha)) i (List.mem_range.mpr hi)
    simpa [Array.getElem?_eq_getElem hi] using q
  obtain ⟨i0, ei0⟩ := isL_v ga0
  obtain rfl : w0 = (.long i0) := Option.some.inj ei0
  obtain ⟨i1, ei1⟩ := isL_v ga1
  obtain rfl : w1 = (.long i1) := Option.some.inj ei1
  obtain ⟨i2, ei2⟩ := isL_v ga2
  obtain rfl : w2 = (.long i2) := Option.some.inj ei2
  obtain ⟨i3, ei3⟩ := isL_v ga3
  obtain rfl : w3 = (.long i3) := Option.some.inj ei3
  obtain ⟨i4, ei4⟩ := is_v hg4
  obtain rfl : w4 = (.int i4) := Option.some.inj ei4
  obtain ⟨n, o, h1, h2, h3, _, L, rfl, ⟨rfl, N⟩, hq⟩ := own_law l s _ hw tables_1 i0 i1 i2 i3 i4  s.heap s.heap.size (Nat.le_refl _)  p e ha hc hk s m _ below hf ((Spec.applies_iff_loose hf).mp happ).1 ⟨rfl, State.Warmed39.refl s, rfl⟩ trivial
  refine ⟨n, _, h1, h2, h3, hpost _ _ _ _ _ _ ⟨Cond.after_iff.mpr rfl, Cond.after_iff.mpr (eq_i res_at (Term.int_eval (1)) rfl), trivial⟩ ⟨hq.1, hq.2.1, (hq.2.2.sift fun y hy => Or.inr (N y hy)).mono (by decide) (by decide)⟩⟩
theorem main_1_1 : Claimed_1_1 := comes_1 fun _ _ _ _ _ _ h hF => ⟨h.1, hF⟩
theorem main_1_2 : Claimed_1_2 := comes_1 fun _ _ _ _ _ _ h hF => ⟨h.2.1, hF⟩
end Jvm.Pilot.@@N@@
namespace Jvm.Pilot.@@N@@
open Jvm Jvm.ClassFile Sem Op Lib Jvm.Free Jvm.Stand Jvm.Pilot.@@N@@.Jvm.D
/-! MADE BY PROGRAM (witnessworld.py) out of the Statement's table words and the real class files: 11 classes; the members and pool entries that the words name. The judged class is class 1, her method 1. -/
namespace start1
open Jvm.ClassFile
def u (s : String) : CpInfo := .utf8 (stringToUtf16 s)
/-- a pool by its gaps: so many unusable entries, then the entry; so many at the end -/
def gap : Nat → List CpInfo → List CpInfo
  | 0, r => r
  | n + 1, r => .unusable :: gap n r
def poolList (es : List (Nat × CpInfo)) (last : Nat) : List CpInfo := es.foldr (fun e r => gap e.1 (e.2 :: r)) (gap last [])
def pool (es : List (Nat × CpInfo)) (last : Nat) : Array CpInfo := ⟨poolList es last⟩
def fileOf (pool : Array CpInfo) (this : Nat) (attrs : Array Attribute := #[]) (ms : Array MethodInfo := #[]) (fl : Nat := 33) (sup : Nat := 0) (ifs : Array Nat := #[]) (fds : Array FieldInfo := #[]) : ClassFile where
  minorVersion := 0
  majorVersion := 65
  constantPool := pool
  accessFlags := fl
  thisClass := this
  superClass := sup
  interfaces := ifs
  fields := fds
  methods := ms
  attributes := attrs
def plain (name : String) (sup : Option ClassId) : Class where
  name := name
  kind := .ordinary
  loader := none
  accessFlags := 33
  super := sup
  interfaces := #[]
  cf := none
  fields := #[]
  methods := #[]
  instanceTypes := #[]
  staticTypes := #[]
  resolved := #[]
  callSites := []
  init := .initialized
  statics := none
  mirror := none

def pool0 : Array CpInfo := pool [(5, u "<init>"), (0, u "()V"), (1, .class_ 10), (1, u "java/lang/Object")] 113

def k0c0 : Code := { maxStack := 0, maxLocals := 1, code := object_method_1_code, exceptionTable := #[], attributes := #[] }
def k0m0 : Method := { name := "<init>", desc := "()V", sig := { parameters := [], returnType := none }, accessFlags := 1, code := some k0c0 }
/-- java/lang/Object -/
def k0 : Class := { plain "java/lang/Object" none with
  accessFlags := 33
  interfaces := #[]
  cf := some (fileOf pool0 8 #[] #[{ accessFlags := 1, nameIndex := 5, descriptorIndex := 6, attributes := #[] }] 33 0 #[] #[])
  fields := #[]
  methods := #[k0m0]
  instanceTypes := #[]
  staticTypes := #[]
  resolved := Array.replicate 124 none
  statics := none }

def pool1 : Array CpInfo := pool [(2, .class_ 4), (1, u "java/lang/Object"), (0, u "<init>"), (0, u "()V"), (0, .class_ 8), (0, u "com/example/cast3/cast3/Page$Entry"), (0, .methodref 7 10), (0, .nameAndType 5 11), (0, u "(JJ)V"), (0, .methodref 7 13), (0, .nameAndType 14 15), (0, u "comesAfter"), (0, u "(Lcom/example/cast3/cast3/Page$Entry;)Z"), (0, .class_ 17), (0, u "com/example/cast3/cast3/EntryComesAfterPinLaw"), (2, u "law"), (0, u "(JJJJI)Z")] 7

def k1m0 : Method := { name := "<init>", desc := "()V", sig := { parameters := [], returnType := none }, accessFlags := 1, code := none }
def k1c1 : Code := { maxStack := 6, maxLocals := 20, code := code, exceptionTable := #[], attributes := #[] }
def k1m1 : Method := { name := "law", desc := "(JJJJI)Z", sig := { parameters := [.long, .long, .long, .long, .int], returnType := some .boolean }, accessFlags := 9, code := some k1c1 }
/-- com/example/cast3/cast3/EntryComesAfterPinLaw -/
def k1 : Class := { plain "com/example/cast3/cast3/EntryComesAfterPinLaw" (some 0) with
  accessFlags := 49
  interfaces := #[]
  cf := some (fileOf pool1 16 #[] #[{ accessFlags := 1, nameIndex := 5, descriptorIndex := 6, attributes := #[] }, { accessFlags := 9, nameIndex := 20, descriptorIndex := 21, attributes := #[] }] 49 2 #[] #[])
  fields := #[]
  methods := #[k1m0, k1m1]
  instanceTypes := #[]
  staticTypes := #[]
  resolved := Array.replicate 29 none
  statics := none }

def pool2 : Array CpInfo := pool [(1, .methodref 2 3), (0, .class_ 4), (0, .nameAndType 5 6), (0, u "java/lang/Object"), (0, u "<init>"), (0, u "()V"), (0, .class_ 8), (0, u "java/lang/Record")] 13

def k2c0 : Code := { maxStack := 1, maxLocals := 1, code := jdk_30_method_1_code, exceptionTable := #[], attributes := #[] }
def k2m0 : Method := { name := "<init>", desc := "()V", sig := { parameters := [], returnType := none }, accessFlags := 4, code := some k2c0 }
/-- java/lang/Record -/
def k2 : Class := { plain "java/lang/Record" (some 0) with
  accessFlags := 1057
  interfaces := #[]
  cf := some (fileOf pool2 7 #[] #[{ accessFlags := 4, nameIndex := 5, descriptorIndex := 6, attributes := #[] }] 1057 2 #[] #[])
  fields := #[]
  methods := #[k2m0]
  instanceTypes := #[]
  staticTypes := #[]
  resolved := Array.replicate 22 none
  statics := none }

def pool3 : Array CpInfo := pool [(1, .class_ 2), (0, u "com/example/cast3/cast3/Page$Item"), (0, .class_ 4), (0, u "java/lang/Object"), (5, .class_ 11), (0, u "com/example/cast3/cast3/Page")] 5

/-- com/example/cast3/cast3/Page$Item -/
def k3 : Class := { plain "com/example/cast3/cast3/Page$Item" (some 0) with
  accessFlags := 1537
  interfaces := #[]
  cf := some (fileOf pool3 1 #[.nestHost 10] #[] 1537 3 #[] #[])
  fields := #[]
  methods := #[]
  instanceTypes := #[]
  staticTypes := #[]
  resolved := Array.replicate 17 none
  statics := none }

def pool4 : Array CpInfo := pool [(1, .methodref 2 3), (0, .class_ 4), (0, .nameAndType 5 6), (0, u "java/lang/Record"), (0, u "<init>"), (0, u "()V"), (0, .fieldref 8 9), (0, .class_ 10), (0, .nameAndType 11 12), (0, u "com/example/cast3/cast3/Page$Entry"), (0, u "id"), (0, u "J"), (0, .fieldref 8 14), (0, .nameAndType 15 12), (0, u "time"), (35, u "(JJ)V"), (12, .class_ 65), (0, u "com/example/cast3/cast3/Page$Item"), (5, u "comesAfter"), (0, u "(Lcom/example/cast3/cast3/Page$Entry;)Z"), (11, .class_ 85), (0, u "com/example/cast3/cast3/Page")] 29

def k4c0 : Code := { maxStack := 3, maxLocals := 5, code := prog_16_method_1_code, exceptionTable := #[], attributes := #[] }
def k4m0 : Method := { name := "<init>", desc := "(JJ)V", sig := { parameters := [.long, .long], returnType := none }, accessFlags := 1, code := some k4c0 }
def k4c1 : Code := { maxStack := 4, maxLocals := 2, code := prog_16_method_3_code, exceptionTable := #[], attributes := #[] }
def k4m1 : Method := { name := "comesAfter", desc := "(Lcom/example/cast3/cast3/Page$Entry;)Z", sig := { parameters := [(.object "com/example/cast3/cast3/Page$Entry")], returnType := some .boolean }, accessFlags := 1, code := some k4c1 }
/-- com/example/cast3/cast3/Page$Entry -/
def k4 : Class := { plain "com/example/cast3/cast3/Page$Entry" (some 2) with
  accessFlags := 49
  interfaces := #[3]
  cf := some (fileOf pool4 8 #[.nestHost 84] #[{ accessFlags := 1, nameIndex := 5, descriptorIndex := 51, attributes := #[] }, { accessFlags := 1, nameIndex := 71, descriptorIndex := 72, attributes := #[] }] 49 2 #[64] #[{ accessFlags := 18, nameIndex := 11, descriptorIndex := 12, attributes := #[] }, { accessFlags := 18, nameIndex := 15, descriptorIndex := 12, attributes := #[] }])
  fields := #[{ name := "id", type := .long, accessFlags := 18, slot := 0, constantValue := 0 }, { name := "time", type := .long, accessFlags := 18, slot := 1, constantValue := 0 }]
  methods := #[k4m0, k4m1]
  instanceTypes := #[.long, .long]
  staticTypes := #[]
  resolved := Array.replicate 115 none
  statics := none }

def pool5 : Array CpInfo := pool [(1, u "java/lang/Cloneable"), (0, .class_ 1), (0, u "java/lang/Object"), (0, .class_ 3)] 3

/-- java/lang/Cloneable -/
def k5 : Class := { plain "java/lang/Cloneable" (some 0) with
  accessFlags := 1537
  interfaces := #[]
  cf := some (fileOf pool5 2 #[] #[] 1537 4 #[] #[])
  fields := #[]
  methods := #[]
  instanceTypes := #[]
  staticTypes := #[]
  resolved := Array.replicate 8 none
  statics := none }

def pool6 : Array CpInfo := pool [(1, u "java/io/Serializable"), (0, .class_ 1), (0, u "java/lang/Object"), (0, .class_ 3)] 3

/-- java/io/Serializable -/
def k6 : Class := { plain "java/io/Serializable" (some 0) with
  accessFlags := 1537
  interfaces := #[]
  cf := some (fileOf pool6 2 #[] #[] 1537 4 #[] #[])
  fields := #[]
  methods := #[]
  instanceTypes := #[]
  staticTypes := #[]
  resolved := Array.replicate 8 none
  statics := none }

/-- the primitive byte -/
def k7 : Class := { plain "byte" none with kind := .primitive 'B', accessFlags := 0x411 }
/-- [B -/
def k8 : Class := { plain "[B" (some 0) with kind := .array 7 .byte, interfaces := #[5, 6], accessFlags := 1041 }

/-- the primitive int -/
def k9 : Class := { plain "int" none with kind := .primitive 'I', accessFlags := 0x411 }
/-- [I -/
def k10 : Class := { plain "[I" (some 0) with kind := .array 9 .int, interfaces := #[5, 6], accessFlags := 1041 }

def heap : Heap := #[]
def classes : Array Class := #[k0, k1, k2, k3, k4, k5, k6, k7, k8, k9, k10]
def interned : List (Array UInt16 × Addr) := []
def slotsUsed : Nat := 0
def theMethod : MethodId := ⟨1, 1⟩
def args0 : Array Value := #[.long 5, .long 6, .long 7, .long 8, .int 3]
def aboutOver (below : List Frame) : State where
  vm := { classes := classes, interned := interned.toArray }
  heap := heap
  slotsUsed := slotsUsed
  threads := #[{ frames := .invoking theMethod args0 :: below }]
def below0 : List Frame := [.native { method := ⟨0, 0⟩, args := #[] }]
def about1 : State := aboutOver below0
def p0 : Program := .bare "" "" ""
def e0 : Env := launch0.env 0 0 0
theorem w_frames : about1.frames = Frame.invoking theMethod args0 :: below0 := rfl
set_option maxRecDepth 65536 in
theorem w_args : argsFit about1.vm theMethod args0 = true := by decide +kernel
set_option maxRecDepth 65536 in
theorem w_heap : heapFits about1 = true := by decide +kernel
set_option maxRecDepth 65536 in
theorem w_runnable : about1.curStatus? = some .runnable := by decide +kernel
set_option maxRecDepth 65536 in
theorem w_alone : about1.alone = true := by decide +kernel
set_option maxRecDepth 65536 in
theorem w_named : about1.methodNamed? x = some theMethod := by decide +kernel
set_option maxRecDepth 65536 in
theorem w_hears : about1.hears theMethod below0 = true := by decide +kernel
set_option maxRecDepth 65536 in
theorem w_ripe : about1.ripe theMethod args0 below0 = true := by decide +kernel
theorem w_running : about1.status = .running := rfl
set_option maxRecDepth 65536 in
theorem w_room : about1.hasRoom e0.platform room_1 = true :=
  launch0.hasRoom_least _ room_1 (by decide +kernel) (by decide +kernel) (by decide +kernel) (by decide +kernel) (by decide +kernel) (by decide +kernel)
theorem allAtoms_all (ts : List Jvm.Cond) (a : Array Jvm.Value) (st : Jvm.State) : (allAtoms ts).before a st = ts.all (fun c => c.before a st) := by
  induction ts with
  | nil => rfl
  | cons c t ih =>
    show (Jvm.Cond.and c (allAtoms t)).before a st = _
    rw [Jvm.Cond.before_and, ih, List.all_cons]
def words1 : List Jvm.Cond := Jvm.Cond.code x code maxLocals ret :: tables_1
/-- a 'code' word, met by the world's own term for the bytes: nothing is compared byte by byte -/
theorem code_word {y : MethodName} {bytes : ByteArray} {mx : Nat} {rt : Option FieldType} {a : Array Value} {s : State} {m : MethodId} {meth : Method} {c : Code} (h1 : s.methodNamed? y = some m) (h2 : s.vm.method? m = some meth) (h3 : meth.code = some c) (h4 : c.code = bytes)
    (h5 : (c.maxLocals == mx && c.exceptionTable.isEmpty && decide (c.maxStack ≤ mostOperands) && decide (meth.sig.returnType = rt) && !meth.locks && decide (parseMethodDescriptor y.desc = some meth.sig)) = true) : (Jvm.Cond.code y bytes mx rt).before a s = true := by
  simp only [Bool.and_eq_true, beq_iff_eq, Bool.not_eq_true', decide_eq_true_eq] at h5
  obtain ⟨⟨⟨⟨⟨g1, g2⟩, g3⟩, g4⟩, g5⟩, g6⟩ := h5
  simp [Cond.before, Cond.holds, Cond.value, h1, h2, h3, h4, g1, g2, g3, g4, g5, g6]
def isCode : Jvm.Cond → Bool
  | .code _ _ _ _ => true
  | _ => false
theorem all_split {L : List Jvm.Cond} {P : Jvm.Cond → Bool} (h1 : L.all (fun c => isCode c || P c) = true) (h2 : ∀ c ∈ L.filter isCode, P c = true) : L.all P = true := by
  refine List.all_eq_true.mpr fun c hc => ?_
  have h := List.all_eq_true.mp h1 c hc
  rcases Bool.eq_false_or_eq_true (isCode c) with hi | hi
  · exact h2 c (List.mem_filter.mpr ⟨hc, hi⟩)
  · simpa [hi] using h
set_option maxRecDepth 65536 in
theorem w_c0 : (Jvm.Cond.code x code maxLocals ret).before args0 about1 = true := code_word (m := ⟨1, 1⟩) (meth := k1m1) (c := k1c1) (by decide +kernel) rfl rfl rfl (by decide +kernel)
set_option maxRecDepth 65536 in
theorem w_c1 : (Jvm.Cond.code ({ cls := "com/example/cast3/cast3/Page$Entry", name := "<init>", desc := "(JJ)V" } : Jvm.MethodName) prog_16_method_1_code (5 : Nat) (Option.none : Option Jvm.ClassFile.FieldType)).before args0 about1 = true := code_word (m := ⟨4, 0⟩) (meth := k4m0) (c := k4c0) (by decide +kernel) rfl rfl rfl (by decide +kernel)
set_option maxRecDepth 65536 in
theorem w_c2 : (Jvm.Cond.code ({ cls := "java/lang/Record", name := "<init>", desc := "()V" } : Jvm.MethodName) jdk_30_method_1_code (1 : Nat) (Option.none : Option Jvm.ClassFile.FieldType)).before args0 about1 = true := code_word (m := ⟨2, 0⟩) (meth := k2m0) (c := k2c0) (by decide +kernel) rfl rfl rfl (by decide +kernel)
set_option maxRecDepth 65536 in
theorem w_c3 : (Jvm.Cond.code ({ cls := "java/lang/Object", name := "<init>", desc := "()V" } : Jvm.MethodName) object_method_1_code (1 : Nat) (Option.none : Option Jvm.ClassFile.FieldType)).before args0 about1 = true := code_word (m := ⟨0, 0⟩) (meth := k0m0) (c := k0c0) (by decide +kernel) rfl rfl rfl (by decide +kernel)
set_option maxRecDepth 65536 in
theorem w_c4 : (Jvm.Cond.code ({ cls := "com/example/cast3/cast3/Page$Entry", name := "comesAfter", desc := "(Lcom/example/cast3/cast3/Page$Entry;)Z" } : Jvm.MethodName) prog_16_method_3_code (2 : Nat) (Option.some Jvm.ClassFile.FieldType.boolean)).before args0 about1 = true := code_word (m := ⟨4, 1⟩) (meth := k4m1) (c := k4c1) (by decide +kernel) rfl rfl rfl (by decide +kernel)
def codes1 : List Jvm.Cond := [Jvm.Cond.code x code maxLocals ret, Jvm.Cond.code ({ cls := "com/example/cast3/cast3/Page$Entry", name := "<init>", desc := "(JJ)V" } : Jvm.MethodName) prog_16_method_1_code (5 : Nat) (Option.none : Option Jvm.ClassFile.FieldType), Jvm.Cond.code ({ cls := "java/lang/Record", name := "<init>", desc := "()V" } : Jvm.MethodName) jdk_30_method_1_code (1 : Nat) (Option.none : Option Jvm.ClassFile.FieldType), Jvm.Cond.code ({ cls := "java/lang/Object", name := "<init>", desc := "()V" } : Jvm.MethodName) object_method_1_code (1 : Nat) (Option.none : Option Jvm.ClassFile.FieldType), Jvm.Cond.code ({ cls := "com/example/cast3/cast3/Page$Entry", name := "comesAfter", desc := "(Lcom/example/cast3/cast3/Page$Entry;)Z" } : Jvm.MethodName) prog_16_method_3_code (2 : Nat) (Option.some Jvm.ClassFile.FieldType.boolean)]
set_option maxRecDepth 65536 in
theorem codes_eq : words1.filter isCode = codes1 := rfl
theorem w_codes : ∀ c ∈ words1.filter isCode, c.before args0 about1 = true := by
  rw [codes_eq]
  intro c hc
  simp only [codes1, List.mem_cons, List.not_mem_nil, or_false] at hc
  rcases hc with rfl | rfl | rfl | rfl | rfl
  · exact w_c0
  · exact w_c1
  · exact w_c2
  · exact w_c3
  · exact w_c4
set_option maxRecDepth 65536 in
theorem w_t1 : words1.all (fun c => isCode c || c.before args0 about1) = true := by decide +kernel
theorem w_tables : (allAtoms (Jvm.Cond.code x code maxLocals ret :: tables_1)).before args0 about1 = true := by
  rw [allAtoms_all]
  show words1.all (fun c => c.before args0 about1) = true
  refine all_split ?_ w_codes
  rw [w_t1]
set_option maxRecDepth 65536 in
theorem w_case : (Jvm.Cond.and given_1 narrow_1).before args0 about1 = true := by decide +kernel
theorem w_applies : (headSpec (Jvm.Cond.code x code maxLocals ret :: tables_1) room_1).applies x e0.platform about1 = true :=
  (Spec.applies_iff w_frames).mpr ⟨w_running, w_runnable, w_alone, w_named, w_hears, w_ripe, w_room, w_tables⟩
theorem atStart : AtStart classFile x code maxLocals ret World_1 tables_1 room_1 Calls_1 rest_1 Pre_1 launch0 p0 e0 about1 theMethod args0 below0 :=
  ⟨lists_1, trivial, launch0.admits_env _ _ _, launch0.least_env, fairChoices_fair.cas, fairChoices_fair.clock, w_frames, w_args, w_heap, w_applies, trivial, trivial, w_case⟩
end start1
theorem witness_1 : WitnessClaimed_1 := ⟨start1.p0, start1.e0, start1.about1, start1.theMethod, start1.args0, start1.below0, start1.atStart⟩
end Jvm.Pilot.@@N@@
