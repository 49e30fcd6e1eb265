import JvmDerived
import JvmDerived.Pilot.@@N@@Statement
import JvmDerived.Pilot.@@N@@Code
set_option linter.unusedVariables false
set_option linter.unusedSimpArgs false
namespace Jvm.RoadKit
open Sem ClassFile Op Lib Jvm.Stand Jvm.Free Jvm.LawKit
section New
variable {p : Program} {l : Launch} {e : Env} {R : Room} {s : State} {m : MethodId} {args : Array Value} {below : List Frame} {meth : Method} {c : Code} {T : State} {locs : List Loc} {cells slots : Nat}
theorem retI (X : Stand p l e R s m args below meth c T locs cells slots) (hx : p.tables.exec = Jvm.exec) {pc : Nat} {Ls : Array Slot} {z : Int32} {rest : List Value} (hret : meth.sig.returnType = some .int) (hd : decode c.code pc = .ok (.ireturn, 1)) {fs : List Frame}
    (hl : ∀ (f : JFrame) (acts : List Action), f.method = m → f.locked = none → f.entered = [] → (doReturn e (T.setTop f) acts (some (.int z))).1 = T.setFrames fs) : Steps p.tables e below (T.setTop (mkF m pc Ls (.int z :: rest))) (T.setFrames fs) := by
  have hm' : T.vm.method? m = some meth := X.method'
  have hn : narrow .int (.int z) = .int z := rfl
  show Steps p.tables e below (T.setTop { method := m, pc := pc, locals := Ls, stack := _ :: rest, locked := none }) _
  jvm_step X.here [X.here.top, hx, hd, hm', hret, hn]
  first | (intro acts; rw [hl _ acts rfl rfl rfl]) | rw [hl _ _ rfl rfl rfl]
  exact Steps.refl _
/-- from the state A the body comes to its end, and Q holds there -/
def own_G (tb : Tables) (e : Env) (below : List Frame) (Q : Outcome → State → Prop) (A : State) : Prop := ∃ s₂ o, Steps tb e below A s₂ ∧ s₂.status = .running ∧ Ended s₂ below o ∧ Q o s₂
theorem own_fs {tb : Tables} {Q : Outcome → State → Prop} {A B : State} (h : Steps tb e below A B) (g : own_G tb e below Q B) : own_G tb e below Q A := by
  obtain ⟨s₂, o, h1, r⟩ := g
  exact ⟨s₂, o, h.trans h1, r⟩
/-- what a body's contract says of its end -/
def own_P (s : State) (QQ : Option Value → Heap → List Loc → Prop) (rc rs : Nat) (o : Outcome) (U : State) : Prop := ∃ v L, o = .returned v ∧ QQ v U.heap L ∧ FrameEnd s o U L rc rs
variable {QQ : Option Value → Heap → List Loc → Prop} {rc rs : Nat} {h : Heap}
theorem own_start {tb : Tables} {g g' : JFrame} (q : g = g') (k : own_G tb e below (own_P s QQ rc rs) (T.setTop g')) : ∃ s₂ o, Steps tb e below (T.setTop g) s₂ ∧ s₂.status = .running ∧ Ended s₂ below o ∧ ∃ v L, o = .returned v ∧ QQ v s₂.heap L ∧ FrameEnd s o s₂ L rc rs := q ▸ k
theorem own_retI (X : Stand p l e R s m args below meth c T locs cells slots) (hx : p.tables.exec = Jvm.exec) {pc : Nat} {Ls : Array Slot} {z : Int32} {rest : List Value} (hret : meth.sig.returnType = some .int) (hlk : meth.locks = false) (hd : decode c.code pc = .ok (.ireturn, 1)) (hc : cells ≤ rc) (hs : slots ≤ rs) (eT : T.heap = h) (hQ : QQ (some (.int z)) h locs) :
    own_G p.tables e below (own_P s QQ rc rs) (T.setTop (mkF m pc Ls (.int z :: rest))) := by
  obtain ⟨fs, hr, hrun, hended, hW, hsame⟩ := X.leave (v := some (.int z)) (fun h => by rw [hret] at h; cases h) hlk
  exact ⟨_, _, retI X hx hret hd hr, hrun, hended, _, _, rfl, (by show QQ _ T.heap _; rw [eT]; exact hQ), ⟨_, rfl⟩, hW, hsame.mono hc hs⟩
theorem own_retN (X : Stand p l e R s m args below meth c T locs cells slots) (hx : p.tables.exec = Jvm.exec) {pc : Nat} {Ls : Array Slot} {z : Int32} {t : FieldType} {rest : List Value} (hret : meth.sig.returnType = some t) (hlk : meth.locks = false) (ht : t = .boolean ∨ t = .byte ∨ t = .char ∨ t = .short) (hd : decode c.code pc = .ok (.ireturn, 1)) (hc : cells ≤ rc) (hs : slots ≤ rs) (eT : T.heap = h) (hQ : QQ (some (.int (nar t z))) h locs) :
    own_G p.tables e below (own_P s QQ rc rs) (T.setTop (mkF m pc Ls (.int z :: rest))) := by
  obtain ⟨fs, hr, hrun, hended, hW, hsame⟩ := X.leave (v := some (.int (nar t z))) (fun h => by rw [hret] at h; cases h) hlk
  exact ⟨_, _, retN X hx hret ht hd hr, hrun, hended, _, _, rfl, (by show QQ _ T.heap _; rw [eT]; exact hQ), ⟨_, rfl⟩, hW, hsame.mono hc hs⟩
theorem own_retJ (X : Stand p l e R s m args below meth c T locs cells slots) (hx : p.tables.exec = Jvm.exec) {pc : Nat} {Ls : Array Slot} {z : Int64} {rest : List Value} (hret : meth.sig.returnType = some .long) (hlk : meth.locks = false) (hd : decode c.code pc = .ok (.lreturn, 1)) (hc : cells ≤ rc) (hs : slots ≤ rs) (eT : T.heap = h) (hQ : QQ (some (.long z)) h locs) :
    own_G p.tables e below (own_P s QQ rc rs) (T.setTop (mkF m pc Ls (.long z :: rest))) := by
  obtain ⟨fs, hr, hrun, hended, hW, hsame⟩ := X.leave (v := some (.long z)) (fun h => by rw [hret] at h; cases h) hlk
  exact ⟨_, _, retOut X hx hret rfl (Or.inr (Or.inl ⟨rfl, rfl, z, rfl⟩)) hd hr, hrun, hended, _, _, rfl, (by show QQ _ T.heap _; rw [eT]; exact hQ), ⟨_, rfl⟩, hW, hsame.mono hc hs⟩
theorem own_narR {t : FieldType} {w : Value} (hw : w.isRef = true) : narrow t w = w := by rcases ref_cases hw with rfl | ⟨a, rfl⟩ <;> cases t <;> rfl
theorem own_fitR {t : FieldType} {w : Value} (hw : w.isRef = true) (ht : t.isReference = true := by rfl) : fits t w = true := by rcases ref_cases hw with rfl | ⟨a, rfl⟩ <;> cases t <;> first | rfl | cases ht
theorem own_retA (X : Stand p l e R s m args below meth c T locs cells slots) (hx : p.tables.exec = Jvm.exec) {pc : Nat} {Ls : Array Slot} {w : Value} {t : FieldType} {rest : List Value} (hret : meth.sig.returnType = some t) (hlk : meth.locks = false) (ht : t.isReference = true) (hw : w.isRef = true) (hd : decode c.code pc = .ok (.areturn, 1)) (hc : cells ≤ rc) (hs : slots ≤ rs) (eT : T.heap = h) (hQ : QQ (some w) h locs) :
    own_G p.tables e below (own_P s QQ rc rs) (T.setTop (mkF m pc Ls (w :: rest))) := by
  obtain ⟨fs, hr, hrun, hended, hW, hsame⟩ := X.leave (v := some w) (fun h => by rw [hret] at h; cases h) hlk
  exact ⟨_, _, retOut X hx hret (own_narR hw) (Or.inr (Or.inr (Or.inr (Or.inr ⟨rfl, ht, hw⟩)))) hd hr, hrun, hended, _, _, rfl, (by show QQ _ T.heap _; rw [eT]; exact hQ), ⟨_, rfl⟩, hW, hsame.mono hc hs⟩
theorem own_retV (X : Stand p l e R s m args below meth c T locs cells slots) (hx : p.tables.exec = Jvm.exec) {pc : Nat} {Ls : Array Slot} (hret : meth.sig.returnType = none) (hlk : meth.locks = false) (hd : decode c.code pc = .ok (.return_, 1)) (hc : cells ≤ rc) (hs : slots ≤ rs) (eT : T.heap = h) (hQ : QQ none h locs) :
    own_G p.tables e below (own_P s QQ rc rs) (T.setTop (mkF m pc Ls [])) := by
  obtain ⟨fs, hr, hrun, hended, hW, hsame⟩ := X.leave (v := none) (fun _ => rfl) hlk
  exact ⟨_, _, X.returnOut hx hret hd hr, hrun, hended, _, _, rfl, (by show QQ _ T.heap _; rw [eT]; exact hQ), ⟨_, rfl⟩, hW, hsame.mono hc hs⟩
theorem own_nar0 : nar .boolean (0 : Int32) = (0 : Int32) := rfl
theorem own_nar1 : nar .boolean (1 : Int32) = (1 : Int32) := rfl
theorem own_nar1s : some (Value.int (nar .boolean (1 : Int32))) = some (Value.int (1 : Int32)) := rfl
end New
end Jvm.RoadKit
namespace Jvm.Pilot.@@N@@
open Jvm Jvm.ClassFile Sem Op Lib Jvm.Free Jvm.Stand Jvm.LawKit Jvm.RoadKit Bundle Jvm.Pilot.@@N@@.Jvm.D
theorem own_pn0 : plainName "java/lang/Number" = true := by first | (simp [plainName, overriddenIn]; done) | decide +kernel
theorem own_d6_0 : decode jdk_18_method_1_code 0 = .ok (.aload_n 0, 1) := by decide +kernel
theorem own_d6_1 : decode jdk_18_method_1_code 1 = .ok (.invokespecial 1, 3) := by decide +kernel
theorem own_d6_4 : decode jdk_18_method_1_code 4 = .ok (.return_, 1) := by decide +kernel
theorem own_pn1 : plainName "java/lang/Long" = true := by first | (simp [plainName, overriddenIn]; done) | decide +kernel
theorem own_d5_0 : decode jdk_35_method_26_code 0 = .ok (.aload_n 0, 1) := by decide +kernel
theorem own_d5_1 : decode jdk_35_method_26_code 1 = .ok (.invokespecial 270, 3) := by decide +kernel
theorem own_pd0 : parseMethodDescriptor "()V" = some ⟨[], none⟩ := by decide +kernel
theorem own_d5_4 : decode jdk_35_method_26_code 4 = .ok (.aload_n 0, 1) := by decide +kernel
theorem own_d5_5 : decode jdk_35_method_26_code 5 = .ok (.lload_n 1, 1) := by decide +kernel
theorem own_d5_6 : decode jdk_35_method_26_code 6 = .ok (.putfield 273, 3) := by decide +kernel
theorem own_d5_9 : decode jdk_35_method_26_code 9 = .ok (.return_, 1) := by decide +kernel
theorem own_d4_0 : decode jdk_35_method_24_code 0 = .ok (.sipush 128, 3) := by decide +kernel
theorem own_d4_3 : decode jdk_35_method_24_code 3 = .ok (.istore_n 2, 1) := by decide +kernel
theorem own_d4_4 : decode jdk_35_method_24_code 4 = .ok (.lload_n 0, 1) := by decide +kernel
theorem own_d4_5 : decode jdk_35_method_24_code 5 = .ok (.ldc2_w 230, 3) := by decide +kernel
theorem own_d4_8 : decode jdk_35_method_24_code 8 = .ok (.lcmp, 1) := by decide +kernel
theorem own_d4_9 : decode jdk_35_method_24_code 9 = .ok (.ifCond .lt 22, 3) := by decide +kernel
theorem own_d4_31 : decode jdk_35_method_24_code 31 = .ok (.new 1, 3) := by decide +kernel
theorem own_d4_34 : decode jdk_35_method_24_code 34 = .ok (.dup, 1) := by decide +kernel
theorem own_d4_35 : decode jdk_35_method_24_code 35 = .ok (.lload_n 0, 1) := by decide +kernel
theorem own_d4_36 : decode jdk_35_method_24_code 36 = .ok (.invokespecial 240, 3) := by decide +kernel
theorem own_pd1 : parseMethodDescriptor "(J)V" = some ⟨[.long], none⟩ := by decide +kernel
theorem own_d4_39 : decode jdk_35_method_24_code 39 = .ok (.areturn, 1) := by decide +kernel
theorem own_d4_12 : decode jdk_35_method_24_code 12 = .ok (.lload_n 0, 1) := by decide +kernel
theorem own_d4_13 : decode jdk_35_method_24_code 13 = .ok (.ldc2_w 232, 3) := by decide +kernel
theorem own_d4_16 : decode jdk_35_method_24_code 16 = .ok (.lcmp, 1) := by decide +kernel
theorem own_d4_17 : decode jdk_35_method_24_code 17 = .ok (.ifCond .gt 14, 3) := by decide +kernel
theorem own_d4_20 : decode jdk_35_method_24_code 20 = .ok (.getstatic 234, 3) := by decide +kernel
theorem own_d4_23 : decode jdk_35_method_24_code 23 = .ok (.lload_n 0, 1) := by decide +kernel
theorem own_d4_24 : decode jdk_35_method_24_code 24 = .ok (.l2i, 1) := by decide +kernel
theorem own_d4_25 : decode jdk_35_method_24_code 25 = .ok (.sipush 128, 3) := by decide +kernel
theorem own_d4_28 : decode jdk_35_method_24_code 28 = .ok (.iadd, 1) := by decide +kernel
theorem own_d4_29 : decode jdk_35_method_24_code 29 = .ok (.aaload, 1) := by decide +kernel
theorem own_d4_30 : decode jdk_35_method_24_code 30 = .ok (.areturn, 1) := by decide +kernel
theorem own_pn2 : plainName "com/example/dibs/dibs/namespace/RequestId" = true := by first | (simp [plainName, overriddenIn]; done) | decide +kernel
theorem own_d1_0 : decode prog_44_method_1_code 0 = .ok (.aload_n 0, 1) := by decide +kernel
theorem own_d1_1 : decode prog_44_method_1_code 1 = .ok (.invokespecial 1, 3) := by decide +kernel
theorem own_d1_4 : decode prog_44_method_1_code 4 = .ok (.lload_n 1, 1) := by decide +kernel
theorem own_d1_5 : decode prog_44_method_1_code 5 = .ok (.lconst 0, 1) := by decide +kernel
theorem own_d1_6 : decode prog_44_method_1_code 6 = .ok (.lcmp, 1) := by decide +kernel
theorem own_d1_7 : decode prog_44_method_1_code 7 = .ok (.ifCond .le 9, 3) := by decide +kernel
theorem own_d1_10 : decode prog_44_method_1_code 10 = .ok (.lload_n 3, 1) := by decide +kernel
theorem own_d1_11 : decode prog_44_method_1_code 11 = .ok (.lconst 0, 1) := by decide +kernel
theorem own_d1_12 : decode prog_44_method_1_code 12 = .ok (.lcmp, 1) := by decide +kernel
theorem own_d1_13 : decode prog_44_method_1_code 13 = .ok (.ifCond .ge 18, 3) := by decide +kernel
theorem own_d1_31 : decode prog_44_method_1_code 31 = .ok (.aload_n 0, 1) := by decide +kernel
theorem own_d1_32 : decode prog_44_method_1_code 32 = .ok (.lload_n 1, 1) := by decide +kernel
theorem own_d1_33 : decode prog_44_method_1_code 33 = .ok (.putfield 16, 3) := by decide +kernel
theorem own_d1_36 : decode prog_44_method_1_code 36 = .ok (.aload_n 0, 1) := by decide +kernel
theorem own_d1_37 : decode prog_44_method_1_code 37 = .ok (.lload_n 3, 1) := by decide +kernel
theorem own_d1_38 : decode prog_44_method_1_code 38 = .ok (.putfield 22, 3) := by decide +kernel
theorem own_d1_41 : decode prog_44_method_1_code 41 = .ok (.return_, 1) := by decide +kernel
theorem own_d3_0 : decode prog_44_method_5_code 0 = .ok (.aload_n 1, 1) := by decide +kernel
theorem own_d3_1 : decode prog_44_method_5_code 1 = .ok (.instanceof 17, 3) := by decide +kernel
theorem own_d3_4 : decode prog_44_method_5_code 4 = .ok (.ifCond .eq 37, 3) := by decide +kernel
theorem own_d3_7 : decode prog_44_method_5_code 7 = .ok (.aload_n 1, 1) := by decide +kernel
theorem own_d3_8 : decode prog_44_method_5_code 8 = .ok (.checkcast 17, 3) := by decide +kernel
theorem own_d3_11 : decode prog_44_method_5_code 11 = .ok (.getfield 16, 3) := by decide +kernel
theorem own_d3_14 : decode prog_44_method_5_code 14 = .ok (.aload_n 0, 1) := by decide +kernel
theorem own_d3_15 : decode prog_44_method_5_code 15 = .ok (.getfield 16, 3) := by decide +kernel
theorem own_d3_18 : decode prog_44_method_5_code 18 = .ok (.lcmp, 1) := by decide +kernel
theorem own_d3_19 : decode prog_44_method_5_code 19 = .ok (.ifCond .ne 22, 3) := by decide +kernel
theorem own_d3_22 : decode prog_44_method_5_code 22 = .ok (.aload_n 1, 1) := by decide +kernel
theorem own_d3_23 : decode prog_44_method_5_code 23 = .ok (.checkcast 17, 3) := by decide +kernel
theorem own_d3_26 : decode prog_44_method_5_code 26 = .ok (.getfield 22, 3) := by decide +kernel
theorem own_d3_29 : decode prog_44_method_5_code 29 = .ok (.aload_n 0, 1) := by decide +kernel
theorem own_d3_30 : decode prog_44_method_5_code 30 = .ok (.getfield 22, 3) := by decide +kernel
theorem own_d3_33 : decode prog_44_method_5_code 33 = .ok (.lcmp, 1) := by decide +kernel
theorem own_d3_34 : decode prog_44_method_5_code 34 = .ok (.ifCond .ne 7, 3) := by decide +kernel
theorem own_d3_37 : decode prog_44_method_5_code 37 = .ok (.iconst 1, 1) := by decide +kernel
theorem own_d3_38 : decode prog_44_method_5_code 38 = .ok (.goto 4, 3) := by decide +kernel
theorem own_d3_42 : decode prog_44_method_5_code 42 = .ok (.ireturn, 1) := by decide +kernel
theorem own_d3_41 : decode prog_44_method_5_code 41 = .ok (.iconst 0, 1) := by decide +kernel
theorem own_pn3 : plainName "com/example/dibs/dibs/namespace/RequestIdEqualsPinLaw" = true := by first | (simp [plainName, overriddenIn]; done) | decide +kernel
theorem own_pd2 : parseMethodDescriptor "(JJ)V" = some ⟨[.long, .long], none⟩ := by decide +kernel
theorem own_pd3 : parseMethodDescriptor "(Ljava/lang/Object;)Z" = some ⟨[(.object "java/lang/Object")], some .boolean⟩ := by decide +kernel
theorem own_pd4 : parseMethodDescriptor "(J)Ljava/lang/Long;" = some ⟨[.long], some (.object "java/lang/Long")⟩ := by decide +kernel
theorem own_mask (q : Int64) : 0 ≤ (q &&& (9223372036854775807 : Int64)).toInt := by
  rw [c_maskL q 9223372036854775807 63 (by decide) (by decide)]
  exact Int.emod_nonneg _ (by decide)
theorem own_maskn (q : Int64) : ¬ ((q &&& (9223372036854775807 : Int64)) < (0 : Int64)) := by
  have := own_mask q
  rw [Int64.lt_iff_toInt_lt, show (0 : Int64).toInt = 0 from by decide]; omega
theorem own_pos {q : Int64} (h : ¬ (q < (0 : Int64))) (z : ¬ (q = (0 : Int64))) : (0 : Int64) < q := by
  rw [Int64.lt_iff_toInt_lt] at *
  rw [show (0 : Int64).toInt = 0 from by decide] at *
  have : q.toInt ≠ 0 := fun e => z (Int64.toInt_inj.mp (by rw [e]; decide))
  omega
theorem own_nneg {q : Int64} (h : (0 : Int64) < q) : ¬ (q < (0 : Int64)) := by
  rw [Int64.lt_iff_toInt_lt] at *; omega
def own_eq (c1 n1 c2 n2 : Int64) : Int32 := if c2 = c1 then (if n2 = n1 then (1 : Int32) else (0 : Int32)) else (0 : Int32)
theorem own_sub0 {vm : Vm} {c t : ClassId} {k : Class} (h1 : vm.classes[c]? = some k) (h2 : k.super = none) (ne : c ≠ t) (f : Nat) : vm.isSubclassAux f c t = false := by
  cases f with
  | zero => rfl
  | succ f => simp [Vm.isSubclassAux, ne, h1, h2]
theorem own_sub1 {vm : Vm} {c t q : ClassId} {k : Class} (h1 : vm.classes[c]? = some k) (h2 : k.super = some q) (ne : c ≠ t) (ih : ∀ f, vm.isSubclassAux f q t = false) (f : Nat) : vm.isSubclassAux f c t = false := by
  cases f with
  | zero => rfl
  | succ f => simp [Vm.isSubclassAux, ne, h1, h2, ih]
theorem own_notLong {Z : State} {a0 : Array Value} {K : String} {n : Nat} (w0 : (Jvm.Cond.noSuperclass "java/lang/Object").before a0 Z = true) (w1 : (Jvm.Cond.superclass "java/lang/Number" "java/lang/Object").before a0 Z = true) (w2 : (Jvm.Cond.superclass "java/lang/Long" "java/lang/Number").before a0 Z = true)
    (wk : (Jvm.Cond.instantiable K n).before a0 Z = true) (n1 : "java/lang/Long" ≠ K) (n2 : "java/lang/Number" ≠ K) (n3 : "java/lang/Object" ≠ K) : ∃ c t, Z.vm.findClass "java/lang/Long" = some c ∧ Z.vm.findClass K = some t ∧ Z.vm.assignable c t = false := by
  obtain ⟨t, kt, t1, t2, t3, t4, -⟩ := Cond.instantiable_spec wk
  obtain ⟨co, ko, o1, o2, o3, -⟩ := Cond.noSuperclass_spec w0
  obtain ⟨cn, n0⟩ := found_sup w1
  obtain ⟨cl, l0⟩ := found_sup w2
  obtain ⟨p1, k1, kp1, a1, a2, a3, a4, -⟩ := Cond.superclass_spec n0 w1
  obtain ⟨p2, k2, kp2, b1, b2, b3, b4, b5, -, b7⟩ := Cond.superclass_spec l0 w2
  cases o1.symm.trans a1
  cases n0.symm.trans b1
  have key : ∀ f, Z.vm.isSubclassAux f cl t = false := own_sub1 b2 b4 (ids_ne l0 t1 n1) (own_sub1 a2 a4 (ids_ne n0 t1 n2) (own_sub0 o2 o3 (ids_ne o1 t1 n3)))
  refine ⟨cl, t, l0, t1, ?_⟩
  simp only [Bool.or_eq_false_iff] at t4
  show Z.vm.assignableAux (255 + 1) cl t = false
  simp [Vm.assignableAux, ids_ne l0 t1 n1, b2, t2, b5, t3, t4.1, Vm.isSubclass, key]
theorem own_dec (a b : Int64) : (a = b ∧ b = a) ∨ (¬ (a = b) ∧ ¬ (b = a)) := by
  by_cases h : a = b
  · exact Or.inl ⟨h, h.symm⟩
  · exact Or.inr ⟨h, fun q => h q.symm⟩

theorem own_len31 {args : Array Value} {first s : State} {o : Option Outcome} {idx : List Nat} {t : Term} {v : Value} {a : Addr} {cell : Cell} (ht : t.eval args first o idx s = some (.ref a)) (hc : s.arrayAt? a = some cell) (h : (Term.length t).eval args first o idx s = some v) : cell.slots.size < 2 ^ 31 := by
  by_cases q : cell.slots.size < 2147483648
  · exact q
  · exfalso
    simp [Term.eval, ht, hc, q] at h
def own_bv (j : Int32) : Value := .long ((j - (128 : Int32)).toInt64)
theorem own_boxAt {Z : State} {h0 : Heap} {n0 : Nat} {cb : Addr} {cc : Cell} {q1 : Int64} (B : Bxs Z cb cc "java/lang/Long" "J" (256 : Int32) own_bv) (O : Old Z n0 h0) (h1 : ¬ (q1 < (-128 : Int64))) (h2 : ¬ ((127 : Int64) < q1)) :
    ¬ (((q1.toInt32) + (128 : Int32)) < 0 ∨ cc.slots.size ≤ ((q1.toInt32) + (128 : Int32)).toNatClampNeg) ∧ ∃ a : Addr, cc.slots[((q1.toInt32) + (128 : Int32)).toNatClampNeg]? = some (.ref a) ∧ Exa Z h0 a "java/lang/Long" ∧ Fld Z h0 a "java/lang/Long" "value" "J" (.long q1) := by
  rw [Int64.lt_iff_toInt_lt] at h1 h2
  rw [show (-128 : Int64).toInt = -128 from by decide] at h1
  rw [show (127 : Int64).toInt = 127 from by decide] at h2
  have c1 := c_l2i q1
  have c2 := rng32 q1.toInt32
  have c3 := c_iadd q1.toInt32 128
  rw [show (128 : Int32).toInt = 128 from by decide] at c3
  have c4 := rng32 (q1.toInt32 + 128)
  have hj : ¬ (((q1.toInt32) + (128 : Int32)) < 0 ∨ cc.slots.size ≤ ((q1.toInt32) + (128 : Int32)).toNatClampNeg) := by
    have hs := B.2.1
    rw [show (256 : Int32).toNatClampNeg = 256 from by decide] at hs
    intro h
    rcases h with h | h
    · rw [Int32.lt_iff_toInt_lt, show (0 : Int32).toInt = 0 from by decide] at h; omega
    · have : (((q1.toInt32) + (128 : Int32)).toNatClampNeg : Int) = ((q1.toInt32) + (128 : Int32)).toInt := (nat_of (by rw [Int32.lt_iff_toInt_lt, show (0 : Int32).toInt = 0 from by decide]; omega)).symm
      omega
  obtain ⟨b, e1, e2, e3⟩ := B.2.2.2 _ hj
  refine ⟨hj, b, e1, Exa.ext O.2 e2, ?_⟩
  have q : own_bv ((q1.toInt32) + (128 : Int32)) = .long q1 := by
    show Value.long ((((q1.toInt32) + (128 : Int32)) - (128 : Int32)).toInt64) = .long q1
    congr 1
    apply Int64.toInt_inj.mp
    rw [Int32.toInt_toInt64]
    have c5 := c_isub (q1.toInt32 + 128) 128
    rw [show (128 : Int32).toInt = 128 from by decide] at c5
    have c6 := rng32 (q1.toInt32 + 128 - 128)
    omega
  rw [← q]
  exact Fld.ext O.2 e3

theorem own_i_Number_ef (m : MethodId) (x0 : Addr) : entryFrame m #[(.ref x0)] 1 = mkF m 0 #[.val (.ref x0)] [] := by first | (simp [entryFrame, mkF, argsToLocals, Value.category]; done) | rfl
def own_i_Number_Q (Z : State) (a1 : Addr) (h0 : Heap) (n0 : Nat) (v : Option Value) (h : Heap) (L : List Loc) : Prop := (v = none ∧ Fr n0 L ∧ h = h0)
set_option maxRecDepth 65536 in
set_option maxHeartbeats 40000000 in
theorem own_i_Number (l : Launch) (Z : State) (a0 : Array Value) (hw : ∀ d ∈ tables_1, d.before a0 Z = true) (ws : List Jvm.Cond) (a1 : Addr) (h0 : Heap) (n0 : Nat) (Z0 : n0 ≤ h0.size)  :
    MetFree l (⟨"java/lang/Number", "<init>", "()V"⟩ : MethodName) (head1 (Jvm.Cond.code (⟨"java/lang/Number", "<init>", "()V"⟩ : MethodName) jdk_18_method_1_code 1 none :: ws) ({ frames := 1, cells := 0, slots := 0, locals := 12 } : Room)) (fun a U => a = #[(.ref a1)] ∧ Z.Warmed39 U.vm ∧ U.heap = h0) (fun _ _ _ _ _ => True) (fun _ U o U' => ∃ v L, o = .returned v ∧ own_i_Number_Q Z a1 h0 n0 v U'.heap L ∧ FrameEnd U o U' L ({ frames := 1, cells := 0, slots := 0, locals := 12 } : Room).cells ({ frames := 1, cells := 0, slots := 0, locals := 12 } : Room).slots) := by
  refine MetFree.of_bodySF (plainFor_of_name own_pn0) hisR ?_
  intro p e s m args below meth c s₁ Bd hml0 hP hK
  obtain ⟨rfl, hZ, hh⟩ := hP
  have hx := Bd.exec
  have hby := Bd.bytes
  have hlk : meth.locks = false := BodyLoose.notSynchronized Bd
  have hml : c.maxLocals = 1 := hml0
  have hown : s.vm.findClass "java/lang/Number" = some m.cls := findClass_of_methodNamed Bd.named
  have hnm := (name_of_methodNamed Bd.named Bd.method).1
  have X0 : Stand p l e ({ frames := 1, cells := 0, slots := 0, locals := 12 } : Room) s m #[(.ref a1)] below meth c s₁ [] 0 0 := Stand.of_body Bd
  have e0 : s₁.heap = h0 := by rw [← hh, Bd.state]; rfl
  have N0 := Fr.nil n0
  refine own_start (QQ := own_i_Number_Q Z a1 h0 n0) (rc := ({ frames := 1, cells := 0, slots := 0, locals := 12 } : Room).cells) (rs := ({ frames := 1, cells := 0, slots := 0, locals := 12 } : Room).slots) (own_i_Number_ef m a1 ) ?_
  show own_G p.tables e below _ (s₁.setTop (mkF m 0 #[.val (.ref a1)] []))
  refine own_fs (XS.aloadN X0.here hx rfl (hb hby own_d6_0) rfl rfl (Steps.refl _)) ?_
  show own_G p.tables e below _ (s₁.setTop (mkF m 1 #[.val (.ref a1)] [(.ref a1)]))
  obtain ⟨T1, X1, e1, st1⟩ := initO X0 hx hZ hown (hw _ (List.mem_of_getElem? (i := 39) rfl)) (hw _ (List.mem_of_getElem? (i := 8) rfl)) (hw _ (List.mem_of_getElem? (i := 9) rfl)) e0 (g := (mkF m 1 #[.val (.ref a1)] [(.ref a1)])) rfl (by rw [hml]; rfl) rfl (hb hby own_d6_1) (by decide) (W := 0) (by show 2 * 0 + _ ≤ _; exact Nat.le_of_eq rfl) (by decide)
  refine own_fs (st1 _ (Steps.refl _)) ?_
  show own_G p.tables e below _ (T1.setTop (mkF m 4 #[.val (.ref a1)] []))
  exact own_retV X1 hx Bd.returns hlk (hb hby own_d6_4) (by decide) (by decide) e1 ⟨rfl, N0, rfl⟩
theorem own_i_Long_ef (m : MethodId) (x0 : Addr) (x1 : Int64) : entryFrame m #[(.ref x0), (.long x1)] 3 = mkF m 0 #[.val (.ref x0), .val (.long x1), .second] [] := by first | (simp [entryFrame, mkF, argsToLocals, Value.category]; done) | rfl
def own_i_Long_Q (Z : State) (a1 : Addr) (q1 : Int64) (u1 : Int64) (h0 : Heap) (n0 : Nat) (v : Option Value) (h : Heap) (L : List Loc) : Prop := (v = none ∧ Fr n0 L ∧ Keep h0 h [a1] ∧ (Fld Z h a1 "java/lang/Long" "value" "J" (.long q1)))
set_option maxRecDepth 65536 in
set_option maxHeartbeats 40000000 in
theorem own_i_Long (l : Launch) (Z : State) (a0 : Array Value) (hw : ∀ d ∈ tables_1, d.before a0 Z = true) (ws : List Jvm.Cond) (a1 : Addr) (q1 : Int64) (u1 : Int64) (h0 : Heap) (n0 : Nat) (Z0 : n0 ≤ h0.size) (hE_a1 : Exa Z h0 a1 "java/lang/Long") (hF_value_a1 : Fld Z h0 a1 "java/lang/Long" "value" "J" (.long u1)) (ge_a1 : n0 ≤ a1) :
    MetFree l (⟨"java/lang/Long", "<init>", "(J)V"⟩ : MethodName) (head1 (Jvm.Cond.code (⟨"java/lang/Long", "<init>", "(J)V"⟩ : MethodName) jdk_35_method_26_code 3 none :: ws) ({ frames := 2, cells := 0, slots := 0, locals := 24 } : Room)) (fun a U => a = #[(.ref a1), (.long q1)] ∧ Z.Warmed39 U.vm ∧ U.heap = h0) (fun _ _ _ _ _ => True) (fun _ U o U' => ∃ v L, o = .returned v ∧ own_i_Long_Q Z a1 q1 u1 h0 n0 v U'.heap L ∧ FrameEnd U o U' L ({ frames := 2, cells := 0, slots := 0, locals := 24 } : Room).cells ({ frames := 2, cells := 0, slots := 0, locals := 24 } : Room).slots) := by
  refine MetFree.of_bodySF (plainFor_of_name own_pn1) hisR ?_
  intro p e s m args below meth c s₁ Bd hml0 hP hK
  obtain ⟨rfl, hZ, hh⟩ := hP
  have hx := Bd.exec
  have hby := Bd.bytes
  have hlk : meth.locks = false := BodyLoose.notSynchronized Bd
  have hml : c.maxLocals = 3 := hml0
  have hown : s.vm.findClass "java/lang/Long" = some m.cls := findClass_of_methodNamed Bd.named
  have hnm := (name_of_methodNamed Bd.named Bd.method).1
  have X0 : Stand p l e ({ frames := 2, cells := 0, slots := 0, locals := 24 } : Room) s m #[(.ref a1), (.long q1)] below meth c s₁ [] 0 0 := Stand.of_body Bd
  have e0 : s₁.heap = h0 := by rw [← hh, Bd.state]; rfl
  have N0 := Fr.nil n0
  refine own_start (QQ := own_i_Long_Q Z a1 q1 u1 h0 n0) (rc := ({ frames := 2, cells := 0, slots := 0, locals := 24 } : Room).cells) (rs := ({ frames := 2, cells := 0, slots := 0, locals := 24 } : Room).slots) (own_i_Long_ef m a1 q1 ) ?_
  show own_G p.tables e below _ (s₁.setTop (mkF m 0 #[.val (.ref a1), .val (.long q1), .second] []))
  refine own_fs (XS.aloadN X0.here hx rfl (hb hby own_d5_0) rfl rfl (Steps.refl _)) ?_
  show own_G p.tables e below _ (s₁.setTop (mkF m 1 #[.val (.ref a1), .val (.long q1), .second] [(.ref a1)]))
  have Zs3 : n0 ≤ h0.size := Z0
  obtain ⟨_, _, ⟨T2, L2, k2, n2⟩, -, X2, ⟨Lc2, hQ2, l2, y2, z2⟩, st2⟩ := X0.specialBack hx (y := (⟨"java/lang/Number", "<init>", "()V"⟩ : MethodName)) rfl hown (mvT hZ (hw _ (List.mem_of_getElem? (i := 33) rfl))) (mvT hZ (hw _ (List.mem_of_getElem? (i := 34) rfl))) (mvT hZ (hw _ (List.mem_of_getElem? (i := 38) rfl))) (by decide) (backOf (W := 0) (own_i_Number l Z a0 hw [] a1 h0 n0 Zs3 ) hZ (hw _ (List.mem_of_getElem? (i := 38) rfl)) (hw _ (List.mem_of_getElem? (i := 37) rfl)) (by decide) (by decide)) (g := (mkF m 1 #[.val (.ref a1), .val (.long q1), .second] [(.ref a1)])) rfl (by rw [hml]; rfl) (Steps.refl _) (a := a1) (argsL := []) (rest := []) (lenOf own_pd0 rfl) rfl (by show 2 * 0 + _ ≤ _; exact Nat.le_of_eq rfl) (hb hby own_d5_1) (fun _ _ => ⟨rfl, e0, (by decide : 0 + 0 ≤ _), (by decide : 0 + 0 ≤ _)⟩)
  dsimp only [Pt.U, Pt.locs, Pt.cells, Pt.slots] at X2 l2 y2 z2 st2 hQ2
  subst l2 y2 z2
  obtain ⟨rfl, Nq2, e2⟩ := hQ2
  have N2 := Fr.app N0 Nq2
  refine own_fs st2 ?_
  show own_G p.tables e below _ (T2.setTop (mkF m 4 #[.val (.ref a1), .val (.long q1), .second] []))
  refine own_fs (XS.aloadN X2.here hx rfl (hb hby own_d5_4) rfl rfl (Steps.refl _)) ?_
  show own_G p.tables e below _ (T2.setTop (mkF m 5 #[.val (.ref a1), .val (.long q1), .second] [(.ref a1)]))
  refine own_fs (XS.lloadN X2.here hx rfl (hb hby own_d5_5) rfl (Steps.refl _)) ?_
  show own_G p.tables e below _ (T2.setTop (mkF m 6 #[.val (.ref a1), .val (.long q1), .second] [(.long q1), (.ref a1)]))
  obtain ⟨T4, h4, X4, e4, W4, st4⟩ := putF X2 hx hZ hown (host := "") (Or.inl (hw _ (List.mem_of_getElem? (i := 40) rfl))) Via.refl e2 hF_value_a1 hE_a1 (Or.inr ⟨(hw _ (List.mem_of_getElem? (i := 41) rfl)), rfl, hnm⟩) (hw _ (List.mem_of_getElem? (i := 28) rfl)) (ty := .long) (by decide) rfl rfl (g := (mkF m 6 #[.val (.ref a1), .val (.long q1), .second] [(.long q1), (.ref a1)])) rfl rfl (hb hby own_d5_6)
  refine own_fs (st4 _ (Steps.refl _)) ?_
  have Fw4 := Fld.same W4 hF_value_a1
  have N4 := Fr.snoc X4 N2 ge_a1
  show own_G p.tables e below _ (T4.setTop (mkF m 9 #[.val (.ref a1), .val (.long q1), .second] []))
  exact own_retV X4 hx Bd.returns hlk (hb hby own_d5_9) (by decide) (by decide) e4 ⟨rfl, N4, ((Keep.refl _ _).wr W4 (Or.inl (List.mem_of_getElem? (i := 0) rfl))), Fw4⟩
theorem own_valueOf_ef (m : MethodId) (x0 : Int64) : entryFrame m #[(.long x0)] 3 = mkF m 0 #[.val (.long x0), .second, .unset] [] := by first | (simp [entryFrame, mkF, argsToLocals, Value.category]; done) | rfl
def own_valueOf_Q (Z : State) (q1 : Int64) (cb : Addr) (cc : Cell) (h0 : Heap) (n0 : Nat) (v : Option Value) (h : Heap) (L : List Loc) : Prop := ∃ ar : Addr, (v = some (.ref ar) ∧ Fr n0 L ∧ Keep h0 h [] ∧ (Exa Z h ar "java/lang/Long") ∧ (Fld Z h ar "java/lang/Long" "value" "J" (.long q1)) ∧ (ar < h.size))
set_option maxRecDepth 65536 in
set_option maxHeartbeats 40000000 in
theorem own_valueOf (l : Launch) (Z : State) (a0 : Array Value) (hw : ∀ d ∈ tables_1, d.before a0 Z = true) (ws : List Jvm.Cond) (q1 : Int64) (cb : Addr) (cc : Cell) (h0 : Heap) (n0 : Nat) (Z0 : n0 ≤ h0.size) (hSta : Sta Z Z.heap "java/lang/Long$LongCache" "cache" "[Ljava/lang/Long;" (.ref cb)) (hBx : Bxs Z cb cc "java/lang/Long" "J" (256 : Int32) own_bv) (hOld : Old Z n0 h0) :
    MetFree l (⟨"java/lang/Long", "valueOf", "(J)Ljava/lang/Long;"⟩ : MethodName) (head1 (Jvm.Cond.code (⟨"java/lang/Long", "valueOf", "(J)Ljava/lang/Long;"⟩ : MethodName) jdk_35_method_24_code 3 (some (.object "java/lang/Long")) :: ws) ({ frames := 3, cells := 1, slots := 1, locals := 39 } : Room)) (fun a U => a = #[(.long q1)] ∧ Z.Warmed39 U.vm ∧ U.heap = h0) (fun _ _ _ _ _ => True) (fun _ U o U' => ∃ v L, o = .returned v ∧ own_valueOf_Q Z q1 cb cc h0 n0 v U'.heap L ∧ FrameEnd U o U' L ({ frames := 3, cells := 1, slots := 1, locals := 39 } : Room).cells ({ frames := 3, cells := 1, slots := 1, locals := 39 } : Room).slots) := by
  refine MetFree.of_bodySF (plainFor_of_name own_pn1) hisR ?_
  intro p e s m args below meth c s₁ Bd hml0 hP hK
  obtain ⟨rfl, hZ, hh⟩ := hP
  have hx := Bd.exec
  have hby := Bd.bytes
  have hlk : meth.locks = false := BodyLoose.notSynchronized Bd
  have hml : c.maxLocals = 3 := hml0
  have hown : s.vm.findClass "java/lang/Long" = some m.cls := findClass_of_methodNamed Bd.named
  have hnm := (name_of_methodNamed Bd.named Bd.method).1
  have X0 : Stand p l e ({ frames := 3, cells := 1, slots := 1, locals := 39 } : Room) s m #[(.long q1)] below meth c s₁ [] 0 0 := Stand.of_body Bd
  have e0 : s₁.heap = h0 := by rw [← hh, Bd.state]; rfl
  have N0 := Fr.nil n0
  refine own_start (QQ := own_valueOf_Q Z q1 cb cc h0 n0) (rc := ({ frames := 3, cells := 1, slots := 1, locals := 39 } : Room).cells) (rs := ({ frames := 3, cells := 1, slots := 1, locals := 39 } : Room).slots) (own_valueOf_ef m q1 ) ?_
  show own_G p.tables e below _ (s₁.setTop (mkF m 0 #[.val (.long q1), .second, .unset] []))
  refine own_fs (XS.sipush X0.here hx rfl (hb hby own_d4_0) (Steps.refl _)) ?_
  show own_G p.tables e below _ (s₁.setTop (mkF m 3 #[.val (.long q1), .second, .unset] [(.int (128 : Int32))]))
  refine own_fs (XS.istoreN X0.here hx rfl (hb hby own_d4_3) rfl (l' := #[.val (.long q1), .second, .val (.int (128 : Int32))]) rfl (Steps.refl _)) ?_
  show own_G p.tables e below _ (s₁.setTop (mkF m 4 #[.val (.long q1), .second, .val (.int (128 : Int32))] []))
  refine own_fs (XS.lloadN X0.here hx rfl (hb hby own_d4_4) rfl (Steps.refl _)) ?_
  show own_G p.tables e below _ (s₁.setTop (mkF m 5 #[.val (.long q1), .second, .val (.int (128 : Int32))] [(.long q1)]))
  refine own_fs (X0.ldc2Long hx hown (mvT hZ (hw _ (List.mem_of_getElem? (i := 25) rfl))) (g := (mkF m 5 #[.val (.long q1), .second, .val (.int (128 : Int32))] [(.long q1)])) rfl (hb hby own_d4_5) _ (Steps.refl _)) ?_
  show own_G p.tables e below _ (s₁.setTop (mkF m 8 #[.val (.long q1), .second, .val (.int (128 : Int32))] [(.long (-128 : Int64)), (.long q1)]))
  refine own_fs (XT.lcmp X0.here hx rfl (hb hby own_d4_8) rfl (Steps.refl _)) ?_
  show own_G p.tables e below _ (s₁.setTop (mkF m 9 #[.val (.long q1), .second, .val (.int (128 : Int32))] [(.int (XT.cmpL q1 (-128 : Int64)))]))
  by_cases hc9 : q1 < (-128 : Int64)
  · refine own_fs (XS.ifYes X0.here hx rfl (pc0 := 9) (pc' := 31) rfl (hb hby own_d4_9) rfl (XT.ll_lt_t hc9) (by decide) (by decide) (Steps.refl _)) ?_
    show own_G p.tables e below _ (s₁.setTop (mkF m 31 #[.val (.long q1), .second, .val (.int (128 : Int32))] []))
    obtain ⟨T1, h1, X1, e1, E1, A1, D1, -, st1⟩ := newO X0 hx hZ hown (hw _ (List.mem_of_getElem? (i := 27) rfl)) (hw _ (List.mem_of_getElem? (i := 28) rfl)) (hw _ (List.mem_of_getElem? (i := 23) rfl)) e0 (g := (mkF m 31 #[.val (.long q1), .second, .val (.int (128 : Int32))] [])) rfl (hb hby own_d4_31) (by decide) (by decide)
    obtain ⟨b1, g1⟩ : ∃ z, z = h0.size := ⟨_, rfl⟩
    rw [← g1] at A1 D1 st1
    have ge_b1 : n0 ≤ b1 := Nat.le_trans Z0 (Nat.le_of_eq g1.symm)
    have gz_b1 : h0.size ≤ b1 := Nat.le_trans (Nat.le_refl _) (Nat.le_of_eq g1.symm)
    have F_value_b1 : Fld Z h1 b1 "java/lang/Long" "value" "J" (.long (0 : Int64)) := D1 (Or.inr (hw _ (List.mem_of_getElem? (i := 41) rfl))) (ty := .long) (by decide)
    refine own_fs (st1 _ (Steps.refl _)) ?_
    show own_G p.tables e below _ (T1.setTop (mkF m 34 #[.val (.long q1), .second, .val (.int (128 : Int32))] [(.ref b1)]))
    refine own_fs (XS.dup X1.here hx rfl (hb hby own_d4_34) rfl rfl (Steps.refl _)) ?_
    show own_G p.tables e below _ (T1.setTop (mkF m 35 #[.val (.long q1), .second, .val (.int (128 : Int32))] [(.ref b1), (.ref b1)]))
    refine own_fs (XS.lloadN X1.here hx rfl (hb hby own_d4_35) rfl (Steps.refl _)) ?_
    show own_G p.tables e below _ (T1.setTop (mkF m 36 #[.val (.long q1), .second, .val (.int (128 : Int32))] [(.long q1), (.ref b1), (.ref b1)]))
    have Zs4 : n0 ≤ h1.size := (Nat.le_trans Z0 E1.1)
    obtain ⟨_, _, ⟨T3, L3, k3, n3⟩, -, X3, ⟨Lc3, hQ3, l3, y3, z3⟩, st3⟩ := X1.specialBack hx (y := (⟨"java/lang/Long", "<init>", "(J)V"⟩ : MethodName)) rfl hown (mvT hZ (hw _ (List.mem_of_getElem? (i := 29) rfl))) (mvT hZ (hw _ (List.mem_of_getElem? (i := 30) rfl))) (mvT hZ (hw _ (List.mem_of_getElem? (i := 32) rfl))) (by decide) (backOf (W := 1) (own_i_Long l Z a0 hw [] b1 q1 (0 : Int64) h1 n0 Zs4 A1 F_value_b1 ge_b1) hZ (hw _ (List.mem_of_getElem? (i := 32) rfl)) (hw _ (List.mem_of_getElem? (i := 23) rfl)) (by decide) (by decide)) (g := (mkF m 36 #[.val (.long q1), .second, .val (.int (128 : Int32))] [(.long q1), (.ref b1), (.ref b1)])) rfl (by rw [hml]; rfl) (Steps.refl _) (a := b1) (argsL := [(.long q1)]) (rest := [(.ref b1)]) (lenOf own_pd1 rfl) rfl (by show 2 * 0 + _ ≤ _; exact Nat.le_of_eq rfl) (hb hby own_d4_36) (fun _ _ => ⟨rfl, e1, (by decide : 1 + 0 ≤ _), (by decide : 1 + 0 ≤ _)⟩)
    dsimp only [Pt.U, Pt.locs, Pt.cells, Pt.slots] at X3 l3 y3 z3 st3 hQ3
    subst l3 y3 z3
    obtain ⟨h3, e3⟩ : ∃ h, T3.heap = h := ⟨_, rfl⟩
    rw [e3] at hQ3
    obtain ⟨rfl, Nq3, K3, P2_0⟩ := hQ3
    have N3 := Fr.app N0 Nq3
    refine own_fs st3 ?_
    show own_G p.tables e below _ (T3.setTop (mkF m 39 #[.val (.long q1), .second, .val (.int (128 : Int32))] [(.ref b1)]))
    exact own_retA X3 hx (t := (.object "java/lang/Long")) Bd.returns hlk rfl rfl (hb hby own_d4_39) (by decide) (by decide) e3 ⟨b1, rfl, N3, (((Keep.refl _ _).ext E1).trans K3 (allS (Or.inr gz_b1) all0)), (A1.keep K3), P2_0, (Exa.lt (A1.keep K3))⟩
  · refine own_fs (XS.ifNo X0.here hx rfl (hb hby own_d4_9) rfl (XT.ll_lt_f hc9) (Steps.refl _)) ?_
    show own_G p.tables e below _ (s₁.setTop (mkF m 12 #[.val (.long q1), .second, .val (.int (128 : Int32))] []))
    refine own_fs (XS.lloadN X0.here hx rfl (hb hby own_d4_12) rfl (Steps.refl _)) ?_
    show own_G p.tables e below _ (s₁.setTop (mkF m 13 #[.val (.long q1), .second, .val (.int (128 : Int32))] [(.long q1)]))
    refine own_fs (X0.ldc2Long hx hown (mvT hZ (hw _ (List.mem_of_getElem? (i := 26) rfl))) (g := (mkF m 13 #[.val (.long q1), .second, .val (.int (128 : Int32))] [(.long q1)])) rfl (hb hby own_d4_13) _ (Steps.refl _)) ?_
    show own_G p.tables e below _ (s₁.setTop (mkF m 16 #[.val (.long q1), .second, .val (.int (128 : Int32))] [(.long (127 : Int64)), (.long q1)]))
    refine own_fs (XT.lcmp X0.here hx rfl (hb hby own_d4_16) rfl (Steps.refl _)) ?_
    show own_G p.tables e below _ (s₁.setTop (mkF m 17 #[.val (.long q1), .second, .val (.int (128 : Int32))] [(.int (XT.cmpL q1 (127 : Int64)))]))
    by_cases hc17 : (127 : Int64) < q1
    · refine own_fs (XS.ifYes X0.here hx rfl (pc0 := 17) (pc' := 31) rfl (hb hby own_d4_17) rfl (XT.ll_gt_t hc17) (by decide) (by decide) (Steps.refl _)) ?_
      show own_G p.tables e below _ (s₁.setTop (mkF m 31 #[.val (.long q1), .second, .val (.int (128 : Int32))] []))
      obtain ⟨T5, h5, X5, e5, E5, A5, D5, -, st5⟩ := newO X0 hx hZ hown (hw _ (List.mem_of_getElem? (i := 27) rfl)) (hw _ (List.mem_of_getElem? (i := 28) rfl)) (hw _ (List.mem_of_getElem? (i := 23) rfl)) e0 (g := (mkF m 31 #[.val (.long q1), .second, .val (.int (128 : Int32))] [])) rfl (hb hby own_d4_31) (by decide) (by decide)
      obtain ⟨b5, g5⟩ : ∃ z, z = h0.size := ⟨_, rfl⟩
      rw [← g5] at A5 D5 st5
      have ge_b5 : n0 ≤ b5 := Nat.le_trans Z0 (Nat.le_of_eq g5.symm)
      have gz_b5 : h0.size ≤ b5 := Nat.le_trans (Nat.le_refl _) (Nat.le_of_eq g5.symm)
      have F_value_b5 : Fld Z h5 b5 "java/lang/Long" "value" "J" (.long (0 : Int64)) := D5 (Or.inr (hw _ (List.mem_of_getElem? (i := 41) rfl))) (ty := .long) (by decide)
      refine own_fs (st5 _ (Steps.refl _)) ?_
      show own_G p.tables e below _ (T5.setTop (mkF m 34 #[.val (.long q1), .second, .val (.int (128 : Int32))] [(.ref b5)]))
      refine own_fs (XS.dup X5.here hx rfl (hb hby own_d4_34) rfl rfl (Steps.refl _)) ?_
      show own_G p.tables e below _ (T5.setTop (mkF m 35 #[.val (.long q1), .second, .val (.int (128 : Int32))] [(.ref b5), (.ref b5)]))
      refine own_fs (XS.lloadN X5.here hx rfl (hb hby own_d4_35) rfl (Steps.refl _)) ?_
      show own_G p.tables e below _ (T5.setTop (mkF m 36 #[.val (.long q1), .second, .val (.int (128 : Int32))] [(.long q1), (.ref b5), (.ref b5)]))
      have Zs8 : n0 ≤ h5.size := (Nat.le_trans Z0 E5.1)
      obtain ⟨_, _, ⟨T7, L7, k7, n7⟩, -, X7, ⟨Lc7, hQ7, l7, y7, z7⟩, st7⟩ := X5.specialBack hx (y := (⟨"java/lang/Long", "<init>", "(J)V"⟩ : MethodName)) rfl hown (mvT hZ (hw _ (List.mem_of_getElem? (i := 29) rfl))) (mvT hZ (hw _ (List.mem_of_getElem? (i := 30) rfl))) (mvT hZ (hw _ (List.mem_of_getElem? (i := 32) rfl))) (by decide) (backOf (W := 1) (own_i_Long l Z a0 hw [] b5 q1 (0 : Int64) h5 n0 Zs8 A5 F_value_b5 ge_b5) hZ (hw _ (List.mem_of_getElem? (i := 32) rfl)) (hw _ (List.mem_of_getElem? (i := 23) rfl)) (by decide) (by decide)) (g := (mkF m 36 #[.val (.long q1), .second, .val (.int (128 : Int32))] [(.long q1), (.ref b5), (.ref b5)])) rfl (by rw [hml]; rfl) (Steps.refl _) (a := b5) (argsL := [(.long q1)]) (rest := [(.ref b5)]) (lenOf own_pd1 rfl) rfl (by show 2 * 0 + _ ≤ _; exact Nat.le_of_eq rfl) (hb hby own_d4_36) (fun _ _ => ⟨rfl, e5, (by decide : 1 + 0 ≤ _), (by decide : 1 + 0 ≤ _)⟩)
      dsimp only [Pt.U, Pt.locs, Pt.cells, Pt.slots] at X7 l7 y7 z7 st7 hQ7
      subst l7 y7 z7
      obtain ⟨h7, e7⟩ : ∃ h, T7.heap = h := ⟨_, rfl⟩
      rw [e7] at hQ7
      obtain ⟨rfl, Nq7, K7, P6_0⟩ := hQ7
      have N7 := Fr.app N0 Nq7
      refine own_fs st7 ?_
      show own_G p.tables e below _ (T7.setTop (mkF m 39 #[.val (.long q1), .second, .val (.int (128 : Int32))] [(.ref b5)]))
      exact own_retA X7 hx (t := (.object "java/lang/Long")) Bd.returns hlk rfl rfl (hb hby own_d4_39) (by decide) (by decide) e7 ⟨b5, rfl, N7, (((Keep.refl _ _).ext E5).trans K7 (allS (Or.inr gz_b5) all0)), (A5.keep K7), P6_0, (Exa.lt (A5.keep K7))⟩
    · refine own_fs (XS.ifNo X0.here hx rfl (hb hby own_d4_17) rfl (XT.ll_gt_f hc17) (Steps.refl _)) ?_
      obtain ⟨hin, ar, hat, hEx, hFl⟩ := own_boxAt hBx hOld hc9 hc17
      show own_G p.tables e below _ (s₁.setTop (mkF m 20 #[.val (.long q1), .second, .val (.int (128 : Int32))] []))
      obtain ⟨T9, X9, e9, st9⟩ := getS2 X0 hx hZ hown (host := "") (Or.inl (hw _ (List.mem_of_getElem? (i := 45) rfl))) Via.refl e0 (Sta.ext hOld.2 hSta) (g := (mkF m 20 #[.val (.long q1), .second, .val (.int (128 : Int32))] [])) rfl (hb hby own_d4_20)
      refine own_fs (st9 _ (Steps.refl _)) ?_
      show own_G p.tables e below _ (T9.setTop (mkF m 23 #[.val (.long q1), .second, .val (.int (128 : Int32))] [(.ref cb)]))
      refine own_fs (XS.lloadN X9.here hx rfl (hb hby own_d4_23) rfl (Steps.refl _)) ?_
      show own_G p.tables e below _ (T9.setTop (mkF m 24 #[.val (.long q1), .second, .val (.int (128 : Int32))] [(.long q1), (.ref cb)]))
      refine own_fs (XS.l2i X9.here hx rfl (hb hby own_d4_24) rfl (Steps.refl _)) ?_
      show own_G p.tables e below _ (T9.setTop (mkF m 25 #[.val (.long q1), .second, .val (.int (128 : Int32))] [(.int (q1.toInt32)), (.ref cb)]))
      refine own_fs (XS.sipush X9.here hx rfl (hb hby own_d4_25) (Steps.refl _)) ?_
      show own_G p.tables e below _ (T9.setTop (mkF m 28 #[.val (.long q1), .second, .val (.int (128 : Int32))] [(.int (128 : Int32)), (.int (q1.toInt32)), (.ref cb)]))
      refine own_fs (XS.iadd X9.here hx rfl (hb hby own_d4_28) rfl (Steps.refl _)) ?_
      show own_G p.tables e below _ (T9.setTop (mkF m 29 #[.val (.long q1), .second, .val (.int (128 : Int32))] [(.int ((q1.toInt32) + (128 : Int32))), (.ref cb)]))
      refine own_fs (X9.aaload hx (j := ((q1.toInt32) + (128 : Int32))) (v := (.ref ar)) (by rw [e9]; exact (Arr.ext hOld.2 hBx.1).1) (State.isArrayOf_alike hZ.alike (Arr.ext hOld.2 hBx.1).2.1) rfl (Arr.ext hOld.2 hBx.1).2.2 hin hat (g := (mkF m 29 #[.val (.long q1), .second, .val (.int (128 : Int32))] [(.int ((q1.toInt32) + (128 : Int32))), (.ref cb)])) rfl rfl (hb hby own_d4_29) _ (Steps.refl _)) ?_
      show own_G p.tables e below _ (T9.setTop (mkF m 30 #[.val (.long q1), .second, .val (.int (128 : Int32))] [(.ref ar)]))
      exact own_retA X9 hx (t := (.object "java/lang/Long")) Bd.returns hlk rfl rfl (hb hby own_d4_30) (by decide) (by decide) e9 ⟨ar, rfl, N0, (Keep.refl _ _), hEx, hFl, (Exa.lt hEx)⟩
theorem own_init_ef (m : MethodId) (x0 : Addr) (x1 : Int64) (x2 : Int64) : entryFrame m #[(.ref x0), (.long x1), (.long x2)] 5 = mkF m 0 #[.val (.ref x0), .val (.long x1), .second, .val (.long x2), .second] [] := by first | (simp [entryFrame, mkF, argsToLocals, Value.category]; done) | rfl
def own_init_Q (Z : State) (a1 : Addr) (q1 : Int64) (q2 : Int64) (u1 : Int64) (u2 : Int64) (h0 : Heap) (n0 : Nat) (v : Option Value) (h : Heap) (L : List Loc) : Prop := (v = none ∧ Fr n0 L ∧ Keep h0 h [a1] ∧ (Fld Z h a1 "com/example/dibs/dibs/namespace/RequestId" "client" "J" (.long q1)) ∧ (Fld Z h a1 "com/example/dibs/dibs/namespace/RequestId" "number" "J" (.long q2)))
set_option maxRecDepth 65536 in
set_option maxHeartbeats 40000000 in
theorem own_init (l : Launch) (Z : State) (a0 : Array Value) (hw : ∀ d ∈ tables_1, d.before a0 Z = true) (ws : List Jvm.Cond) (a1 : Addr) (q1 : Int64) (q2 : Int64) (u1 : Int64) (u2 : Int64) (h0 : Heap) (n0 : Nat) (Z0 : n0 ≤ h0.size) (hE_a1 : Exa Z h0 a1 "com/example/dibs/dibs/namespace/RequestId") (hF_client_a1 : Fld Z h0 a1 "com/example/dibs/dibs/namespace/RequestId" "client" "J" (.long u1)) (hF_number_a1 : Fld Z h0 a1 "com/example/dibs/dibs/namespace/RequestId" "number" "J" (.long u2)) (ge_a1 : n0 ≤ a1) (hpos : (0 : Int64) < q1) (hnn : ¬ (q2 < (0 : Int64))) :
    MetFree l (⟨"com/example/dibs/dibs/namespace/RequestId", "<init>", "(JJ)V"⟩ : MethodName) (head1 (Jvm.Cond.code (⟨"com/example/dibs/dibs/namespace/RequestId", "<init>", "(JJ)V"⟩ : MethodName) prog_44_method_1_code 5 none :: ws) ({ frames := 1, cells := 0, slots := 0, locals := 12 } : Room)) (fun a U => a = #[(.ref a1), (.long q1), (.long q2)] ∧ Z.Warmed39 U.vm ∧ U.heap = h0) (fun _ _ _ _ _ => True) (fun _ U o U' => ∃ v L, o = .returned v ∧ own_init_Q Z a1 q1 q2 u1 u2 h0 n0 v U'.heap L ∧ FrameEnd U o U' L ({ frames := 1, cells := 0, slots := 0, locals := 12 } : Room).cells ({ frames := 1, cells := 0, slots := 0, locals := 12 } : Room).slots) := by
  refine MetFree.of_bodySF (plainFor_of_name own_pn2) hisR ?_
  intro p e s m args below meth c s₁ Bd hml0 hP hK
  obtain ⟨rfl, hZ, hh⟩ := hP
  have hx := Bd.exec
  have hby := Bd.bytes
  have hlk : meth.locks = false := BodyLoose.notSynchronized Bd
  have hml : c.maxLocals = 5 := hml0
  have hown : s.vm.findClass "com/example/dibs/dibs/namespace/RequestId" = some m.cls := findClass_of_methodNamed Bd.named
  have hnm := (name_of_methodNamed Bd.named Bd.method).1
  have X0 : Stand p l e ({ frames := 1, cells := 0, slots := 0, locals := 12 } : Room) s m #[(.ref a1), (.long q1), (.long q2)] below meth c s₁ [] 0 0 := Stand.of_body Bd
  have e0 : s₁.heap = h0 := by rw [← hh, Bd.state]; rfl
  have N0 := Fr.nil n0
  refine own_start (QQ := own_init_Q Z a1 q1 q2 u1 u2 h0 n0) (rc := ({ frames := 1, cells := 0, slots := 0, locals := 12 } : Room).cells) (rs := ({ frames := 1, cells := 0, slots := 0, locals := 12 } : Room).slots) (own_init_ef m a1 q1 q2 ) ?_
  show own_G p.tables e below _ (s₁.setTop (mkF m 0 #[.val (.ref a1), .val (.long q1), .second, .val (.long q2), .second] []))
  refine own_fs (XS.aloadN X0.here hx rfl (hb hby own_d1_0) rfl rfl (Steps.refl _)) ?_
  show own_G p.tables e below _ (s₁.setTop (mkF m 1 #[.val (.ref a1), .val (.long q1), .second, .val (.long q2), .second] [(.ref a1)]))
  obtain ⟨T1, X1, e1, st1⟩ := initO X0 hx hZ hown (hw _ (List.mem_of_getElem? (i := 7) rfl)) (hw _ (List.mem_of_getElem? (i := 8) rfl)) (hw _ (List.mem_of_getElem? (i := 9) rfl)) e0 (g := (mkF m 1 #[.val (.ref a1), .val (.long q1), .second, .val (.long q2), .second] [(.ref a1)])) rfl (by rw [hml]; rfl) rfl (hb hby own_d1_1) (by decide) (W := 0) (by show 2 * 0 + _ ≤ _; exact Nat.le_of_eq rfl) (by decide)
  refine own_fs (st1 _ (Steps.refl _)) ?_
  show own_G p.tables e below _ (T1.setTop (mkF m 4 #[.val (.ref a1), .val (.long q1), .second, .val (.long q2), .second] []))
  refine own_fs (XS.lloadN X1.here hx rfl (hb hby own_d1_4) rfl (Steps.refl _)) ?_
  show own_G p.tables e below _ (T1.setTop (mkF m 5 #[.val (.ref a1), .val (.long q1), .second, .val (.long q2), .second] [(.long q1)]))
  refine own_fs (XS.lconst X1.here hx rfl (hb hby own_d1_5) (Steps.refl _)) ?_
  show own_G p.tables e below _ (T1.setTop (mkF m 6 #[.val (.ref a1), .val (.long q1), .second, .val (.long q2), .second] [(.long (0 : Int64)), (.long q1)]))
  refine own_fs (XT.lcmp X1.here hx rfl (hb hby own_d1_6) rfl (Steps.refl _)) ?_
  show own_G p.tables e below _ (T1.setTop (mkF m 7 #[.val (.ref a1), .val (.long q1), .second, .val (.long q2), .second] [(.int (XT.cmpL q1 (0 : Int64)))]))
  refine own_fs (XS.ifNo X1.here hx rfl (hb hby own_d1_7) rfl (XT.ll_le_f hpos) (Steps.refl _)) ?_
  show own_G p.tables e below _ (T1.setTop (mkF m 10 #[.val (.ref a1), .val (.long q1), .second, .val (.long q2), .second] []))
  refine own_fs (XS.lloadN X1.here hx rfl (hb hby own_d1_10) rfl (Steps.refl _)) ?_
  show own_G p.tables e below _ (T1.setTop (mkF m 11 #[.val (.ref a1), .val (.long q1), .second, .val (.long q2), .second] [(.long q2)]))
  refine own_fs (XS.lconst X1.here hx rfl (hb hby own_d1_11) (Steps.refl _)) ?_
  show own_G p.tables e below _ (T1.setTop (mkF m 12 #[.val (.ref a1), .val (.long q1), .second, .val (.long q2), .second] [(.long (0 : Int64)), (.long q2)]))
  refine own_fs (XT.lcmp X1.here hx rfl (hb hby own_d1_12) rfl (Steps.refl _)) ?_
  show own_G p.tables e below _ (T1.setTop (mkF m 13 #[.val (.ref a1), .val (.long q1), .second, .val (.long q2), .second] [(.int (XT.cmpL q2 (0 : Int64)))]))
  refine own_fs (XS.ifYes X1.here hx rfl (pc0 := 13) (pc' := 31) rfl (hb hby own_d1_13) rfl (XT.ll_ge_t hnn) (by decide) (by decide) (Steps.refl _)) ?_
  show own_G p.tables e below _ (T1.setTop (mkF m 31 #[.val (.ref a1), .val (.long q1), .second, .val (.long q2), .second] []))
  refine own_fs (XS.aloadN X1.here hx rfl (hb hby own_d1_31) rfl rfl (Steps.refl _)) ?_
  show own_G p.tables e below _ (T1.setTop (mkF m 32 #[.val (.ref a1), .val (.long q1), .second, .val (.long q2), .second] [(.ref a1)]))
  refine own_fs (XS.lloadN X1.here hx rfl (hb hby own_d1_32) rfl (Steps.refl _)) ?_
  show own_G p.tables e below _ (T1.setTop (mkF m 33 #[.val (.ref a1), .val (.long q1), .second, .val (.long q2), .second] [(.long q1), (.ref a1)]))
  obtain ⟨T2, h2, X2, e2, W2, st2⟩ := putF X1 hx hZ hown (host := "") (Or.inl (hw _ (List.mem_of_getElem? (i := 10) rfl))) Via.refl e1 hF_client_a1 hE_a1 (Or.inr ⟨(hw _ (List.mem_of_getElem? (i := 11) rfl)), rfl, hnm⟩) (hw _ (List.mem_of_getElem? (i := 2) rfl)) (ty := .long) (by decide) rfl rfl (g := (mkF m 33 #[.val (.ref a1), .val (.long q1), .second, .val (.long q2), .second] [(.long q1), (.ref a1)])) rfl rfl (hb hby own_d1_33)
  refine own_fs (st2 _ (Steps.refl _)) ?_
  have Fw2 := Fld.same W2 hF_client_a1
  have N2 := Fr.snoc X2 N0 ge_a1
  show own_G p.tables e below _ (T2.setTop (mkF m 36 #[.val (.ref a1), .val (.long q1), .second, .val (.long q2), .second] []))
  refine own_fs (XS.aloadN X2.here hx rfl (hb hby own_d1_36) rfl rfl (Steps.refl _)) ?_
  show own_G p.tables e below _ (T2.setTop (mkF m 37 #[.val (.ref a1), .val (.long q1), .second, .val (.long q2), .second] [(.ref a1)]))
  refine own_fs (XS.lloadN X2.here hx rfl (hb hby own_d1_37) rfl (Steps.refl _)) ?_
  show own_G p.tables e below _ (T2.setTop (mkF m 38 #[.val (.ref a1), .val (.long q1), .second, .val (.long q2), .second] [(.long q2), (.ref a1)]))
  obtain ⟨T3, h3, X3, e3, W3, st3⟩ := putF X2 hx hZ hown (host := "") (Or.inl (hw _ (List.mem_of_getElem? (i := 12) rfl))) Via.refl e2 (Fld.other W2 hF_number_a1 (Or.inr (slot_ne (Or.inr (hw _ (List.mem_of_getElem? (i := 13) rfl))) (Or.inr (hw _ (List.mem_of_getElem? (i := 11) rfl))) (by decide) (t := .long) (t' := .long) (by decide) (by decide)))) (Exa.wr W2 hE_a1) (Or.inr ⟨(hw _ (List.mem_of_getElem? (i := 13) rfl)), rfl, hnm⟩) (hw _ (List.mem_of_getElem? (i := 2) rfl)) (ty := .long) (by decide) rfl rfl (g := (mkF m 38 #[.val (.ref a1), .val (.long q1), .second, .val (.long q2), .second] [(.long q2), (.ref a1)])) rfl rfl (hb hby own_d1_38)
  refine own_fs (st3 _ (Steps.refl _)) ?_
  have Fw3 := Fld.same W3 (Fld.other W2 hF_number_a1 (Or.inr (slot_ne (Or.inr (hw _ (List.mem_of_getElem? (i := 13) rfl))) (Or.inr (hw _ (List.mem_of_getElem? (i := 11) rfl))) (by decide) (t := .long) (t' := .long) (by decide) (by decide))))
  have N3 := Fr.snoc X3 N2 ge_a1
  show own_G p.tables e below _ (T3.setTop (mkF m 41 #[.val (.ref a1), .val (.long q1), .second, .val (.long q2), .second] []))
  exact own_retV X3 hx Bd.returns hlk (hb hby own_d1_41) (by decide) (by decide) e3 ⟨rfl, N3, (((Keep.refl _ _).wr W2 (Or.inl (List.mem_of_getElem? (i := 0) rfl))).wr W3 (Or.inl (List.mem_of_getElem? (i := 0) rfl))), (Fld.other W3 Fw2 (Or.inr (slot_ne (Or.inr (hw _ (List.mem_of_getElem? (i := 11) rfl))) (Or.inr (hw _ (List.mem_of_getElem? (i := 13) rfl))) (by decide) (t := .long) (t' := .long) (by decide) (by decide)))), Fw3⟩
theorem own_equals_ef (m : MethodId) (x0 : Addr) (x1 : Addr) : entryFrame m #[(.ref x0), (.ref x1)] 2 = mkF m 0 #[.val (.ref x0), .val (.ref x1)] [] := by first | (simp [entryFrame, mkF, argsToLocals, Value.category]; done) | rfl
def own_equals_Q (Z : State) (a1 : Addr) (c1 : Int64) (n1 : Int64) (a2 : Addr) (c2 : Int64) (n2 : Int64) (h0 : Heap) (n0 : Nat) (v : Option Value) (h : Heap) (L : List Loc) : Prop := (v = some (.int (own_eq c1 n1 c2 n2)) ∧ Fr n0 L ∧ h = h0)
set_option maxRecDepth 65536 in
set_option maxHeartbeats 40000000 in
theorem own_equals (l : Launch) (Z : State) (a0 : Array Value) (hw : ∀ d ∈ tables_1, d.before a0 Z = true) (ws : List Jvm.Cond) (a1 : Addr) (c1 : Int64) (n1 : Int64) (a2 : Addr) (c2 : Int64) (n2 : Int64) (h0 : Heap) (n0 : Nat) (Z0 : n0 ≤ h0.size) (hF_client_a1 : Fld Z h0 a1 "com/example/dibs/dibs/namespace/RequestId" "client" "J" (.long c1)) (hF_number_a1 : Fld Z h0 a1 "com/example/dibs/dibs/namespace/RequestId" "number" "J" (.long n1)) (hF_client_a2 : Fld Z h0 a2 "com/example/dibs/dibs/namespace/RequestId" "client" "J" (.long c2)) (hF_number_a2 : Fld Z h0 a2 "com/example/dibs/dibs/namespace/RequestId" "number" "J" (.long n2)) (hE_a2 : Exa Z h0 a2 "com/example/dibs/dibs/namespace/RequestId") :
    MetFree l (⟨"com/example/dibs/dibs/namespace/RequestId", "equals", "(Ljava/lang/Object;)Z"⟩ : MethodName) (head1 (Jvm.Cond.code (⟨"com/example/dibs/dibs/namespace/RequestId", "equals", "(Ljava/lang/Object;)Z"⟩ : MethodName) prog_44_method_5_code 2 (some .boolean) :: ws) ({ frames := 0, cells := 0, slots := 0, locals := 0 } : Room)) (fun a U => a = #[(.ref a1), (.ref a2)] ∧ Z.Warmed39 U.vm ∧ U.heap = h0) (fun _ _ _ _ _ => True) (fun _ U o U' => ∃ v L, o = .returned v ∧ own_equals_Q Z a1 c1 n1 a2 c2 n2 h0 n0 v U'.heap L ∧ FrameEnd U o U' L ({ frames := 0, cells := 0, slots := 0, locals := 0 } : Room).cells ({ frames := 0, cells := 0, slots := 0, locals := 0 } : Room).slots) := by
  refine MetFree.of_bodySF (plainFor_of_name own_pn2) hisR ?_
  intro p e s m args below meth c s₁ Bd hml0 hP hK
  obtain ⟨rfl, hZ, hh⟩ := hP
  have hx := Bd.exec
  have hby := Bd.bytes
  have hlk : meth.locks = false := BodyLoose.notSynchronized Bd
  have hml : c.maxLocals = 2 := hml0
  have hown : s.vm.findClass "com/example/dibs/dibs/namespace/RequestId" = some m.cls := findClass_of_methodNamed Bd.named
  have hnm := (name_of_methodNamed Bd.named Bd.method).1
  have X0 : Stand p l e ({ frames := 0, cells := 0, slots := 0, locals := 0 } : Room) s m #[(.ref a1), (.ref a2)] below meth c s₁ [] 0 0 := Stand.of_body Bd
  have e0 : s₁.heap = h0 := by rw [← hh, Bd.state]; rfl
  have N0 := Fr.nil n0
  refine own_start (QQ := own_equals_Q Z a1 c1 n1 a2 c2 n2 h0 n0) (rc := ({ frames := 0, cells := 0, slots := 0, locals := 0 } : Room).cells) (rs := ({ frames := 0, cells := 0, slots := 0, locals := 0 } : Room).slots) (own_equals_ef m a1 a2 ) ?_
  show own_G p.tables e below _ (s₁.setTop (mkF m 0 #[.val (.ref a1), .val (.ref a2)] []))
  refine own_fs (XS.aloadN X0.here hx rfl (hb hby own_d3_0) rfl rfl (Steps.refl _)) ?_
  show own_G p.tables e below _ (s₁.setTop (mkF m 1 #[.val (.ref a1), .val (.ref a2)] [(.ref a2)]))
  obtain ⟨T1, X1, e1, st1⟩ := instY X0 hx hZ hown (hw _ (List.mem_of_getElem? (i := 19) rfl)) e0 (Ins.self hE_a2) (g := (mkF m 1 #[.val (.ref a1), .val (.ref a2)] [(.ref a2)])) rfl rfl (hb hby own_d3_1)
  refine own_fs (st1 _ (Steps.refl _)) ?_
  show own_G p.tables e below _ (T1.setTop (mkF m 4 #[.val (.ref a1), .val (.ref a2)] [(.int (1 : Int32))]))
  refine own_fs (XS.ifNo X1.here hx rfl (hb hby own_d3_4) rfl (XT.i0_eq_f (by decide : ¬ ((1 : Int32) = (0 : Int32)))) (Steps.refl _)) ?_
  show own_G p.tables e below _ (T1.setTop (mkF m 7 #[.val (.ref a1), .val (.ref a2)] []))
  refine own_fs (XS.aloadN X1.here hx rfl (hb hby own_d3_7) rfl rfl (Steps.refl _)) ?_
  show own_G p.tables e below _ (T1.setTop (mkF m 8 #[.val (.ref a1), .val (.ref a2)] [(.ref a2)]))
  obtain ⟨T2, X2, e2, st2⟩ := castY X1 hx hZ hown (hw _ (List.mem_of_getElem? (i := 19) rfl)) e1 (Ins.self hE_a2) (g := (mkF m 8 #[.val (.ref a1), .val (.ref a2)] [(.ref a2)])) rfl rfl (hb hby own_d3_8)
  refine own_fs (st2 _ (Steps.refl _)) ?_
  show own_G p.tables e below _ (T2.setTop (mkF m 11 #[.val (.ref a1), .val (.ref a2)] [(.ref a2)]))
  obtain ⟨T3, X3, e3, st3⟩ := getF X2 hx hZ hown (host := "") (Or.inl (hw _ (List.mem_of_getElem? (i := 10) rfl))) Via.refl e2 hF_client_a2 (g := (mkF m 11 #[.val (.ref a1), .val (.ref a2)] [(.ref a2)])) rfl rfl (hb hby own_d3_11)
  refine own_fs (st3 _ (Steps.refl _)) ?_
  show own_G p.tables e below _ (T3.setTop (mkF m 14 #[.val (.ref a1), .val (.ref a2)] [(.long c2)]))
  refine own_fs (XS.aloadN X3.here hx rfl (hb hby own_d3_14) rfl rfl (Steps.refl _)) ?_
  show own_G p.tables e below _ (T3.setTop (mkF m 15 #[.val (.ref a1), .val (.ref a2)] [(.ref a1), (.long c2)]))
  obtain ⟨T4, X4, e4, st4⟩ := getF X3 hx hZ hown (host := "") (Or.inl (hw _ (List.mem_of_getElem? (i := 10) rfl))) Via.refl e3 hF_client_a1 (g := (mkF m 15 #[.val (.ref a1), .val (.ref a2)] [(.ref a1), (.long c2)])) rfl rfl (hb hby own_d3_15)
  refine own_fs (st4 _ (Steps.refl _)) ?_
  show own_G p.tables e below _ (T4.setTop (mkF m 18 #[.val (.ref a1), .val (.ref a2)] [(.long c1), (.long c2)]))
  refine own_fs (XT.lcmp X4.here hx rfl (hb hby own_d3_18) rfl (Steps.refl _)) ?_
  show own_G p.tables e below _ (T4.setTop (mkF m 19 #[.val (.ref a1), .val (.ref a2)] [(.int (XT.cmpL c2 c1))]))
  by_cases hc19 : c2 = c1
  · refine own_fs (XS.ifNo X4.here hx rfl (hb hby own_d3_19) rfl (XT.ll_ne_f hc19) (Steps.refl _)) ?_
    show own_G p.tables e below _ (T4.setTop (mkF m 22 #[.val (.ref a1), .val (.ref a2)] []))
    refine own_fs (XS.aloadN X4.here hx rfl (hb hby own_d3_22) rfl rfl (Steps.refl _)) ?_
    show own_G p.tables e below _ (T4.setTop (mkF m 23 #[.val (.ref a1), .val (.ref a2)] [(.ref a2)]))
    obtain ⟨T5, X5, e5, st5⟩ := castY X4 hx hZ hown (hw _ (List.mem_of_getElem? (i := 19) rfl)) e4 (Ins.self hE_a2) (g := (mkF m 23 #[.val (.ref a1), .val (.ref a2)] [(.ref a2)])) rfl rfl (hb hby own_d3_23)
    refine own_fs (st5 _ (Steps.refl _)) ?_
    show own_G p.tables e below _ (T5.setTop (mkF m 26 #[.val (.ref a1), .val (.ref a2)] [(.ref a2)]))
    obtain ⟨T6, X6, e6, st6⟩ := getF X5 hx hZ hown (host := "") (Or.inl (hw _ (List.mem_of_getElem? (i := 12) rfl))) Via.refl e5 hF_number_a2 (g := (mkF m 26 #[.val (.ref a1), .val (.ref a2)] [(.ref a2)])) rfl rfl (hb hby own_d3_26)
    refine own_fs (st6 _ (Steps.refl _)) ?_
    show own_G p.tables e below _ (T6.setTop (mkF m 29 #[.val (.ref a1), .val (.ref a2)] [(.long n2)]))
    refine own_fs (XS.aloadN X6.here hx rfl (hb hby own_d3_29) rfl rfl (Steps.refl _)) ?_
    show own_G p.tables e below _ (T6.setTop (mkF m 30 #[.val (.ref a1), .val (.ref a2)] [(.ref a1), (.long n2)]))
    obtain ⟨T7, X7, e7, st7⟩ := getF X6 hx hZ hown (host := "") (Or.inl (hw _ (List.mem_of_getElem? (i := 12) rfl))) Via.refl e6 hF_number_a1 (g := (mkF m 30 #[.val (.ref a1), .val (.ref a2)] [(.ref a1), (.long n2)])) rfl rfl (hb hby own_d3_30)
    refine own_fs (st7 _ (Steps.refl _)) ?_
    show own_G p.tables e below _ (T7.setTop (mkF m 33 #[.val (.ref a1), .val (.ref a2)] [(.long n1), (.long n2)]))
    refine own_fs (XT.lcmp X7.here hx rfl (hb hby own_d3_33) rfl (Steps.refl _)) ?_
    show own_G p.tables e below _ (T7.setTop (mkF m 34 #[.val (.ref a1), .val (.ref a2)] [(.int (XT.cmpL n2 n1))]))
    by_cases hc34 : n2 = n1
    · refine own_fs (XS.ifNo X7.here hx rfl (hb hby own_d3_34) rfl (XT.ll_ne_f hc34) (Steps.refl _)) ?_
      show own_G p.tables e below _ (T7.setTop (mkF m 37 #[.val (.ref a1), .val (.ref a2)] []))
      refine own_fs (XS.iconst X7.here hx rfl (hb hby own_d3_37) (Steps.refl _)) ?_
      show own_G p.tables e below _ (T7.setTop (mkF m 38 #[.val (.ref a1), .val (.ref a2)] [(.int (1 : Int32))]))
      refine own_fs (XS.goto X7.here hx rfl (pc0 := 38) (pc' := 42) rfl (hb hby own_d3_38) (by decide) (by decide) (Steps.refl _)) ?_
      show own_G p.tables e below _ (T7.setTop (mkF m 42 #[.val (.ref a1), .val (.ref a2)] [(.int (1 : Int32))]))
      exact own_retN X7 hx (t := .boolean) Bd.returns hlk (by simp) (hb hby own_d3_42) (by decide) (by decide) e7 ⟨(by simp only [own_eq, own_nar0, own_nar1, if_pos hc19, if_pos hc34]), N0, rfl⟩
    · refine own_fs (XS.ifYes X7.here hx rfl (pc0 := 34) (pc' := 41) rfl (hb hby own_d3_34) rfl (XT.ll_ne_t hc34) (by decide) (by decide) (Steps.refl _)) ?_
      show own_G p.tables e below _ (T7.setTop (mkF m 41 #[.val (.ref a1), .val (.ref a2)] []))
      refine own_fs (XS.iconst X7.here hx rfl (hb hby own_d3_41) (Steps.refl _)) ?_
      show own_G p.tables e below _ (T7.setTop (mkF m 42 #[.val (.ref a1), .val (.ref a2)] [(.int (0 : Int32))]))
      exact own_retN X7 hx (t := .boolean) Bd.returns hlk (by simp) (hb hby own_d3_42) (by decide) (by decide) e7 ⟨(by simp only [own_eq, own_nar0, own_nar1, if_neg hc34, if_pos hc19]), N0, rfl⟩
  · refine own_fs (XS.ifYes X4.here hx rfl (pc0 := 19) (pc' := 41) rfl (hb hby own_d3_19) rfl (XT.ll_ne_t hc19) (by decide) (by decide) (Steps.refl _)) ?_
    show own_G p.tables e below _ (T4.setTop (mkF m 41 #[.val (.ref a1), .val (.ref a2)] []))
    refine own_fs (XS.iconst X4.here hx rfl (hb hby own_d3_41) (Steps.refl _)) ?_
    show own_G p.tables e below _ (T4.setTop (mkF m 42 #[.val (.ref a1), .val (.ref a2)] [(.int (0 : Int32))]))
    exact own_retN X4 hx (t := .boolean) Bd.returns hlk (by simp) (hb hby own_d3_42) (by decide) (by decide) e4 ⟨(by simp only [own_eq, own_nar0, own_nar1, if_neg hc19]), N0, rfl⟩
theorem own_eqnull_ef (m : MethodId) (x0 : Addr) : entryFrame m #[(.ref x0), .null] 2 = mkF m 0 #[.val (.ref x0), .val .null] [] := by first | (simp [entryFrame, mkF, argsToLocals, Value.category]; done) | rfl
def own_eqnull_Q (Z : State) (a1 : Addr) (h0 : Heap) (n0 : Nat) (v : Option Value) (h : Heap) (L : List Loc) : Prop := (v = some (.int (0 : Int32)) ∧ Fr n0 L ∧ h = h0)
set_option maxRecDepth 65536 in
set_option maxHeartbeats 40000000 in
theorem own_eqnull (l : Launch) (Z : State) (a0 : Array Value) (hw : ∀ d ∈ tables_1, d.before a0 Z = true) (ws : List Jvm.Cond) (a1 : Addr) (h0 : Heap) (n0 : Nat) (Z0 : n0 ≤ h0.size)  :
    MetFree l (⟨"com/example/dibs/dibs/namespace/RequestId", "equals", "(Ljava/lang/Object;)Z"⟩ : MethodName) (head1 (Jvm.Cond.code (⟨"com/example/dibs/dibs/namespace/RequestId", "equals", "(Ljava/lang/Object;)Z"⟩ : MethodName) prog_44_method_5_code 2 (some .boolean) :: ws) ({ frames := 0, cells := 0, slots := 0, locals := 0 } : Room)) (fun a U => a = #[(.ref a1), .null] ∧ Z.Warmed39 U.vm ∧ U.heap = h0) (fun _ _ _ _ _ => True) (fun _ U o U' => ∃ v L, o = .returned v ∧ own_eqnull_Q Z a1 h0 n0 v U'.heap L ∧ FrameEnd U o U' L ({ frames := 0, cells := 0, slots := 0, locals := 0 } : Room).cells ({ frames := 0, cells := 0, slots := 0, locals := 0 } : Room).slots) := by
  refine MetFree.of_bodySF (plainFor_of_name own_pn2) hisR ?_
  intro p e s m args below meth c s₁ Bd hml0 hP hK
  obtain ⟨rfl, hZ, hh⟩ := hP
  have hx := Bd.exec
  have hby := Bd.bytes
  have hlk : meth.locks = false := BodyLoose.notSynchronized Bd
  have hml : c.maxLocals = 2 := hml0
  have hown : s.vm.findClass "com/example/dibs/dibs/namespace/RequestId" = some m.cls := findClass_of_methodNamed Bd.named
  have hnm := (name_of_methodNamed Bd.named Bd.method).1
  have X0 : Stand p l e ({ frames := 0, cells := 0, slots := 0, locals := 0 } : Room) s m #[(.ref a1), .null] below meth c s₁ [] 0 0 := Stand.of_body Bd
  have e0 : s₁.heap = h0 := by rw [← hh, Bd.state]; rfl
  have N0 := Fr.nil n0
  refine own_start (QQ := own_eqnull_Q Z a1 h0 n0) (rc := ({ frames := 0, cells := 0, slots := 0, locals := 0 } : Room).cells) (rs := ({ frames := 0, cells := 0, slots := 0, locals := 0 } : Room).slots) (own_eqnull_ef m a1 ) ?_
  show own_G p.tables e below _ (s₁.setTop (mkF m 0 #[.val (.ref a1), .val .null] []))
  refine own_fs (XS.aloadN X0.here hx rfl (hb hby own_d3_0) rfl rfl (Steps.refl _)) ?_
  show own_G p.tables e below _ (s₁.setTop (mkF m 1 #[.val (.ref a1), .val .null] [.null]))
  refine own_fs (X0.instanceofNull hx (g := (mkF m 1 #[.val (.ref a1), .val .null] [.null])) rfl rfl (hb hby own_d3_1) _ (Steps.refl _)) ?_
  show own_G p.tables e below _ (s₁.setTop (mkF m 4 #[.val (.ref a1), .val .null] [(.int (0 : Int32))]))
  refine own_fs (XS.ifYes X0.here hx rfl (pc0 := 4) (pc' := 41) rfl (hb hby own_d3_4) rfl (XT.i0_eq_t (by decide : (0 : Int32) = (0 : Int32))) (by decide) (by decide) (Steps.refl _)) ?_
  show own_G p.tables e below _ (s₁.setTop (mkF m 41 #[.val (.ref a1), .val .null] []))
  refine own_fs (XS.iconst X0.here hx rfl (hb hby own_d3_41) (Steps.refl _)) ?_
  show own_G p.tables e below _ (s₁.setTop (mkF m 42 #[.val (.ref a1), .val .null] [(.int (0 : Int32))]))
  exact own_retN X0 hx (t := .boolean) Bd.returns hlk (by simp) (hb hby own_d3_42) (by decide) (by decide) e0 ⟨rfl, N0, rfl⟩
theorem own_eqlong_ef (m : MethodId) (x0 : Addr) (x1 : Addr) : entryFrame m #[(.ref x0), (.ref x1)] 2 = mkF m 0 #[.val (.ref x0), .val (.ref x1)] [] := by first | (simp [entryFrame, mkF, argsToLocals, Value.category]; done) | rfl
def own_eqlong_Q (Z : State) (a1 : Addr) (a2 : Addr) (h0 : Heap) (n0 : Nat) (v : Option Value) (h : Heap) (L : List Loc) : Prop := (v = some (.int (0 : Int32)) ∧ Fr n0 L ∧ h = h0)
set_option maxRecDepth 65536 in
set_option maxHeartbeats 40000000 in
theorem own_eqlong (l : Launch) (Z : State) (a0 : Array Value) (hw : ∀ d ∈ tables_1, d.before a0 Z = true) (ws : List Jvm.Cond) (a1 : Addr) (a2 : Addr) (h0 : Heap) (n0 : Nat) (Z0 : n0 ≤ h0.size) (hE_a2 : Exa Z h0 a2 "java/lang/Long") :
    MetFree l (⟨"com/example/dibs/dibs/namespace/RequestId", "equals", "(Ljava/lang/Object;)Z"⟩ : MethodName) (head1 (Jvm.Cond.code (⟨"com/example/dibs/dibs/namespace/RequestId", "equals", "(Ljava/lang/Object;)Z"⟩ : MethodName) prog_44_method_5_code 2 (some .boolean) :: ws) ({ frames := 0, cells := 0, slots := 0, locals := 0 } : Room)) (fun a U => a = #[(.ref a1), (.ref a2)] ∧ Z.Warmed39 U.vm ∧ U.heap = h0) (fun _ _ _ _ _ => True) (fun _ U o U' => ∃ v L, o = .returned v ∧ own_eqlong_Q Z a1 a2 h0 n0 v U'.heap L ∧ FrameEnd U o U' L ({ frames := 0, cells := 0, slots := 0, locals := 0 } : Room).cells ({ frames := 0, cells := 0, slots := 0, locals := 0 } : Room).slots) := by
  refine MetFree.of_bodySF (plainFor_of_name own_pn2) hisR ?_
  intro p e s m args below meth c s₁ Bd hml0 hP hK
  obtain ⟨rfl, hZ, hh⟩ := hP
  have hx := Bd.exec
  have hby := Bd.bytes
  have hlk : meth.locks = false := BodyLoose.notSynchronized Bd
  have hml : c.maxLocals = 2 := hml0
  have hown : s.vm.findClass "com/example/dibs/dibs/namespace/RequestId" = some m.cls := findClass_of_methodNamed Bd.named
  have hnm := (name_of_methodNamed Bd.named Bd.method).1
  have X0 : Stand p l e ({ frames := 0, cells := 0, slots := 0, locals := 0 } : Room) s m #[(.ref a1), (.ref a2)] below meth c s₁ [] 0 0 := Stand.of_body Bd
  have e0 : s₁.heap = h0 := by rw [← hh, Bd.state]; rfl
  have N0 := Fr.nil n0
  refine own_start (QQ := own_eqlong_Q Z a1 a2 h0 n0) (rc := ({ frames := 0, cells := 0, slots := 0, locals := 0 } : Room).cells) (rs := ({ frames := 0, cells := 0, slots := 0, locals := 0 } : Room).slots) (own_eqlong_ef m a1 a2 ) ?_
  show own_G p.tables e below _ (s₁.setTop (mkF m 0 #[.val (.ref a1), .val (.ref a2)] []))
  refine own_fs (XS.aloadN X0.here hx rfl (hb hby own_d3_0) rfl rfl (Steps.refl _)) ?_
  show own_G p.tables e below _ (s₁.setTop (mkF m 1 #[.val (.ref a1), .val (.ref a2)] [(.ref a2)]))
  obtain ⟨T1, X1, e1, st1⟩ := instNo X0 hx hZ hown (hw _ (List.mem_of_getElem? (i := 19) rfl)) e0 hE_a2 (own_notLong (hw _ (List.mem_of_getElem? (i := 44) rfl)) (hw _ (List.mem_of_getElem? (i := 43) rfl)) (hw _ (List.mem_of_getElem? (i := 42) rfl)) (hw _ (List.mem_of_getElem? (i := 2) rfl)) (by decide) (by decide) (by decide)) (g := (mkF m 1 #[.val (.ref a1), .val (.ref a2)] [(.ref a2)])) rfl rfl (hb hby own_d3_1)
  refine own_fs (st1 _ (Steps.refl _)) ?_
  show own_G p.tables e below _ (T1.setTop (mkF m 4 #[.val (.ref a1), .val (.ref a2)] [(.int (0 : Int32))]))
  refine own_fs (XS.ifYes X1.here hx rfl (pc0 := 4) (pc' := 41) rfl (hb hby own_d3_4) rfl (XT.i0_eq_t (by decide : (0 : Int32) = (0 : Int32))) (by decide) (by decide) (Steps.refl _)) ?_
  show own_G p.tables e below _ (T1.setTop (mkF m 41 #[.val (.ref a1), .val (.ref a2)] []))
  refine own_fs (XS.iconst X1.here hx rfl (hb hby own_d3_41) (Steps.refl _)) ?_
  show own_G p.tables e below _ (T1.setTop (mkF m 42 #[.val (.ref a1), .val (.ref a2)] [(.int (0 : Int32))]))
  exact own_retN X1 hx (t := .boolean) Bd.returns hlk (by simp) (hb hby own_d3_42) (by decide) (by decide) e1 ⟨rfl, N0, rfl⟩
theorem own_law_ef (m : MethodId) (x0 : Int64) (x1 : Int64) (x2 : Int64) (x3 : Int64) (x4 : Int32) : entryFrame m #[(.long x0), (.long x1), (.long x2), (.long x3), (.int x4)] maxLocals = mkF m 0 #[.val (.long x0), .second, .val (.long x1), .second, .val (.long x2), .second, .val (.long x3), .second, .val (.int x4), .unset, .unset, .unset, .unset, .unset, .unset, .unset, .unset, .unset, .unset, .unset, .unset, .unset] [] := by first | (simp [entryFrame, mkF, argsToLocals, Value.category, maxLocals]; done) | rfl
def own_law_Q (Z : State) (x0 : Int64) (y0 : Int64) (z0 : Int64) (w0 : Int64) (fl : Int32) (cb : Addr) (cc : Cell) (h0 : Heap) (n0 : Nat) (v : Option Value) (h : Heap) (L : List Loc) : Prop := (v = some (.int (1 : Int32)) ∧ Fr n0 L)
set_option maxRecDepth 65536 in
set_option maxHeartbeats 40000000 in
theorem own_law (l : Launch) (Z : State) (a0 : Array Value) (hw : ∀ d ∈ tables_1, d.before a0 Z = true) (ws : List Jvm.Cond) (x0 : Int64) (y0 : Int64) (z0 : Int64) (w0 : Int64) (fl : Int32) (cb : Addr) (cc : Cell) (h0 : Heap) (n0 : Nat) (Z0 : n0 ≤ h0.size) (hSta : Sta Z Z.heap "java/lang/Long$LongCache" "cache" "[Ljava/lang/Long;" (.ref cb)) (hBx : Bxs Z cb cc "java/lang/Long" "J" (256 : Int32) own_bv) (hOld : Old Z n0 h0) :
    MetFree l x (head1 (Jvm.Cond.code x code maxLocals ret :: ws) room_1) (fun a U => a = #[(.long x0), (.long y0), (.long z0), (.long w0), (.int fl)] ∧ Z.Warmed39 U.vm ∧ U.heap = h0) (fun _ _ _ _ _ => True) (fun _ U o U' => ∃ v L, o = .returned v ∧ own_law_Q Z x0 y0 z0 w0 fl cb cc h0 n0 v U'.heap L ∧ FrameEnd U o U' L room_1.cells room_1.slots) := by
  refine MetFree.of_bodySF (plainFor_of_name own_pn3) hisR ?_
  intro p e s m args below meth c s₁ Bd hml0 hP hK
  obtain ⟨rfl, hZ, hh⟩ := hP
  have hx := Bd.exec
  have hby := Bd.bytes
  have hlk : meth.locks = false := BodyLoose.notSynchronized Bd
  have hml : c.maxLocals = 22 := hml0
  have hown : s.vm.findClass "com/example/dibs/dibs/namespace/RequestIdEqualsPinLaw" = some m.cls := findClass_of_methodNamed Bd.named
  have hnm := (name_of_methodNamed Bd.named Bd.method).1
  have X0 : Stand p l e room_1 s m #[(.long x0), (.long y0), (.long z0), (.long w0), (.int fl)] below meth c s₁ [] 0 0 := Stand.of_body Bd
  have e0 : s₁.heap = h0 := by rw [← hh, Bd.state]; rfl
  have N0 := Fr.nil n0
  refine own_start (QQ := own_law_Q Z x0 y0 z0 w0 fl cb cc h0 n0) (rc := room_1.cells) (rs := room_1.slots) (own_law_ef m x0 y0 z0 w0 fl ) ?_
  have hn_x := own_maskn x0
  have J17 : ∀ (c1 : Int64) (hp_c1 : (0 : Int64) < c1), own_G p.tables e below (own_P s (own_law_Q Z x0 y0 z0 w0 fl cb cc h0 n0) room_1.cells room_1.slots) (s₁.setTop (mkF m 17 #[.val (.long x0), .second, .val (.long y0), .second, .val (.long z0), .second, .val (.long w0), .second, .val (.int fl), .val (.long c1), .second, .unset, .unset, .unset, .unset, .unset, .unset, .unset, .unset, .unset, .unset, .unset] [])) := by
    intro c1 hp_c1
    show own_G p.tables e below _ (s₁.setTop (mkF m 17 #[.val (.long x0), .second, .val (.long y0), .second, .val (.long z0), .second, .val (.long w0), .second, .val (.int fl), .val (.long c1), .second, .unset, .unset, .unset, .unset, .unset, .unset, .unset, .unset, .unset, .unset, .unset] []))
    refine own_fs (XS.lloadN X0.here hx rfl (hb hby at_17) rfl (Steps.refl _)) ?_
    show own_G p.tables e below _ (s₁.setTop (mkF m 18 #[.val (.long x0), .second, .val (.long y0), .second, .val (.long z0), .second, .val (.long w0), .second, .val (.int fl), .val (.long c1), .second, .unset, .unset, .unset, .unset, .unset, .unset, .unset, .unset, .unset, .unset, .unset] [(.long y0)]))
    refine own_fs (X0.ldc2Long hx hown (mvT hZ (hw _ (List.mem_of_getElem? (i := 0) rfl))) (g := (mkF m 18 #[.val (.long x0), .second, .val (.long y0), .second, .val (.long z0), .second, .val (.long w0), .second, .val (.int fl), .val (.long c1), .second, .unset, .unset, .unset, .unset, .unset, .unset, .unset, .unset, .unset, .unset, .unset] [(.long y0)])) rfl (hb hby at_18) _ (Steps.refl _)) ?_
    show own_G p.tables e below _ (s₁.setTop (mkF m 21 #[.val (.long x0), .second, .val (.long y0), .second, .val (.long z0), .second, .val (.long w0), .second, .val (.int fl), .val (.long c1), .second, .unset, .unset, .unset, .unset, .unset, .unset, .unset, .unset, .unset, .unset, .unset] [(.long (9223372036854775807 : Int64)), (.long y0)]))
    refine own_fs (XS.land X0.here hx rfl (hb hby at_21) rfl (Steps.refl _)) ?_
    show own_G p.tables e below _ (s₁.setTop (mkF m 22 #[.val (.long x0), .second, .val (.long y0), .second, .val (.long z0), .second, .val (.long w0), .second, .val (.int fl), .val (.long c1), .second, .unset, .unset, .unset, .unset, .unset, .unset, .unset, .unset, .unset, .unset, .unset] [(.long (y0 &&& (9223372036854775807 : Int64)))]))
    refine own_fs (XS.lstore X0.here hx rfl (hb hby at_22) rfl (l' := #[.val (.long x0), .second, .val (.long y0), .second, .val (.long z0), .second, .val (.long w0), .second, .val (.int fl), .val (.long c1), .second, .val (.long (y0 &&& (9223372036854775807 : Int64))), .second, .unset, .unset, .unset, .unset, .unset, .unset, .unset, .unset, .unset]) rfl (Steps.refl _)) ?_
    have hn_n1 := own_maskn y0
    show own_G p.tables e below _ (s₁.setTop (mkF m 24 #[.val (.long x0), .second, .val (.long y0), .second, .val (.long z0), .second, .val (.long w0), .second, .val (.int fl), .val (.long c1), .second, .val (.long (y0 &&& (9223372036854775807 : Int64))), .second, .unset, .unset, .unset, .unset, .unset, .unset, .unset, .unset, .unset] []))
    generalize hg_n1 : (y0 &&& (9223372036854775807 : Int64)) = n1 at hn_n1 ⊢
    have J42 : ∀ (y2 : Int64) (hy2 : ¬ (y2 < (0 : Int64))), own_G p.tables e below (own_P s (own_law_Q Z x0 y0 z0 w0 fl cb cc h0 n0) room_1.cells room_1.slots) (s₁.setTop (mkF m 42 #[.val (.long x0), .second, .val (.long y0), .second, .val (.long z0), .second, .val (.long w0), .second, .val (.int fl), .val (.long c1), .second, .val (.long n1), .second, .unset, .unset, .unset, .unset, .unset, .unset, .unset, .unset, .unset] [(.long y2)])) := by
      intro y2 hy2
      show own_G p.tables e below _ (s₁.setTop (mkF m 42 #[.val (.long x0), .second, .val (.long y0), .second, .val (.long z0), .second, .val (.long w0), .second, .val (.int fl), .val (.long c1), .second, .val (.long n1), .second, .unset, .unset, .unset, .unset, .unset, .unset, .unset, .unset, .unset] [(.long y2)]))
      refine own_fs (XS.lstore X0.here hx rfl (hb hby at_42) rfl (l' := #[.val (.long x0), .second, .val (.long y0), .second, .val (.long z0), .second, .val (.long w0), .second, .val (.int fl), .val (.long c1), .second, .val (.long n1), .second, .val (.long y2), .second, .unset, .unset, .unset, .unset, .unset, .unset, .unset]) rfl (Steps.refl _)) ?_
      have J54 : ∀ (c2 : Int64) (hp_c2 : (0 : Int64) < c2), own_G p.tables e below (own_P s (own_law_Q Z x0 y0 z0 w0 fl cb cc h0 n0) room_1.cells room_1.slots) (s₁.setTop (mkF m 54 #[.val (.long x0), .second, .val (.long y0), .second, .val (.long z0), .second, .val (.long w0), .second, .val (.int fl), .val (.long c1), .second, .val (.long n1), .second, .val (.long c2), .second, .unset, .unset, .unset, .unset, .unset, .unset, .unset] [])) := by
        intro c2 hp_c2
        show own_G p.tables e below _ (s₁.setTop (mkF m 54 #[.val (.long x0), .second, .val (.long y0), .second, .val (.long z0), .second, .val (.long w0), .second, .val (.int fl), .val (.long c1), .second, .val (.long n1), .second, .val (.long c2), .second, .unset, .unset, .unset, .unset, .unset, .unset, .unset] []))
        refine own_fs (XS.iload X0.here hx rfl (hb hby at_54) rfl (Steps.refl _)) ?_
        have J72 : ∀ (n2 : Int64) (hn_n2 : ¬ (n2 < (0 : Int64))), own_G p.tables e below (own_P s (own_law_Q Z x0 y0 z0 w0 fl cb cc h0 n0) room_1.cells room_1.slots) (s₁.setTop (mkF m 72 #[.val (.long x0), .second, .val (.long y0), .second, .val (.long z0), .second, .val (.long w0), .second, .val (.int fl), .val (.long c1), .second, .val (.long n1), .second, .val (.long c2), .second, .unset, .unset, .unset, .unset, .unset, .unset, .unset] [(.long n2)])) := by
          intro n2 hn_n2
          show own_G p.tables e below _ (s₁.setTop (mkF m 72 #[.val (.long x0), .second, .val (.long y0), .second, .val (.long z0), .second, .val (.long w0), .second, .val (.int fl), .val (.long c1), .second, .val (.long n1), .second, .val (.long c2), .second, .unset, .unset, .unset, .unset, .unset, .unset, .unset] [(.long n2)]))
          refine own_fs (XS.lstore X0.here hx rfl (hb hby at_72) rfl (l' := #[.val (.long x0), .second, .val (.long y0), .second, .val (.long z0), .second, .val (.long w0), .second, .val (.int fl), .val (.long c1), .second, .val (.long n1), .second, .val (.long c2), .second, .val (.long n2), .second, .unset, .unset, .unset, .unset, .unset]) rfl (Steps.refl _)) ?_
          show own_G p.tables e below _ (s₁.setTop (mkF m 74 #[.val (.long x0), .second, .val (.long y0), .second, .val (.long z0), .second, .val (.long w0), .second, .val (.int fl), .val (.long c1), .second, .val (.long n1), .second, .val (.long c2), .second, .val (.long n2), .second, .unset, .unset, .unset, .unset, .unset] []))
          obtain ⟨T1, h1, X1, e1, E1, A1, D1, -, st1⟩ := newO X0 hx hZ hown (hw _ (List.mem_of_getElem? (i := 1) rfl)) (hw _ (List.mem_of_getElem? (i := 2) rfl)) (hw _ (List.mem_of_getElem? (i := 3) rfl)) e0 (g := (mkF m 74 #[.val (.long x0), .second, .val (.long y0), .second, .val (.long z0), .second, .val (.long w0), .second, .val (.int fl), .val (.long c1), .second, .val (.long n1), .second, .val (.long c2), .second, .val (.long n2), .second, .unset, .unset, .unset, .unset, .unset] [])) rfl (hb hby at_74) (by decide) (by decide)
          obtain ⟨b1, g1⟩ : ∃ z, z = h0.size := ⟨_, rfl⟩
          rw [← g1] at A1 D1 st1
          have ge_b1 : n0 ≤ b1 := Nat.le_trans Z0 (Nat.le_of_eq g1.symm)
          have gz_b1 : h0.size ≤ b1 := Nat.le_trans (Nat.le_refl _) (Nat.le_of_eq g1.symm)
          have F_client_b1 : Fld Z h1 b1 "com/example/dibs/dibs/namespace/RequestId" "client" "J" (.long (0 : Int64)) := D1 (Or.inr (hw _ (List.mem_of_getElem? (i := 11) rfl))) (ty := .long) (by decide)
          have F_number_b1 : Fld Z h1 b1 "com/example/dibs/dibs/namespace/RequestId" "number" "J" (.long (0 : Int64)) := D1 (Or.inr (hw _ (List.mem_of_getElem? (i := 13) rfl))) (ty := .long) (by decide)
          refine own_fs (st1 _ (Steps.refl _)) ?_
          show own_G p.tables e below _ (T1.setTop (mkF m 77 #[.val (.long x0), .second, .val (.long y0), .second, .val (.long z0), .second, .val (.long w0), .second, .val (.int fl), .val (.long c1), .second, .val (.long n1), .second, .val (.long c2), .second, .val (.long n2), .second, .unset, .unset, .unset, .unset, .unset] [(.ref b1)]))
          refine own_fs (XS.dup X1.here hx rfl (hb hby at_77) rfl rfl (Steps.refl _)) ?_
          show own_G p.tables e below _ (T1.setTop (mkF m 78 #[.val (.long x0), .second, .val (.long y0), .second, .val (.long z0), .second, .val (.long w0), .second, .val (.int fl), .val (.long c1), .second, .val (.long n1), .second, .val (.long c2), .second, .val (.long n2), .second, .unset, .unset, .unset, .unset, .unset] [(.ref b1), (.ref b1)]))
          refine own_fs (XS.lload X1.here hx rfl (hb hby at_78) rfl (Steps.refl _)) ?_
          show own_G p.tables e below _ (T1.setTop (mkF m 80 #[.val (.long x0), .second, .val (.long y0), .second, .val (.long z0), .second, .val (.long w0), .second, .val (.int fl), .val (.long c1), .second, .val (.long n1), .second, .val (.long c2), .second, .val (.long n2), .second, .unset, .unset, .unset, .unset, .unset] [(.long c1), (.ref b1), (.ref b1)]))
          refine own_fs (XS.lload X1.here hx rfl (hb hby at_80) rfl (Steps.refl _)) ?_
          show own_G p.tables e below _ (T1.setTop (mkF m 82 #[.val (.long x0), .second, .val (.long y0), .second, .val (.long z0), .second, .val (.long w0), .second, .val (.int fl), .val (.long c1), .second, .val (.long n1), .second, .val (.long c2), .second, .val (.long n2), .second, .unset, .unset, .unset, .unset, .unset] [(.long n1), (.long c1), (.ref b1), (.ref b1)]))
          have Zs4 : n0 ≤ h1.size := (Nat.le_trans Z0 E1.1)
          obtain ⟨_, _, ⟨T3, L3, k3, n3⟩, -, X3, ⟨Lc3, hQ3, l3, y3, z3⟩, st3⟩ := X1.specialBack hx (y := (⟨"com/example/dibs/dibs/namespace/RequestId", "<init>", "(JJ)V"⟩ : MethodName)) rfl hown (mvT hZ (hw _ (List.mem_of_getElem? (i := 4) rfl))) (mvT hZ (hw _ (List.mem_of_getElem? (i := 5) rfl))) (mvT hZ (hw _ (List.mem_of_getElem? (i := 6) rfl))) (by decide) (backOf (W := 1) (own_init l Z a0 hw [] b1 c1 n1 (0 : Int64) (0 : Int64) h1 n0 Zs4 A1 F_client_b1 F_number_b1 ge_b1 hp_c1 hn_n1) hZ (hw _ (List.mem_of_getElem? (i := 6) rfl)) (hw _ (List.mem_of_getElem? (i := 3) rfl)) (by decide) (by decide)) (g := (mkF m 82 #[.val (.long x0), .second, .val (.long y0), .second, .val (.long z0), .second, .val (.long w0), .second, .val (.int fl), .val (.long c1), .second, .val (.long n1), .second, .val (.long c2), .second, .val (.long n2), .second, .unset, .unset, .unset, .unset, .unset] [(.long n1), (.long c1), (.ref b1), (.ref b1)])) rfl (by rw [hml]; rfl) (Steps.refl _) (a := b1) (argsL := [(.long c1), (.long n1)]) (rest := [(.ref b1)]) (lenOf own_pd2 rfl) rfl (by show 2 * 0 + _ ≤ _; exact Nat.le_of_eq rfl) (hb hby at_82) (fun _ _ => ⟨rfl, e1, (by decide : 1 + 0 ≤ _), (by decide : 2 + 0 ≤ _)⟩)
          dsimp only [Pt.U, Pt.locs, Pt.cells, Pt.slots] at X3 l3 y3 z3 st3 hQ3
          subst l3 y3 z3
          obtain ⟨h3, e3⟩ : ∃ h, T3.heap = h := ⟨_, rfl⟩
          rw [e3] at hQ3
          obtain ⟨rfl, Nq3, K3, P2_0, P2_1⟩ := hQ3
          have N3 := Fr.app N0 Nq3
          refine own_fs st3 ?_
          show own_G p.tables e below _ (T3.setTop (mkF m 85 #[.val (.long x0), .second, .val (.long y0), .second, .val (.long z0), .second, .val (.long w0), .second, .val (.int fl), .val (.long c1), .second, .val (.long n1), .second, .val (.long c2), .second, .val (.long n2), .second, .unset, .unset, .unset, .unset, .unset] [(.ref b1)]))
          refine own_fs (XS.astore X3.here hx rfl (hb hby at_85) rfl rfl (l' := #[.val (.long x0), .second, .val (.long y0), .second, .val (.long z0), .second, .val (.long w0), .second, .val (.int fl), .val (.long c1), .second, .val (.long n1), .second, .val (.long c2), .second, .val (.long n2), .second, .val (.ref b1), .unset, .unset, .unset, .unset]) rfl (Steps.refl _)) ?_
          show own_G p.tables e below _ (T3.setTop (mkF m 87 #[.val (.long x0), .second, .val (.long y0), .second, .val (.long z0), .second, .val (.long w0), .second, .val (.int fl), .val (.long c1), .second, .val (.long n1), .second, .val (.long c2), .second, .val (.long n2), .second, .val (.ref b1), .unset, .unset, .unset, .unset] []))
          obtain ⟨T5, h5, X5, e5, E5, A5, D5, -, st5⟩ := newO X3 hx hZ hown (hw _ (List.mem_of_getElem? (i := 1) rfl)) (hw _ (List.mem_of_getElem? (i := 2) rfl)) (hw _ (List.mem_of_getElem? (i := 3) rfl)) e3 (g := (mkF m 87 #[.val (.long x0), .second, .val (.long y0), .second, .val (.long z0), .second, .val (.long w0), .second, .val (.int fl), .val (.long c1), .second, .val (.long n1), .second, .val (.long c2), .second, .val (.long n2), .second, .val (.ref b1), .unset, .unset, .unset, .unset] [])) rfl (hb hby at_87) (by decide) (by decide)
          obtain ⟨b5, g5⟩ : ∃ z, z = h3.size := ⟨_, rfl⟩
          rw [← g5] at A5 D5 st5
          have ge_b5 : n0 ≤ b5 := Nat.le_trans (Nat.le_trans (Nat.le_trans Z0 E1.1) K3.1) (Nat.le_of_eq g5.symm)
          have gz_b5 : h0.size ≤ b5 := Nat.le_trans (Nat.le_trans (Nat.le_trans (Nat.le_refl _) E1.1) K3.1) (Nat.le_of_eq g5.symm)
          have F_client_b5 : Fld Z h5 b5 "com/example/dibs/dibs/namespace/RequestId" "client" "J" (.long (0 : Int64)) := D5 (Or.inr (hw _ (List.mem_of_getElem? (i := 11) rfl))) (ty := .long) (by decide)
          have F_number_b5 : Fld Z h5 b5 "com/example/dibs/dibs/namespace/RequestId" "number" "J" (.long (0 : Int64)) := D5 (Or.inr (hw _ (List.mem_of_getElem? (i := 13) rfl))) (ty := .long) (by decide)
          refine own_fs (st5 _ (Steps.refl _)) ?_
          show own_G p.tables e below _ (T5.setTop (mkF m 90 #[.val (.long x0), .second, .val (.long y0), .second, .val (.long z0), .second, .val (.long w0), .second, .val (.int fl), .val (.long c1), .second, .val (.long n1), .second, .val (.long c2), .second, .val (.long n2), .second, .val (.ref b1), .unset, .unset, .unset, .unset] [(.ref b5)]))
          refine own_fs (XS.dup X5.here hx rfl (hb hby at_90) rfl rfl (Steps.refl _)) ?_
          show own_G p.tables e below _ (T5.setTop (mkF m 91 #[.val (.long x0), .second, .val (.long y0), .second, .val (.long z0), .second, .val (.long w0), .second, .val (.int fl), .val (.long c1), .second, .val (.long n1), .second, .val (.long c2), .second, .val (.long n2), .second, .val (.ref b1), .unset, .unset, .unset, .unset] [(.ref b5), (.ref b5)]))
          refine own_fs (XS.lload X5.here hx rfl (hb hby at_91) rfl (Steps.refl _)) ?_
          show own_G p.tables e below _ (T5.setTop (mkF m 93 #[.val (.long x0), .second, .val (.long y0), .second, .val (.long z0), .second, .val (.long w0), .second, .val (.int fl), .val (.long c1), .second, .val (.long n1), .second, .val (.long c2), .second, .val (.long n2), .second, .val (.ref b1), .unset, .unset, .unset, .unset] [(.long c2), (.ref b5), (.ref b5)]))
          refine own_fs (XS.lload X5.here hx rfl (hb hby at_93) rfl (Steps.refl _)) ?_
          show own_G p.tables e below _ (T5.setTop (mkF m 95 #[.val (.long x0), .second, .val (.long y0), .second, .val (.long z0), .second, .val (.long w0), .second, .val (.int fl), .val (.long c1), .second, .val (.long n1), .second, .val (.long c2), .second, .val (.long n2), .second, .val (.ref b1), .unset, .unset, .unset, .unset] [(.long n2), (.long c2), (.ref b5), (.ref b5)]))
          have Zs8 : n0 ≤ h5.size := (Nat.le_trans (Nat.le_trans (Nat.le_trans Z0 E1.1) K3.1) E5.1)
          obtain ⟨_, _, ⟨T7, L7, k7, n7⟩, -, X7, ⟨Lc7, hQ7, l7, y7, z7⟩, st7⟩ := X5.specialBack hx (y := (⟨"com/example/dibs/dibs/namespace/RequestId", "<init>", "(JJ)V"⟩ : MethodName)) rfl hown (mvT hZ (hw _ (List.mem_of_getElem? (i := 4) rfl))) (mvT hZ (hw _ (List.mem_of_getElem? (i := 5) rfl))) (mvT hZ (hw _ (List.mem_of_getElem? (i := 6) rfl))) (by decide) (backOf (W := 1) (own_init l Z a0 hw [] b5 c2 n2 (0 : Int64) (0 : Int64) h5 n0 Zs8 A5 F_client_b5 F_number_b5 ge_b5 hp_c2 hn_n2) hZ (hw _ (List.mem_of_getElem? (i := 6) rfl)) (hw _ (List.mem_of_getElem? (i := 3) rfl)) (by decide) (by decide)) (g := (mkF m 95 #[.val (.long x0), .second, .val (.long y0), .second, .val (.long z0), .second, .val (.long w0), .second, .val (.int fl), .val (.long c1), .second, .val (.long n1), .second, .val (.long c2), .second, .val (.long n2), .second, .val (.ref b1), .unset, .unset, .unset, .unset] [(.long n2), (.long c2), (.ref b5), (.ref b5)])) rfl (by rw [hml]; rfl) (Steps.refl _) (a := b5) (argsL := [(.long c2), (.long n2)]) (rest := [(.ref b5)]) (lenOf own_pd2 rfl) rfl (by show 2 * 0 + _ ≤ _; exact Nat.le_of_eq rfl) (hb hby at_95) (fun _ _ => ⟨rfl, e5, (by decide : 2 + 0 ≤ _), (by decide : 4 + 0 ≤ _)⟩)
          dsimp only [Pt.U, Pt.locs, Pt.cells, Pt.slots] at X7 l7 y7 z7 st7 hQ7
          subst l7 y7 z7
          obtain ⟨h7, e7⟩ : ∃ h, T7.heap = h := ⟨_, rfl⟩
          rw [e7] at hQ7
          obtain ⟨rfl, Nq7, K7, P6_0, P6_1⟩ := hQ7
          have N7 := Fr.app N3 Nq7
          refine own_fs st7 ?_
          show own_G p.tables e below _ (T7.setTop (mkF m 98 #[.val (.long x0), .second, .val (.long y0), .second, .val (.long z0), .second, .val (.long w0), .second, .val (.int fl), .val (.long c1), .second, .val (.long n1), .second, .val (.long c2), .second, .val (.long n2), .second, .val (.ref b1), .unset, .unset, .unset, .unset] [(.ref b5)]))
          refine own_fs (XS.astore X7.here hx rfl (hb hby at_98) rfl rfl (l' := #[.val (.long x0), .second, .val (.long y0), .second, .val (.long z0), .second, .val (.long w0), .second, .val (.int fl), .val (.long c1), .second, .val (.long n1), .second, .val (.long c2), .second, .val (.long n2), .second, .val (.ref b1), .val (.ref b5), .unset, .unset, .unset]) rfl (Steps.refl _)) ?_
          show own_G p.tables e below _ (T7.setTop (mkF m 100 #[.val (.long x0), .second, .val (.long y0), .second, .val (.long z0), .second, .val (.long w0), .second, .val (.int fl), .val (.long c1), .second, .val (.long n1), .second, .val (.long c2), .second, .val (.long n2), .second, .val (.ref b1), .val (.ref b5), .unset, .unset, .unset] []))
          rcases own_dec c1 c2 with ⟨cc1, cc2⟩ | ⟨cc1, cc2⟩
          · rcases own_dec n1 n2 with ⟨nn1, nn2⟩ | ⟨nn1, nn2⟩
            · show own_G p.tables e below _ (T7.setTop (mkF m 100 #[.val (.long x0), .second, .val (.long y0), .second, .val (.long z0), .second, .val (.long w0), .second, .val (.int fl), .val (.long c1), .second, .val (.long n1), .second, .val (.long c2), .second, .val (.long n2), .second, .val (.ref b1), .val (.ref b5), .unset, .unset, .unset] []))
              refine own_fs (XS.lload X7.here hx rfl (hb hby at_100) rfl (Steps.refl _)) ?_
              show own_G p.tables e below _ (T7.setTop (mkF m 102 #[.val (.long x0), .second, .val (.long y0), .second, .val (.long z0), .second, .val (.long w0), .second, .val (.int fl), .val (.long c1), .second, .val (.long n1), .second, .val (.long c2), .second, .val (.long n2), .second, .val (.ref b1), .val (.ref b5), .unset, .unset, .unset] [(.long c1)]))
              refine own_fs (XS.lload X7.here hx rfl (hb hby at_102) rfl (Steps.refl _)) ?_
              show own_G p.tables e below _ (T7.setTop (mkF m 104 #[.val (.long x0), .second, .val (.long y0), .second, .val (.long z0), .second, .val (.long w0), .second, .val (.int fl), .val (.long c1), .second, .val (.long n1), .second, .val (.long c2), .second, .val (.long n2), .second, .val (.ref b1), .val (.ref b5), .unset, .unset, .unset] [(.long c2), (.long c1)]))
              refine own_fs (XT.lcmp X7.here hx rfl (hb hby at_104) rfl (Steps.refl _)) ?_
              show own_G p.tables e below _ (T7.setTop (mkF m 105 #[.val (.long x0), .second, .val (.long y0), .second, .val (.long z0), .second, .val (.long w0), .second, .val (.int fl), .val (.long c1), .second, .val (.long n1), .second, .val (.long c2), .second, .val (.long n2), .second, .val (.ref b1), .val (.ref b5), .unset, .unset, .unset] [(.int (XT.cmpL c1 c2))]))
              refine own_fs (XS.ifNo X7.here hx rfl (hb hby at_105) rfl (XT.ll_ne_f cc1) (Steps.refl _)) ?_
              show own_G p.tables e below _ (T7.setTop (mkF m 108 #[.val (.long x0), .second, .val (.long y0), .second, .val (.long z0), .second, .val (.long w0), .second, .val (.int fl), .val (.long c1), .second, .val (.long n1), .second, .val (.long c2), .second, .val (.long n2), .second, .val (.ref b1), .val (.ref b5), .unset, .unset, .unset] []))
              refine own_fs (XS.lload X7.here hx rfl (hb hby at_108) rfl (Steps.refl _)) ?_
              show own_G p.tables e below _ (T7.setTop (mkF m 110 #[.val (.long x0), .second, .val (.long y0), .second, .val (.long z0), .second, .val (.long w0), .second, .val (.int fl), .val (.long c1), .second, .val (.long n1), .second, .val (.long c2), .second, .val (.long n2), .second, .val (.ref b1), .val (.ref b5), .unset, .unset, .unset] [(.long n1)]))
              refine own_fs (XS.lload X7.here hx rfl (hb hby at_110) rfl (Steps.refl _)) ?_
              show own_G p.tables e below _ (T7.setTop (mkF m 112 #[.val (.long x0), .second, .val (.long y0), .second, .val (.long z0), .second, .val (.long w0), .second, .val (.int fl), .val (.long c1), .second, .val (.long n1), .second, .val (.long c2), .second, .val (.long n2), .second, .val (.ref b1), .val (.ref b5), .unset, .unset, .unset] [(.long n2), (.long n1)]))
              refine own_fs (XT.lcmp X7.here hx rfl (hb hby at_112) rfl (Steps.refl _)) ?_
              show own_G p.tables e below _ (T7.setTop (mkF m 113 #[.val (.long x0), .second, .val (.long y0), .second, .val (.long z0), .second, .val (.long w0), .second, .val (.int fl), .val (.long c1), .second, .val (.long n1), .second, .val (.long c2), .second, .val (.long n2), .second, .val (.ref b1), .val (.ref b5), .unset, .unset, .unset] [(.int (XT.cmpL n1 n2))]))
              refine own_fs (XS.ifNo X7.here hx rfl (hb hby at_113) rfl (XT.ll_ne_f nn1) (Steps.refl _)) ?_
              show own_G p.tables e below _ (T7.setTop (mkF m 116 #[.val (.long x0), .second, .val (.long y0), .second, .val (.long z0), .second, .val (.long w0), .second, .val (.int fl), .val (.long c1), .second, .val (.long n1), .second, .val (.long c2), .second, .val (.long n2), .second, .val (.ref b1), .val (.ref b5), .unset, .unset, .unset] []))
              refine own_fs (XS.iconst X7.here hx rfl (hb hby at_116) (Steps.refl _)) ?_
              show own_G p.tables e below _ (T7.setTop (mkF m 117 #[.val (.long x0), .second, .val (.long y0), .second, .val (.long z0), .second, .val (.long w0), .second, .val (.int fl), .val (.long c1), .second, .val (.long n1), .second, .val (.long c2), .second, .val (.long n2), .second, .val (.ref b1), .val (.ref b5), .unset, .unset, .unset] [(.int (1 : Int32))]))
              refine own_fs (XS.goto X7.here hx rfl (pc0 := 117) (pc' := 121) rfl (hb hby at_117) (by decide) (by decide) (Steps.refl _)) ?_
              show own_G p.tables e below _ (T7.setTop (mkF m 121 #[.val (.long x0), .second, .val (.long y0), .second, .val (.long z0), .second, .val (.long w0), .second, .val (.int fl), .val (.long c1), .second, .val (.long n1), .second, .val (.long c2), .second, .val (.long n2), .second, .val (.ref b1), .val (.ref b5), .unset, .unset, .unset] [(.int (1 : Int32))]))
              refine own_fs (XS.istore X7.here hx rfl (hb hby at_121) rfl (l' := #[.val (.long x0), .second, .val (.long y0), .second, .val (.long z0), .second, .val (.long w0), .second, .val (.int fl), .val (.long c1), .second, .val (.long n1), .second, .val (.long c2), .second, .val (.long n2), .second, .val (.ref b1), .val (.ref b5), .val (.int (1 : Int32)), .unset, .unset]) rfl (Steps.refl _)) ?_
              show own_G p.tables e below _ (T7.setTop (mkF m 123 #[.val (.long x0), .second, .val (.long y0), .second, .val (.long z0), .second, .val (.long w0), .second, .val (.int fl), .val (.long c1), .second, .val (.long n1), .second, .val (.long c2), .second, .val (.long n2), .second, .val (.ref b1), .val (.ref b5), .val (.int (1 : Int32)), .unset, .unset] []))
              refine own_fs (XS.aload X7.here hx rfl (hb hby at_123) rfl rfl (Steps.refl _)) ?_
              show own_G p.tables e below _ (T7.setTop (mkF m 125 #[.val (.long x0), .second, .val (.long y0), .second, .val (.long z0), .second, .val (.long w0), .second, .val (.int fl), .val (.long c1), .second, .val (.long n1), .second, .val (.long c2), .second, .val (.long n2), .second, .val (.ref b1), .val (.ref b5), .val (.int (1 : Int32)), .unset, .unset] [(.ref b1)]))
              refine own_fs (XS.aload X7.here hx rfl (hb hby at_125) rfl rfl (Steps.refl _)) ?_
              show own_G p.tables e below _ (T7.setTop (mkF m 127 #[.val (.long x0), .second, .val (.long y0), .second, .val (.long z0), .second, .val (.long w0), .second, .val (.int fl), .val (.long c1), .second, .val (.long n1), .second, .val (.long c2), .second, .val (.long n2), .second, .val (.ref b1), .val (.ref b5), .val (.int (1 : Int32)), .unset, .unset] [(.ref b5), (.ref b1)]))
              have Zs11 : n0 ≤ h7.size := (Nat.le_trans (Nat.le_trans (Nat.le_trans (Nat.le_trans Z0 E1.1) K3.1) E5.1) K7.1)
              obtain ⟨cq10, kq10, q10a, q10b, q10c⟩ := isOf hZ e7 ((Exa.ext E5 (A1.keep K3)).keep K7)
              obtain ⟨_, _, ⟨T10, L10, k10, n10⟩, -, X10, ⟨Lc10, hQ10, l10, y10, z10⟩, st10⟩ := X7.virtualBack hx (y := (⟨"com/example/dibs/dibs/namespace/RequestId", "equals", "(Ljava/lang/Object;)Z"⟩ : MethodName)) (z := (⟨"com/example/dibs/dibs/namespace/RequestId", "equals", "(Ljava/lang/Object;)Z"⟩ : MethodName)) hown (mvT hZ (hw _ (List.mem_of_getElem? (i := 14) rfl))) (mvT hZ (hw _ (List.mem_of_getElem? (i := 15) rfl))) (notFace_of_selects (args := #[]) (mvT hZ (hw _ (List.mem_of_getElem? (i := 17) rfl)))) (mvT hZ (hw _ (List.mem_of_getElem? (i := 17) rfl))) (mvT hZ (hw _ (List.mem_of_getElem? (i := 16) rfl))) (by decide) (backOf (W := 0) (own_equals l Z a0 hw [] b1 c1 n1 b5 c2 n2 h7 n0 Zs11 ((Fld.ext E5 P2_0).keep K7 (ninS (Nat.ne_of_lt (Nat.lt_of_lt_of_le (Exa.lt (A1.keep K3)) (Nat.le_of_eq g5.symm))) nin0)) ((Fld.ext E5 P2_1).keep K7 (ninS (Nat.ne_of_lt (Nat.lt_of_lt_of_le (Exa.lt (A1.keep K3)) (Nat.le_of_eq g5.symm))) nin0)) P6_0 P6_1 (A5.keep K7)) hZ (hw _ (List.mem_of_getElem? (i := 18) rfl)) (hw _ (List.mem_of_getElem? (i := 3) rfl)) (by decide) (by decide)) q10a q10c (g := (mkF m 127 #[.val (.long x0), .second, .val (.long y0), .second, .val (.long z0), .second, .val (.long w0), .second, .val (.int fl), .val (.long c1), .second, .val (.long n1), .second, .val (.long c2), .second, .val (.long n2), .second, .val (.ref b1), .val (.ref b5), .val (.int (1 : Int32)), .unset, .unset] [(.ref b5), (.ref b1)])) rfl (by rw [hml]; rfl) (Steps.refl _) (argsL := [(.ref b5)]) (rest := []) (lenOf own_pd3 rfl) rfl (by show 2 * 0 + _ ≤ _; exact Nat.le_of_eq rfl) (hb hby at_127) (fun _ _ => ⟨rfl, e7, (by decide : 2 + 0 ≤ _), (by decide : 4 + 0 ≤ _)⟩)
              dsimp only [Pt.U, Pt.locs, Pt.cells, Pt.slots] at X10 l10 y10 z10 st10 hQ10
              subst l10 y10 z10
              obtain ⟨rfl, Nq10, e10⟩ := hQ10
              have N10 := Fr.app N7 Nq10
              refine own_fs st10 ?_
              show own_G p.tables e below _ (T10.setTop (mkF m 130 #[.val (.long x0), .second, .val (.long y0), .second, .val (.long z0), .second, .val (.long w0), .second, .val (.int fl), .val (.long c1), .second, .val (.long n1), .second, .val (.long c2), .second, .val (.long n2), .second, .val (.ref b1), .val (.ref b5), .val (.int (1 : Int32)), .unset, .unset] [(.int (own_eq c1 n1 c2 n2))]))
              rw [show own_eq c1 n1 c2 n2 = (1 : Int32) from by simp only [own_eq, if_pos cc1, if_pos cc2, if_pos nn1, if_pos nn2, ↓reduceIte]]
              show own_G p.tables e below _ (T10.setTop (mkF m 130 #[.val (.long x0), .second, .val (.long y0), .second, .val (.long z0), .second, .val (.long w0), .second, .val (.int fl), .val (.long c1), .second, .val (.long n1), .second, .val (.long c2), .second, .val (.long n2), .second, .val (.ref b1), .val (.ref b5), .val (.int (1 : Int32)), .unset, .unset] [(.int (1 : Int32))]))
              refine own_fs (XS.iload X10.here hx rfl (hb hby at_130) rfl (Steps.refl _)) ?_
              show own_G p.tables e below _ (T10.setTop (mkF m 132 #[.val (.long x0), .second, .val (.long y0), .second, .val (.long z0), .second, .val (.long w0), .second, .val (.int fl), .val (.long c1), .second, .val (.long n1), .second, .val (.long c2), .second, .val (.long n2), .second, .val (.ref b1), .val (.ref b5), .val (.int (1 : Int32)), .unset, .unset] [(.int (1 : Int32)), (.int (1 : Int32))]))
              refine own_fs (XS.icmpNo X10.here hx rfl (hb hby at_132) rfl (XT.ii_ne_f (by decide : (1 : Int32) = (1 : Int32))) (Steps.refl _)) ?_
              show own_G p.tables e below _ (T10.setTop (mkF m 135 #[.val (.long x0), .second, .val (.long y0), .second, .val (.long z0), .second, .val (.long w0), .second, .val (.int fl), .val (.long c1), .second, .val (.long n1), .second, .val (.long c2), .second, .val (.long n2), .second, .val (.ref b1), .val (.ref b5), .val (.int (1 : Int32)), .unset, .unset] []))
              refine own_fs (XS.aload X10.here hx rfl (hb hby at_135) rfl rfl (Steps.refl _)) ?_
              show own_G p.tables e below _ (T10.setTop (mkF m 137 #[.val (.long x0), .second, .val (.long y0), .second, .val (.long z0), .second, .val (.long w0), .second, .val (.int fl), .val (.long c1), .second, .val (.long n1), .second, .val (.long c2), .second, .val (.long n2), .second, .val (.ref b1), .val (.ref b5), .val (.int (1 : Int32)), .unset, .unset] [(.ref b5)]))
              refine own_fs (XS.aload X10.here hx rfl (hb hby at_137) rfl rfl (Steps.refl _)) ?_
              show own_G p.tables e below _ (T10.setTop (mkF m 139 #[.val (.long x0), .second, .val (.long y0), .second, .val (.long z0), .second, .val (.long w0), .second, .val (.int fl), .val (.long c1), .second, .val (.long n1), .second, .val (.long c2), .second, .val (.long n2), .second, .val (.ref b1), .val (.ref b5), .val (.int (1 : Int32)), .unset, .unset] [(.ref b1), (.ref b5)]))
              have Zs14 : n0 ≤ h7.size := (Nat.le_trans (Nat.le_trans (Nat.le_trans (Nat.le_trans Z0 E1.1) K3.1) E5.1) K7.1)
              obtain ⟨cq13, kq13, q13a, q13b, q13c⟩ := isOf hZ e10 (A5.keep K7)
              obtain ⟨_, _, ⟨T13, L13, k13, n13⟩, -, X13, ⟨Lc13, hQ13, l13, y13, z13⟩, st13⟩ := X10.virtualBack hx (y := (⟨"com/example/dibs/dibs/namespace/RequestId", "equals", "(Ljava/lang/Object;)Z"⟩ : MethodName)) (z := (⟨"com/example/dibs/dibs/namespace/RequestId", "equals", "(Ljava/lang/Object;)Z"⟩ : MethodName)) hown (mvT hZ (hw _ (List.mem_of_getElem? (i := 14) rfl))) (mvT hZ (hw _ (List.mem_of_getElem? (i := 15) rfl))) (notFace_of_selects (args := #[]) (mvT hZ (hw _ (List.mem_of_getElem? (i := 17) rfl)))) (mvT hZ (hw _ (List.mem_of_getElem? (i := 17) rfl))) (mvT hZ (hw _ (List.mem_of_getElem? (i := 16) rfl))) (by decide) (backOf (W := 0) (own_equals l Z a0 hw [] b5 c2 n2 b1 c1 n1 h7 n0 Zs14 P6_0 P6_1 ((Fld.ext E5 P2_0).keep K7 (ninS (Nat.ne_of_lt (Nat.lt_of_lt_of_le (Exa.lt (A1.keep K3)) (Nat.le_of_eq g5.symm))) nin0)) ((Fld.ext E5 P2_1).keep K7 (ninS (Nat.ne_of_lt (Nat.lt_of_lt_of_le (Exa.lt (A1.keep K3)) (Nat.le_of_eq g5.symm))) nin0)) ((Exa.ext E5 (A1.keep K3)).keep K7)) hZ (hw _ (List.mem_of_getElem? (i := 18) rfl)) (hw _ (List.mem_of_getElem? (i := 3) rfl)) (by decide) (by decide)) q13a q13c (g := (mkF m 139 #[.val (.long x0), .second, .val (.long y0), .second, .val (.long z0), .second, .val (.long w0), .second, .val (.int fl), .val (.long c1), .second, .val (.long n1), .second, .val (.long c2), .second, .val (.long n2), .second, .val (.ref b1), .val (.ref b5), .val (.int (1 : Int32)), .unset, .unset] [(.ref b1), (.ref b5)])) rfl (by rw [hml]; rfl) (Steps.refl _) (argsL := [(.ref b1)]) (rest := []) (lenOf own_pd3 rfl) rfl (by show 2 * 0 + _ ≤ _; exact Nat.le_of_eq rfl) (hb hby at_139) (fun _ _ => ⟨rfl, e10, (by decide : 2 + 0 ≤ _), (by decide : 4 + 0 ≤ _)⟩)
              dsimp only [Pt.U, Pt.locs, Pt.cells, Pt.slots] at X13 l13 y13 z13 st13 hQ13
              subst l13 y13 z13
              obtain ⟨rfl, Nq13, e13⟩ := hQ13
              have N13 := Fr.app N10 Nq13
              refine own_fs st13 ?_
              show own_G p.tables e below _ (T13.setTop (mkF m 142 #[.val (.long x0), .second, .val (.long y0), .second, .val (.long z0), .second, .val (.long w0), .second, .val (.int fl), .val (.long c1), .second, .val (.long n1), .second, .val (.long c2), .second, .val (.long n2), .second, .val (.ref b1), .val (.ref b5), .val (.int (1 : Int32)), .unset, .unset] [(.int (own_eq c2 n2 c1 n1))]))
              rw [show own_eq c2 n2 c1 n1 = (1 : Int32) from by simp only [own_eq, if_pos cc1, if_pos cc2, if_pos nn1, if_pos nn2, ↓reduceIte]]
              show own_G p.tables e below _ (T13.setTop (mkF m 142 #[.val (.long x0), .second, .val (.long y0), .second, .val (.long z0), .second, .val (.long w0), .second, .val (.int fl), .val (.long c1), .second, .val (.long n1), .second, .val (.long c2), .second, .val (.long n2), .second, .val (.ref b1), .val (.ref b5), .val (.int (1 : Int32)), .unset, .unset] [(.int (1 : Int32))]))
              refine own_fs (XS.iload X13.here hx rfl (hb hby at_142) rfl (Steps.refl _)) ?_
              show own_G p.tables e below _ (T13.setTop (mkF m 144 #[.val (.long x0), .second, .val (.long y0), .second, .val (.long z0), .second, .val (.long w0), .second, .val (.int fl), .val (.long c1), .second, .val (.long n1), .second, .val (.long c2), .second, .val (.long n2), .second, .val (.ref b1), .val (.ref b5), .val (.int (1 : Int32)), .unset, .unset] [(.int (1 : Int32)), (.int (1 : Int32))]))
              refine own_fs (XS.icmpNo X13.here hx rfl (hb hby at_144) rfl (XT.ii_ne_f (by decide : (1 : Int32) = (1 : Int32))) (Steps.refl _)) ?_
              show own_G p.tables e below _ (T13.setTop (mkF m 147 #[.val (.long x0), .second, .val (.long y0), .second, .val (.long z0), .second, .val (.long w0), .second, .val (.int fl), .val (.long c1), .second, .val (.long n1), .second, .val (.long c2), .second, .val (.long n2), .second, .val (.ref b1), .val (.ref b5), .val (.int (1 : Int32)), .unset, .unset] []))
              refine own_fs (XS.iconst X13.here hx rfl (hb hby at_147) (Steps.refl _)) ?_
              show own_G p.tables e below _ (T13.setTop (mkF m 148 #[.val (.long x0), .second, .val (.long y0), .second, .val (.long z0), .second, .val (.long w0), .second, .val (.int fl), .val (.long c1), .second, .val (.long n1), .second, .val (.long c2), .second, .val (.long n2), .second, .val (.ref b1), .val (.ref b5), .val (.int (1 : Int32)), .unset, .unset] [(.int (1 : Int32))]))
              refine own_fs (XS.goto X13.here hx rfl (pc0 := 148) (pc' := 152) rfl (hb hby at_148) (by decide) (by decide) (Steps.refl _)) ?_
              show own_G p.tables e below _ (T13.setTop (mkF m 152 #[.val (.long x0), .second, .val (.long y0), .second, .val (.long z0), .second, .val (.long w0), .second, .val (.int fl), .val (.long c1), .second, .val (.long n1), .second, .val (.long c2), .second, .val (.long n2), .second, .val (.ref b1), .val (.ref b5), .val (.int (1 : Int32)), .unset, .unset] [(.int (1 : Int32))]))
              refine own_fs (XS.istore X13.here hx rfl (hb hby at_152) rfl (l' := #[.val (.long x0), .second, .val (.long y0), .second, .val (.long z0), .second, .val (.long w0), .second, .val (.int fl), .val (.long c1), .second, .val (.long n1), .second, .val (.long c2), .second, .val (.long n2), .second, .val (.ref b1), .val (.ref b5), .val (.int (1 : Int32)), .val (.int (1 : Int32)), .unset]) rfl (Steps.refl _)) ?_
              show own_G p.tables e below _ (T13.setTop (mkF m 154 #[.val (.long x0), .second, .val (.long y0), .second, .val (.long z0), .second, .val (.long w0), .second, .val (.int fl), .val (.long c1), .second, .val (.long n1), .second, .val (.long c2), .second, .val (.long n2), .second, .val (.ref b1), .val (.ref b5), .val (.int (1 : Int32)), .val (.int (1 : Int32)), .unset] []))
              refine own_fs (XS.iload X13.here hx rfl (hb hby at_154) rfl (Steps.refl _)) ?_
              show own_G p.tables e below _ (T13.setTop (mkF m 156 #[.val (.long x0), .second, .val (.long y0), .second, .val (.long z0), .second, .val (.long w0), .second, .val (.int fl), .val (.long c1), .second, .val (.long n1), .second, .val (.long c2), .second, .val (.long n2), .second, .val (.ref b1), .val (.ref b5), .val (.int (1 : Int32)), .val (.int (1 : Int32)), .unset] [(.int fl)]))
              refine own_fs (XS.iconst X13.here hx rfl (hb hby at_156) (Steps.refl _)) ?_
              show own_G p.tables e below _ (T13.setTop (mkF m 157 #[.val (.long x0), .second, .val (.long y0), .second, .val (.long z0), .second, .val (.long w0), .second, .val (.int fl), .val (.long c1), .second, .val (.long n1), .second, .val (.long c2), .second, .val (.long n2), .second, .val (.ref b1), .val (.ref b5), .val (.int (1 : Int32)), .val (.int (1 : Int32)), .unset] [(.int (2 : Int32)), (.int fl)]))
              refine own_fs (XS.iushr X13.here hx rfl (hb hby at_157) rfl (Steps.refl _)) ?_
              show own_G p.tables e below _ (T13.setTop (mkF m 158 #[.val (.long x0), .second, .val (.long y0), .second, .val (.long z0), .second, .val (.long w0), .second, .val (.int fl), .val (.long c1), .second, .val (.long n1), .second, .val (.long c2), .second, .val (.long n2), .second, .val (.ref b1), .val (.ref b5), .val (.int (1 : Int32)), .val (.int (1 : Int32)), .unset] [(.int ((fl.toUInt32 >>> ((2 : Int32) &&& 31).toUInt32).toInt32))]))
              refine own_fs (XS.iconst X13.here hx rfl (hb hby at_158) (Steps.refl _)) ?_
              show own_G p.tables e below _ (T13.setTop (mkF m 159 #[.val (.long x0), .second, .val (.long y0), .second, .val (.long z0), .second, .val (.long w0), .second, .val (.int fl), .val (.long c1), .second, .val (.long n1), .second, .val (.long c2), .second, .val (.long n2), .second, .val (.ref b1), .val (.ref b5), .val (.int (1 : Int32)), .val (.int (1 : Int32)), .unset] [(.int (3 : Int32)), (.int ((fl.toUInt32 >>> ((2 : Int32) &&& 31).toUInt32).toInt32))]))
              refine own_fs (XS.iand X13.here hx rfl (hb hby at_159) rfl (Steps.refl _)) ?_
              show own_G p.tables e below _ (T13.setTop (mkF m 160 #[.val (.long x0), .second, .val (.long y0), .second, .val (.long z0), .second, .val (.long w0), .second, .val (.int fl), .val (.long c1), .second, .val (.long n1), .second, .val (.long c2), .second, .val (.long n2), .second, .val (.ref b1), .val (.ref b5), .val (.int (1 : Int32)), .val (.int (1 : Int32)), .unset] [(.int (((fl.toUInt32 >>> ((2 : Int32) &&& 31).toUInt32).toInt32) &&& (3 : Int32)))]))
              refine own_fs (XS.istore X13.here hx rfl (hb hby at_160) rfl (l' := #[.val (.long x0), .second, .val (.long y0), .second, .val (.long z0), .second, .val (.long w0), .second, .val (.int fl), .val (.long c1), .second, .val (.long n1), .second, .val (.long c2), .second, .val (.long n2), .second, .val (.ref b1), .val (.ref b5), .val (.int (1 : Int32)), .val (.int (1 : Int32)), .val (.int (((fl.toUInt32 >>> ((2 : Int32) &&& 31).toUInt32).toInt32) &&& (3 : Int32)))]) rfl (Steps.refl _)) ?_
              show own_G p.tables e below _ (T13.setTop (mkF m 162 #[.val (.long x0), .second, .val (.long y0), .second, .val (.long z0), .second, .val (.long w0), .second, .val (.int fl), .val (.long c1), .second, .val (.long n1), .second, .val (.long c2), .second, .val (.long n2), .second, .val (.ref b1), .val (.ref b5), .val (.int (1 : Int32)), .val (.int (1 : Int32)), .val (.int (((fl.toUInt32 >>> ((2 : Int32) &&& 31).toUInt32).toInt32) &&& (3 : Int32)))] []))
              refine own_fs (XS.iload X13.here hx rfl (hb hby at_162) rfl (Steps.refl _)) ?_
              show own_G p.tables e below _ (T13.setTop (mkF m 164 #[.val (.long x0), .second, .val (.long y0), .second, .val (.long z0), .second, .val (.long w0), .second, .val (.int fl), .val (.long c1), .second, .val (.long n1), .second, .val (.long c2), .second, .val (.long n2), .second, .val (.ref b1), .val (.ref b5), .val (.int (1 : Int32)), .val (.int (1 : Int32)), .val (.int (((fl.toUInt32 >>> ((2 : Int32) &&& 31).toUInt32).toInt32) &&& (3 : Int32)))] [(.int (((fl.toUInt32 >>> ((2 : Int32) &&& 31).toUInt32).toInt32) &&& (3 : Int32)))]))
              refine own_fs (XS.iconst X13.here hx rfl (hb hby at_164) (Steps.refl _)) ?_
              show own_G p.tables e below _ (T13.setTop (mkF m 165 #[.val (.long x0), .second, .val (.long y0), .second, .val (.long z0), .second, .val (.long w0), .second, .val (.int fl), .val (.long c1), .second, .val (.long n1), .second, .val (.long c2), .second, .val (.long n2), .second, .val (.ref b1), .val (.ref b5), .val (.int (1 : Int32)), .val (.int (1 : Int32)), .val (.int (((fl.toUInt32 >>> ((2 : Int32) &&& 31).toUInt32).toInt32) &&& (3 : Int32)))] [(.int (1 : Int32)), (.int (((fl.toUInt32 >>> ((2 : Int32) &&& 31).toUInt32).toInt32) &&& (3 : Int32)))]))
              by_cases hc165 : (((fl.toUInt32 >>> ((2 : Int32) &&& 31).toUInt32).toInt32) &&& (3 : Int32)) = (1 : Int32)
              · refine own_fs (XS.icmpNo X13.here hx rfl (hb hby at_165) rfl (XT.ii_ne_f hc165) (Steps.refl _)) ?_
                show own_G p.tables e below _ (T13.setTop (mkF m 168 #[.val (.long x0), .second, .val (.long y0), .second, .val (.long z0), .second, .val (.long w0), .second, .val (.int fl), .val (.long c1), .second, .val (.long n1), .second, .val (.long c2), .second, .val (.long n2), .second, .val (.ref b1), .val (.ref b5), .val (.int (1 : Int32)), .val (.int (1 : Int32)), .val (.int (((fl.toUInt32 >>> ((2 : Int32) &&& 31).toUInt32).toInt32) &&& (3 : Int32)))] []))
                refine own_fs (XS.iload X13.here hx rfl (hb hby at_168) rfl (Steps.refl _)) ?_
                show own_G p.tables e below _ (T13.setTop (mkF m 170 #[.val (.long x0), .second, .val (.long y0), .second, .val (.long z0), .second, .val (.long w0), .second, .val (.int fl), .val (.long c1), .second, .val (.long n1), .second, .val (.long c2), .second, .val (.long n2), .second, .val (.ref b1), .val (.ref b5), .val (.int (1 : Int32)), .val (.int (1 : Int32)), .val (.int (((fl.toUInt32 >>> ((2 : Int32) &&& 31).toUInt32).toInt32) &&& (3 : Int32)))] [(.int (1 : Int32))]))
                refine own_fs (XS.ifNo X13.here hx rfl (hb hby at_170) rfl (XT.i0_eq_f (by decide : ¬ ((1 : Int32) = (0 : Int32)))) (Steps.refl _)) ?_
                show own_G p.tables e below _ (T13.setTop (mkF m 173 #[.val (.long x0), .second, .val (.long y0), .second, .val (.long z0), .second, .val (.long w0), .second, .val (.int fl), .val (.long c1), .second, .val (.long n1), .second, .val (.long c2), .second, .val (.long n2), .second, .val (.ref b1), .val (.ref b5), .val (.int (1 : Int32)), .val (.int (1 : Int32)), .val (.int (((fl.toUInt32 >>> ((2 : Int32) &&& 31).toUInt32).toInt32) &&& (3 : Int32)))] []))
                refine own_fs (XS.aload X13.here hx rfl (hb hby at_173) rfl rfl (Steps.refl _)) ?_
                show own_G p.tables e below _ (T13.setTop (mkF m 175 #[.val (.long x0), .second, .val (.long y0), .second, .val (.long z0), .second, .val (.long w0), .second, .val (.int fl), .val (.long c1), .second, .val (.long n1), .second, .val (.long c2), .second, .val (.long n2), .second, .val (.ref b1), .val (.ref b5), .val (.int (1 : Int32)), .val (.int (1 : Int32)), .val (.int (((fl.toUInt32 >>> ((2 : Int32) &&& 31).toUInt32).toInt32) &&& (3 : Int32)))] [(.ref b1)]))
                refine own_fs (XS.aconstNull X13.here hx rfl (hb hby at_175) (Steps.refl _)) ?_
                show own_G p.tables e below _ (T13.setTop (mkF m 176 #[.val (.long x0), .second, .val (.long y0), .second, .val (.long z0), .second, .val (.long w0), .second, .val (.int fl), .val (.long c1), .second, .val (.long n1), .second, .val (.long c2), .second, .val (.long n2), .second, .val (.ref b1), .val (.ref b5), .val (.int (1 : Int32)), .val (.int (1 : Int32)), .val (.int (((fl.toUInt32 >>> ((2 : Int32) &&& 31).toUInt32).toInt32) &&& (3 : Int32)))] [.null, (.ref b1)]))
                have Zs17 : n0 ≤ h7.size := (Nat.le_trans (Nat.le_trans (Nat.le_trans (Nat.le_trans Z0 E1.1) K3.1) E5.1) K7.1)
                obtain ⟨cq16, kq16, q16a, q16b, q16c⟩ := isOf hZ e13 ((Exa.ext E5 (A1.keep K3)).keep K7)
                obtain ⟨_, _, ⟨T16, L16, k16, n16⟩, -, X16, ⟨Lc16, hQ16, l16, y16, z16⟩, st16⟩ := X13.virtualBack hx (y := (⟨"com/example/dibs/dibs/namespace/RequestId", "equals", "(Ljava/lang/Object;)Z"⟩ : MethodName)) (z := (⟨"com/example/dibs/dibs/namespace/RequestId", "equals", "(Ljava/lang/Object;)Z"⟩ : MethodName)) hown (mvT hZ (hw _ (List.mem_of_getElem? (i := 14) rfl))) (mvT hZ (hw _ (List.mem_of_getElem? (i := 15) rfl))) (notFace_of_selects (args := #[]) (mvT hZ (hw _ (List.mem_of_getElem? (i := 17) rfl)))) (mvT hZ (hw _ (List.mem_of_getElem? (i := 17) rfl))) (mvT hZ (hw _ (List.mem_of_getElem? (i := 16) rfl))) (by decide) (backOf (W := 0) (own_eqnull l Z a0 hw [] b1 h7 n0 Zs17 ) hZ (hw _ (List.mem_of_getElem? (i := 18) rfl)) (hw _ (List.mem_of_getElem? (i := 3) rfl)) (by decide) (by decide)) q16a q16c (g := (mkF m 176 #[.val (.long x0), .second, .val (.long y0), .second, .val (.long z0), .second, .val (.long w0), .second, .val (.int fl), .val (.long c1), .second, .val (.long n1), .second, .val (.long c2), .second, .val (.long n2), .second, .val (.ref b1), .val (.ref b5), .val (.int (1 : Int32)), .val (.int (1 : Int32)), .val (.int (((fl.toUInt32 >>> ((2 : Int32) &&& 31).toUInt32).toInt32) &&& (3 : Int32)))] [.null, (.ref b1)])) rfl (by rw [hml]; rfl) (Steps.refl _) (argsL := [.null]) (rest := []) (lenOf own_pd3 rfl) rfl (by show 2 * 0 + _ ≤ _; exact Nat.le_of_eq rfl) (hb hby at_176) (fun _ _ => ⟨rfl, e13, (by decide : 2 + 0 ≤ _), (by decide : 4 + 0 ≤ _)⟩)
                dsimp only [Pt.U, Pt.locs, Pt.cells, Pt.slots] at X16 l16 y16 z16 st16 hQ16
                subst l16 y16 z16
                obtain ⟨rfl, Nq16, e16⟩ := hQ16
                have N16 := Fr.app N13 Nq16
                refine own_fs st16 ?_
                show own_G p.tables e below _ (T16.setTop (mkF m 179 #[.val (.long x0), .second, .val (.long y0), .second, .val (.long z0), .second, .val (.long w0), .second, .val (.int fl), .val (.long c1), .second, .val (.long n1), .second, .val (.long c2), .second, .val (.long n2), .second, .val (.ref b1), .val (.ref b5), .val (.int (1 : Int32)), .val (.int (1 : Int32)), .val (.int (((fl.toUInt32 >>> ((2 : Int32) &&& 31).toUInt32).toInt32) &&& (3 : Int32)))] [(.int (0 : Int32))]))
                refine own_fs (XS.ifNo X16.here hx rfl (hb hby at_179) rfl (XT.i0_ne_f (by decide : (0 : Int32) = (0 : Int32))) (Steps.refl _)) ?_
                show own_G p.tables e below _ (T16.setTop (mkF m 182 #[.val (.long x0), .second, .val (.long y0), .second, .val (.long z0), .second, .val (.long w0), .second, .val (.int fl), .val (.long c1), .second, .val (.long n1), .second, .val (.long c2), .second, .val (.long n2), .second, .val (.ref b1), .val (.ref b5), .val (.int (1 : Int32)), .val (.int (1 : Int32)), .val (.int (((fl.toUInt32 >>> ((2 : Int32) &&& 31).toUInt32).toInt32) &&& (3 : Int32)))] []))
                refine own_fs (XS.iconst X16.here hx rfl (hb hby at_182) (Steps.refl _)) ?_
                show own_G p.tables e below _ (T16.setTop (mkF m 183 #[.val (.long x0), .second, .val (.long y0), .second, .val (.long z0), .second, .val (.long w0), .second, .val (.int fl), .val (.long c1), .second, .val (.long n1), .second, .val (.long c2), .second, .val (.long n2), .second, .val (.ref b1), .val (.ref b5), .val (.int (1 : Int32)), .val (.int (1 : Int32)), .val (.int (((fl.toUInt32 >>> ((2 : Int32) &&& 31).toUInt32).toInt32) &&& (3 : Int32)))] [(.int (1 : Int32))]))
                refine own_fs (XS.goto X16.here hx rfl (pc0 := 183) (pc' := 187) rfl (hb hby at_183) (by decide) (by decide) (Steps.refl _)) ?_
                show own_G p.tables e below _ (T16.setTop (mkF m 187 #[.val (.long x0), .second, .val (.long y0), .second, .val (.long z0), .second, .val (.long w0), .second, .val (.int fl), .val (.long c1), .second, .val (.long n1), .second, .val (.long c2), .second, .val (.long n2), .second, .val (.ref b1), .val (.ref b5), .val (.int (1 : Int32)), .val (.int (1 : Int32)), .val (.int (((fl.toUInt32 >>> ((2 : Int32) &&& 31).toUInt32).toInt32) &&& (3 : Int32)))] [(.int (1 : Int32))]))
                exact own_retN X16 hx (t := .boolean) Bd.returns hlk (by simp) (hb hby at_187) (by decide) (by decide) e16 ⟨rfl, N16⟩
              · refine own_fs (XS.icmpYes X13.here hx rfl (pc0 := 165) (pc' := 188) rfl (hb hby at_165) rfl (XT.ii_ne_t hc165) (by decide) (by decide) (Steps.refl _)) ?_
                show own_G p.tables e below _ (T13.setTop (mkF m 188 #[.val (.long x0), .second, .val (.long y0), .second, .val (.long z0), .second, .val (.long w0), .second, .val (.int fl), .val (.long c1), .second, .val (.long n1), .second, .val (.long c2), .second, .val (.long n2), .second, .val (.ref b1), .val (.ref b5), .val (.int (1 : Int32)), .val (.int (1 : Int32)), .val (.int (((fl.toUInt32 >>> ((2 : Int32) &&& 31).toUInt32).toInt32) &&& (3 : Int32)))] []))
                refine own_fs (XS.iload X13.here hx rfl (hb hby at_188) rfl (Steps.refl _)) ?_
                show own_G p.tables e below _ (T13.setTop (mkF m 190 #[.val (.long x0), .second, .val (.long y0), .second, .val (.long z0), .second, .val (.long w0), .second, .val (.int fl), .val (.long c1), .second, .val (.long n1), .second, .val (.long c2), .second, .val (.long n2), .second, .val (.ref b1), .val (.ref b5), .val (.int (1 : Int32)), .val (.int (1 : Int32)), .val (.int (((fl.toUInt32 >>> ((2 : Int32) &&& 31).toUInt32).toInt32) &&& (3 : Int32)))] [(.int (((fl.toUInt32 >>> ((2 : Int32) &&& 31).toUInt32).toInt32) &&& (3 : Int32)))]))
                refine own_fs (XS.iconst X13.here hx rfl (hb hby at_190) (Steps.refl _)) ?_
                show own_G p.tables e below _ (T13.setTop (mkF m 191 #[.val (.long x0), .second, .val (.long y0), .second, .val (.long z0), .second, .val (.long w0), .second, .val (.int fl), .val (.long c1), .second, .val (.long n1), .second, .val (.long c2), .second, .val (.long n2), .second, .val (.ref b1), .val (.ref b5), .val (.int (1 : Int32)), .val (.int (1 : Int32)), .val (.int (((fl.toUInt32 >>> ((2 : Int32) &&& 31).toUInt32).toInt32) &&& (3 : Int32)))] [(.int (2 : Int32)), (.int (((fl.toUInt32 >>> ((2 : Int32) &&& 31).toUInt32).toInt32) &&& (3 : Int32)))]))
                by_cases hc191 : (((fl.toUInt32 >>> ((2 : Int32) &&& 31).toUInt32).toInt32) &&& (3 : Int32)) = (2 : Int32)
                · refine own_fs (XS.icmpNo X13.here hx rfl (hb hby at_191) rfl (XT.ii_ne_f hc191) (Steps.refl _)) ?_
                  show own_G p.tables e below _ (T13.setTop (mkF m 194 #[.val (.long x0), .second, .val (.long y0), .second, .val (.long z0), .second, .val (.long w0), .second, .val (.int fl), .val (.long c1), .second, .val (.long n1), .second, .val (.long c2), .second, .val (.long n2), .second, .val (.ref b1), .val (.ref b5), .val (.int (1 : Int32)), .val (.int (1 : Int32)), .val (.int (((fl.toUInt32 >>> ((2 : Int32) &&& 31).toUInt32).toInt32) &&& (3 : Int32)))] []))
                  refine own_fs (XS.iload X13.here hx rfl (hb hby at_194) rfl (Steps.refl _)) ?_
                  show own_G p.tables e below _ (T13.setTop (mkF m 196 #[.val (.long x0), .second, .val (.long y0), .second, .val (.long z0), .second, .val (.long w0), .second, .val (.int fl), .val (.long c1), .second, .val (.long n1), .second, .val (.long c2), .second, .val (.long n2), .second, .val (.ref b1), .val (.ref b5), .val (.int (1 : Int32)), .val (.int (1 : Int32)), .val (.int (((fl.toUInt32 >>> ((2 : Int32) &&& 31).toUInt32).toInt32) &&& (3 : Int32)))] [(.int (1 : Int32))]))
                  refine own_fs (XS.ifNo X13.here hx rfl (hb hby at_196) rfl (XT.i0_eq_f (by decide : ¬ ((1 : Int32) = (0 : Int32)))) (Steps.refl _)) ?_
                  show own_G p.tables e below _ (T13.setTop (mkF m 199 #[.val (.long x0), .second, .val (.long y0), .second, .val (.long z0), .second, .val (.long w0), .second, .val (.int fl), .val (.long c1), .second, .val (.long n1), .second, .val (.long c2), .second, .val (.long n2), .second, .val (.ref b1), .val (.ref b5), .val (.int (1 : Int32)), .val (.int (1 : Int32)), .val (.int (((fl.toUInt32 >>> ((2 : Int32) &&& 31).toUInt32).toInt32) &&& (3 : Int32)))] []))
                  refine own_fs (XS.aload X13.here hx rfl (hb hby at_199) rfl rfl (Steps.refl _)) ?_
                  show own_G p.tables e below _ (T13.setTop (mkF m 201 #[.val (.long x0), .second, .val (.long y0), .second, .val (.long z0), .second, .val (.long w0), .second, .val (.int fl), .val (.long c1), .second, .val (.long n1), .second, .val (.long c2), .second, .val (.long n2), .second, .val (.ref b1), .val (.ref b5), .val (.int (1 : Int32)), .val (.int (1 : Int32)), .val (.int (((fl.toUInt32 >>> ((2 : Int32) &&& 31).toUInt32).toInt32) &&& (3 : Int32)))] [(.ref b1)]))
                  refine own_fs (XS.lload X13.here hx rfl (hb hby at_201) rfl (Steps.refl _)) ?_
                  show own_G p.tables e below _ (T13.setTop (mkF m 203 #[.val (.long x0), .second, .val (.long y0), .second, .val (.long z0), .second, .val (.long w0), .second, .val (.int fl), .val (.long c1), .second, .val (.long n1), .second, .val (.long c2), .second, .val (.long n2), .second, .val (.ref b1), .val (.ref b5), .val (.int (1 : Int32)), .val (.int (1 : Int32)), .val (.int (((fl.toUInt32 >>> ((2 : Int32) &&& 31).toUInt32).toInt32) &&& (3 : Int32)))] [(.long c1), (.ref b1)]))
                  have Zs21 : n0 ≤ h7.size := (Nat.le_trans (Nat.le_trans (Nat.le_trans (Nat.le_trans Z0 E1.1) K3.1) E5.1) K7.1)
                  obtain ⟨_, _, ⟨T20, L20, k20, n20⟩, -, X20, ⟨Lc20, hQ20, l20, y20, z20⟩, st20⟩ := Jvm.LawKit.callS X13 hx (y := (⟨"java/lang/Long", "valueOf", "(J)Ljava/lang/Long;"⟩ : MethodName)) hown (mvT hZ (hw _ (List.mem_of_getElem? (i := 21) rfl))) (mvT hZ (hw _ (List.mem_of_getElem? (i := 22) rfl))) (mvT hZ (hw _ (List.mem_of_getElem? (i := 23) rfl))) (mvT hZ (hw _ (List.mem_of_getElem? (i := 24) rfl))) (by decide) (backOf (W := 1) (own_valueOf l Z a0 hw [] c1 cb cc h7 n0 Zs21 hSta hBx (Old.keep (Old.ext (Old.keep (Old.ext hOld E1) K3 (allS ge_b1 all0)) E5) K7 (allS ge_b5 all0))) hZ (hw _ (List.mem_of_getElem? (i := 24) rfl)) (hw _ (List.mem_of_getElem? (i := 23) rfl)) (by decide) (by decide)) (g := (mkF m 203 #[.val (.long x0), .second, .val (.long y0), .second, .val (.long z0), .second, .val (.long w0), .second, .val (.int fl), .val (.long c1), .second, .val (.long n1), .second, .val (.long c2), .second, .val (.long n2), .second, .val (.ref b1), .val (.ref b5), .val (.int (1 : Int32)), .val (.int (1 : Int32)), .val (.int (((fl.toUInt32 >>> ((2 : Int32) &&& 31).toUInt32).toInt32) &&& (3 : Int32)))] [(.long c1), (.ref b1)])) rfl (by rw [hml]; rfl) (argsL := [(.long c1)]) (rest := [(.ref b1)]) (lenOf own_pd4 rfl) rfl (by show 2 * 0 + _ ≤ _; exact Nat.le_of_eq rfl) (hb hby at_203) (fun _ _ => ⟨rfl, e13, (by decide : 2 + 1 ≤ _), (by decide : 4 + 1 ≤ _)⟩)
                  dsimp only [Pt.U, Pt.locs, Pt.cells, Pt.slots] at X20 l20 y20 z20 st20 hQ20
                  subst l20 y20 z20
                  obtain ⟨h20, e20⟩ : ∃ h, T20.heap = h := ⟨_, rfl⟩
                  rw [e20] at hQ20
                  obtain ⟨ar18, rfl, Nq20, K20, P19_0, P19_1, P19_2⟩ := hQ20
                  have N20 := Fr.app N13 Nq20
                  refine own_fs (st20 _ (Steps.refl _)) ?_
                  show own_G p.tables e below _ (T20.setTop (mkF m 206 #[.val (.long x0), .second, .val (.long y0), .second, .val (.long z0), .second, .val (.long w0), .second, .val (.int fl), .val (.long c1), .second, .val (.long n1), .second, .val (.long c2), .second, .val (.long n2), .second, .val (.ref b1), .val (.ref b5), .val (.int (1 : Int32)), .val (.int (1 : Int32)), .val (.int (((fl.toUInt32 >>> ((2 : Int32) &&& 31).toUInt32).toInt32) &&& (3 : Int32)))] [(.ref ar18), (.ref b1)]))
                  have Zs24 : n0 ≤ h20.size := (Nat.le_trans (Nat.le_trans (Nat.le_trans (Nat.le_trans (Nat.le_trans Z0 E1.1) K3.1) E5.1) K7.1) K20.1)
                  obtain ⟨cq23, kq23, q23a, q23b, q23c⟩ := isOf hZ e20 (((Exa.ext E5 (A1.keep K3)).keep K7).keep K20)
                  obtain ⟨_, _, ⟨T23, L23, k23, n23⟩, -, X23, ⟨Lc23, hQ23, l23, y23, z23⟩, st23⟩ := X20.virtualBack hx (y := (⟨"com/example/dibs/dibs/namespace/RequestId", "equals", "(Ljava/lang/Object;)Z"⟩ : MethodName)) (z := (⟨"com/example/dibs/dibs/namespace/RequestId", "equals", "(Ljava/lang/Object;)Z"⟩ : MethodName)) hown (mvT hZ (hw _ (List.mem_of_getElem? (i := 14) rfl))) (mvT hZ (hw _ (List.mem_of_getElem? (i := 15) rfl))) (notFace_of_selects (args := #[]) (mvT hZ (hw _ (List.mem_of_getElem? (i := 17) rfl)))) (mvT hZ (hw _ (List.mem_of_getElem? (i := 17) rfl))) (mvT hZ (hw _ (List.mem_of_getElem? (i := 16) rfl))) (by decide) (backOf (W := 0) (own_eqlong l Z a0 hw [] b1 ar18 h20 n0 Zs24 P19_0) hZ (hw _ (List.mem_of_getElem? (i := 18) rfl)) (hw _ (List.mem_of_getElem? (i := 3) rfl)) (by decide) (by decide)) q23a q23c (g := (mkF m 206 #[.val (.long x0), .second, .val (.long y0), .second, .val (.long z0), .second, .val (.long w0), .second, .val (.int fl), .val (.long c1), .second, .val (.long n1), .second, .val (.long c2), .second, .val (.long n2), .second, .val (.ref b1), .val (.ref b5), .val (.int (1 : Int32)), .val (.int (1 : Int32)), .val (.int (((fl.toUInt32 >>> ((2 : Int32) &&& 31).toUInt32).toInt32) &&& (3 : Int32)))] [(.ref ar18), (.ref b1)])) rfl (by rw [hml]; rfl) (Steps.refl _) (argsL := [(.ref ar18)]) (rest := []) (lenOf own_pd3 rfl) rfl (by show 2 * 0 + _ ≤ _; exact Nat.le_of_eq rfl) (hb hby at_206) (fun _ _ => ⟨rfl, e20, (by decide : 3 + 0 ≤ _), (by decide : 5 + 0 ≤ _)⟩)
                  dsimp only [Pt.U, Pt.locs, Pt.cells, Pt.slots] at X23 l23 y23 z23 st23 hQ23
                  subst l23 y23 z23
                  obtain ⟨rfl, Nq23, e23⟩ := hQ23
                  have N23 := Fr.app N20 Nq23
                  refine own_fs st23 ?_
                  show own_G p.tables e below _ (T23.setTop (mkF m 209 #[.val (.long x0), .second, .val (.long y0), .second, .val (.long z0), .second, .val (.long w0), .second, .val (.int fl), .val (.long c1), .second, .val (.long n1), .second, .val (.long c2), .second, .val (.long n2), .second, .val (.ref b1), .val (.ref b5), .val (.int (1 : Int32)), .val (.int (1 : Int32)), .val (.int (((fl.toUInt32 >>> ((2 : Int32) &&& 31).toUInt32).toInt32) &&& (3 : Int32)))] [(.int (0 : Int32))]))
                  refine own_fs (XS.ifNo X23.here hx rfl (hb hby at_209) rfl (XT.i0_ne_f (by decide : (0 : Int32) = (0 : Int32))) (Steps.refl _)) ?_
                  show own_G p.tables e below _ (T23.setTop (mkF m 212 #[.val (.long x0), .second, .val (.long y0), .second, .val (.long z0), .second, .val (.long w0), .second, .val (.int fl), .val (.long c1), .second, .val (.long n1), .second, .val (.long c2), .second, .val (.long n2), .second, .val (.ref b1), .val (.ref b5), .val (.int (1 : Int32)), .val (.int (1 : Int32)), .val (.int (((fl.toUInt32 >>> ((2 : Int32) &&& 31).toUInt32).toInt32) &&& (3 : Int32)))] []))
                  refine own_fs (XS.iconst X23.here hx rfl (hb hby at_212) (Steps.refl _)) ?_
                  show own_G p.tables e below _ (T23.setTop (mkF m 213 #[.val (.long x0), .second, .val (.long y0), .second, .val (.long z0), .second, .val (.long w0), .second, .val (.int fl), .val (.long c1), .second, .val (.long n1), .second, .val (.long c2), .second, .val (.long n2), .second, .val (.ref b1), .val (.ref b5), .val (.int (1 : Int32)), .val (.int (1 : Int32)), .val (.int (((fl.toUInt32 >>> ((2 : Int32) &&& 31).toUInt32).toInt32) &&& (3 : Int32)))] [(.int (1 : Int32))]))
                  refine own_fs (XS.goto X23.here hx rfl (pc0 := 213) (pc' := 217) rfl (hb hby at_213) (by decide) (by decide) (Steps.refl _)) ?_
                  show own_G p.tables e below _ (T23.setTop (mkF m 217 #[.val (.long x0), .second, .val (.long y0), .second, .val (.long z0), .second, .val (.long w0), .second, .val (.int fl), .val (.long c1), .second, .val (.long n1), .second, .val (.long c2), .second, .val (.long n2), .second, .val (.ref b1), .val (.ref b5), .val (.int (1 : Int32)), .val (.int (1 : Int32)), .val (.int (((fl.toUInt32 >>> ((2 : Int32) &&& 31).toUInt32).toInt32) &&& (3 : Int32)))] [(.int (1 : Int32))]))
                  exact own_retN X23 hx (t := .boolean) Bd.returns hlk (by simp) (hb hby at_217) (by decide) (by decide) e23 ⟨rfl, N23⟩
                · refine own_fs (XS.icmpYes X13.here hx rfl (pc0 := 191) (pc' := 218) rfl (hb hby at_191) rfl (XT.ii_ne_t hc191) (by decide) (by decide) (Steps.refl _)) ?_
                  show own_G p.tables e below _ (T13.setTop (mkF m 218 #[.val (.long x0), .second, .val (.long y0), .second, .val (.long z0), .second, .val (.long w0), .second, .val (.int fl), .val (.long c1), .second, .val (.long n1), .second, .val (.long c2), .second, .val (.long n2), .second, .val (.ref b1), .val (.ref b5), .val (.int (1 : Int32)), .val (.int (1 : Int32)), .val (.int (((fl.toUInt32 >>> ((2 : Int32) &&& 31).toUInt32).toInt32) &&& (3 : Int32)))] []))
                  refine own_fs (XS.iload X13.here hx rfl (hb hby at_218) rfl (Steps.refl _)) ?_
                  show own_G p.tables e below _ (T13.setTop (mkF m 220 #[.val (.long x0), .second, .val (.long y0), .second, .val (.long z0), .second, .val (.long w0), .second, .val (.int fl), .val (.long c1), .second, .val (.long n1), .second, .val (.long c2), .second, .val (.long n2), .second, .val (.ref b1), .val (.ref b5), .val (.int (1 : Int32)), .val (.int (1 : Int32)), .val (.int (((fl.toUInt32 >>> ((2 : Int32) &&& 31).toUInt32).toInt32) &&& (3 : Int32)))] [(.int (((fl.toUInt32 >>> ((2 : Int32) &&& 31).toUInt32).toInt32) &&& (3 : Int32)))]))
                  refine own_fs (XS.iconst X13.here hx rfl (hb hby at_220) (Steps.refl _)) ?_
                  show own_G p.tables e below _ (T13.setTop (mkF m 221 #[.val (.long x0), .second, .val (.long y0), .second, .val (.long z0), .second, .val (.long w0), .second, .val (.int fl), .val (.long c1), .second, .val (.long n1), .second, .val (.long c2), .second, .val (.long n2), .second, .val (.ref b1), .val (.ref b5), .val (.int (1 : Int32)), .val (.int (1 : Int32)), .val (.int (((fl.toUInt32 >>> ((2 : Int32) &&& 31).toUInt32).toInt32) &&& (3 : Int32)))] [(.int (3 : Int32)), (.int (((fl.toUInt32 >>> ((2 : Int32) &&& 31).toUInt32).toInt32) &&& (3 : Int32)))]))
                  by_cases hc221 : (((fl.toUInt32 >>> ((2 : Int32) &&& 31).toUInt32).toInt32) &&& (3 : Int32)) = (3 : Int32)
                  · refine own_fs (XS.icmpNo X13.here hx rfl (hb hby at_221) rfl (XT.ii_ne_f hc221) (Steps.refl _)) ?_
                    show own_G p.tables e below _ (T13.setTop (mkF m 224 #[.val (.long x0), .second, .val (.long y0), .second, .val (.long z0), .second, .val (.long w0), .second, .val (.int fl), .val (.long c1), .second, .val (.long n1), .second, .val (.long c2), .second, .val (.long n2), .second, .val (.ref b1), .val (.ref b5), .val (.int (1 : Int32)), .val (.int (1 : Int32)), .val (.int (((fl.toUInt32 >>> ((2 : Int32) &&& 31).toUInt32).toInt32) &&& (3 : Int32)))] []))
                    refine own_fs (XS.iload X13.here hx rfl (hb hby at_224) rfl (Steps.refl _)) ?_
                    show own_G p.tables e below _ (T13.setTop (mkF m 226 #[.val (.long x0), .second, .val (.long y0), .second, .val (.long z0), .second, .val (.long w0), .second, .val (.int fl), .val (.long c1), .second, .val (.long n1), .second, .val (.long c2), .second, .val (.long n2), .second, .val (.ref b1), .val (.ref b5), .val (.int (1 : Int32)), .val (.int (1 : Int32)), .val (.int (((fl.toUInt32 >>> ((2 : Int32) &&& 31).toUInt32).toInt32) &&& (3 : Int32)))] [(.int (1 : Int32))]))
                    refine own_fs (XS.ifNo X13.here hx rfl (hb hby at_226) rfl (XT.i0_eq_f (by decide : ¬ ((1 : Int32) = (0 : Int32)))) (Steps.refl _)) ?_
                    show own_G p.tables e below _ (T13.setTop (mkF m 229 #[.val (.long x0), .second, .val (.long y0), .second, .val (.long z0), .second, .val (.long w0), .second, .val (.int fl), .val (.long c1), .second, .val (.long n1), .second, .val (.long c2), .second, .val (.long n2), .second, .val (.ref b1), .val (.ref b5), .val (.int (1 : Int32)), .val (.int (1 : Int32)), .val (.int (((fl.toUInt32 >>> ((2 : Int32) &&& 31).toUInt32).toInt32) &&& (3 : Int32)))] []))
                    refine own_fs (XS.aload X13.here hx rfl (hb hby at_229) rfl rfl (Steps.refl _)) ?_
                    show own_G p.tables e below _ (T13.setTop (mkF m 231 #[.val (.long x0), .second, .val (.long y0), .second, .val (.long z0), .second, .val (.long w0), .second, .val (.int fl), .val (.long c1), .second, .val (.long n1), .second, .val (.long c2), .second, .val (.long n2), .second, .val (.ref b1), .val (.ref b5), .val (.int (1 : Int32)), .val (.int (1 : Int32)), .val (.int (((fl.toUInt32 >>> ((2 : Int32) &&& 31).toUInt32).toInt32) &&& (3 : Int32)))] [(.ref b1)]))
                    refine own_fs (XS.aload X13.here hx rfl (hb hby at_231) rfl rfl (Steps.refl _)) ?_
                    show own_G p.tables e below _ (T13.setTop (mkF m 233 #[.val (.long x0), .second, .val (.long y0), .second, .val (.long z0), .second, .val (.long w0), .second, .val (.int fl), .val (.long c1), .second, .val (.long n1), .second, .val (.long c2), .second, .val (.long n2), .second, .val (.ref b1), .val (.ref b5), .val (.int (1 : Int32)), .val (.int (1 : Int32)), .val (.int (((fl.toUInt32 >>> ((2 : Int32) &&& 31).toUInt32).toInt32) &&& (3 : Int32)))] [(.ref b1), (.ref b1)]))
                    have Zs27 : n0 ≤ h7.size := (Nat.le_trans (Nat.le_trans (Nat.le_trans (Nat.le_trans Z0 E1.1) K3.1) E5.1) K7.1)
                    obtain ⟨cq26, kq26, q26a, q26b, q26c⟩ := isOf hZ e13 ((Exa.ext E5 (A1.keep K3)).keep K7)
                    obtain ⟨_, _, ⟨T26, L26, k26, n26⟩, -, X26, ⟨Lc26, hQ26, l26, y26, z26⟩, st26⟩ := X13.virtualBack hx (y := (⟨"com/example/dibs/dibs/namespace/RequestId", "equals", "(Ljava/lang/Object;)Z"⟩ : MethodName)) (z := (⟨"com/example/dibs/dibs/namespace/RequestId", "equals", "(Ljava/lang/Object;)Z"⟩ : MethodName)) hown (mvT hZ (hw _ (List.mem_of_getElem? (i := 14) rfl))) (mvT hZ (hw _ (List.mem_of_getElem? (i := 15) rfl))) (notFace_of_selects (args := #[]) (mvT hZ (hw _ (List.mem_of_getElem? (i := 17) rfl)))) (mvT hZ (hw _ (List.mem_of_getElem? (i := 17) rfl))) (mvT hZ (hw _ (List.mem_of_getElem? (i := 16) rfl))) (by decide) (backOf (W := 0) (own_equals l Z a0 hw [] b1 c1 n1 b1 c1 n1 h7 n0 Zs27 ((Fld.ext E5 P2_0).keep K7 (ninS (Nat.ne_of_lt (Nat.lt_of_lt_of_le (Exa.lt (A1.keep K3)) (Nat.le_of_eq g5.symm))) nin0)) ((Fld.ext E5 P2_1).keep K7 (ninS (Nat.ne_of_lt (Nat.lt_of_lt_of_le (Exa.lt (A1.keep K3)) (Nat.le_of_eq g5.symm))) nin0)) ((Fld.ext E5 P2_0).keep K7 (ninS (Nat.ne_of_lt (Nat.lt_of_lt_of_le (Exa.lt (A1.keep K3)) (Nat.le_of_eq g5.symm))) nin0)) ((Fld.ext E5 P2_1).keep K7 (ninS (Nat.ne_of_lt (Nat.lt_of_lt_of_le (Exa.lt (A1.keep K3)) (Nat.le_of_eq g5.symm))) nin0)) ((Exa.ext E5 (A1.keep K3)).keep K7)) hZ (hw _ (List.mem_of_getElem? (i := 18) rfl)) (hw _ (List.mem_of_getElem? (i := 3) rfl)) (by decide) (by decide)) q26a q26c (g := (mkF m 233 #[.val (.long x0), .second, .val (.long y0), .second, .val (.long z0), .second, .val (.long w0), .second, .val (.int fl), .val (.long c1), .second, .val (.long n1), .second, .val (.long c2), .second, .val (.long n2), .second, .val (.ref b1), .val (.ref b5), .val (.int (1 : Int32)), .val (.int (1 : Int32)), .val (.int (((fl.toUInt32 >>> ((2 : Int32) &&& 31).toUInt32).toInt32) &&& (3 : Int32)))] [(.ref b1), (.ref b1)])) rfl (by rw [hml]; rfl) (Steps.refl _) (argsL := [(.ref b1)]) (rest := []) (lenOf own_pd3 rfl) rfl (by show 2 * 0 + _ ≤ _; exact Nat.le_of_eq rfl) (hb hby at_233) (fun _ _ => ⟨rfl, e13, (by decide : 2 + 0 ≤ _), (by decide : 4 + 0 ≤ _)⟩)
                    dsimp only [Pt.U, Pt.locs, Pt.cells, Pt.slots] at X26 l26 y26 z26 st26 hQ26
                    subst l26 y26 z26
                    obtain ⟨rfl, Nq26, e26⟩ := hQ26
                    have N26 := Fr.app N13 Nq26
                    refine own_fs st26 ?_
                    show own_G p.tables e below _ (T26.setTop (mkF m 236 #[.val (.long x0), .second, .val (.long y0), .second, .val (.long z0), .second, .val (.long w0), .second, .val (.int fl), .val (.long c1), .second, .val (.long n1), .second, .val (.long c2), .second, .val (.long n2), .second, .val (.ref b1), .val (.ref b5), .val (.int (1 : Int32)), .val (.int (1 : Int32)), .val (.int (((fl.toUInt32 >>> ((2 : Int32) &&& 31).toUInt32).toInt32) &&& (3 : Int32)))] [(.int (own_eq c1 n1 c1 n1))]))
                    rw [show own_eq c1 n1 c1 n1 = (1 : Int32) from by simp only [own_eq, if_pos cc1, if_pos cc2, if_pos nn1, if_pos nn2, ↓reduceIte]]
                    show own_G p.tables e below _ (T26.setTop (mkF m 236 #[.val (.long x0), .second, .val (.long y0), .second, .val (.long z0), .second, .val (.long w0), .second, .val (.int fl), .val (.long c1), .second, .val (.long n1), .second, .val (.long c2), .second, .val (.long n2), .second, .val (.ref b1), .val (.ref b5), .val (.int (1 : Int32)), .val (.int (1 : Int32)), .val (.int (((fl.toUInt32 >>> ((2 : Int32) &&& 31).toUInt32).toInt32) &&& (3 : Int32)))] [(.int (1 : Int32))]))
                    refine own_fs (XS.ifNo X26.here hx rfl (hb hby at_236) rfl (XT.i0_eq_f (by decide : ¬ ((1 : Int32) = (0 : Int32)))) (Steps.refl _)) ?_
                    show own_G p.tables e below _ (T26.setTop (mkF m 239 #[.val (.long x0), .second, .val (.long y0), .second, .val (.long z0), .second, .val (.long w0), .second, .val (.int fl), .val (.long c1), .second, .val (.long n1), .second, .val (.long c2), .second, .val (.long n2), .second, .val (.ref b1), .val (.ref b5), .val (.int (1 : Int32)), .val (.int (1 : Int32)), .val (.int (((fl.toUInt32 >>> ((2 : Int32) &&& 31).toUInt32).toInt32) &&& (3 : Int32)))] []))
                    refine own_fs (XS.iconst X26.here hx rfl (hb hby at_239) (Steps.refl _)) ?_
                    show own_G p.tables e below _ (T26.setTop (mkF m 240 #[.val (.long x0), .second, .val (.long y0), .second, .val (.long z0), .second, .val (.long w0), .second, .val (.int fl), .val (.long c1), .second, .val (.long n1), .second, .val (.long c2), .second, .val (.long n2), .second, .val (.ref b1), .val (.ref b5), .val (.int (1 : Int32)), .val (.int (1 : Int32)), .val (.int (((fl.toUInt32 >>> ((2 : Int32) &&& 31).toUInt32).toInt32) &&& (3 : Int32)))] [(.int (1 : Int32))]))
                    refine own_fs (XS.goto X26.here hx rfl (pc0 := 240) (pc' := 244) rfl (hb hby at_240) (by decide) (by decide) (Steps.refl _)) ?_
                    show own_G p.tables e below _ (T26.setTop (mkF m 244 #[.val (.long x0), .second, .val (.long y0), .second, .val (.long z0), .second, .val (.long w0), .second, .val (.int fl), .val (.long c1), .second, .val (.long n1), .second, .val (.long c2), .second, .val (.long n2), .second, .val (.ref b1), .val (.ref b5), .val (.int (1 : Int32)), .val (.int (1 : Int32)), .val (.int (((fl.toUInt32 >>> ((2 : Int32) &&& 31).toUInt32).toInt32) &&& (3 : Int32)))] [(.int (1 : Int32))]))
                    exact own_retN X26 hx (t := .boolean) Bd.returns hlk (by simp) (hb hby at_244) (by decide) (by decide) e26 ⟨rfl, N26⟩
                  · refine own_fs (XS.icmpYes X13.here hx rfl (pc0 := 221) (pc' := 245) rfl (hb hby at_221) rfl (XT.ii_ne_t hc221) (by decide) (by decide) (Steps.refl _)) ?_
                    show own_G p.tables e below _ (T13.setTop (mkF m 245 #[.val (.long x0), .second, .val (.long y0), .second, .val (.long z0), .second, .val (.long w0), .second, .val (.int fl), .val (.long c1), .second, .val (.long n1), .second, .val (.long c2), .second, .val (.long n2), .second, .val (.ref b1), .val (.ref b5), .val (.int (1 : Int32)), .val (.int (1 : Int32)), .val (.int (((fl.toUInt32 >>> ((2 : Int32) &&& 31).toUInt32).toInt32) &&& (3 : Int32)))] []))
                    refine own_fs (XS.iload X13.here hx rfl (hb hby at_245) rfl (Steps.refl _)) ?_
                    show own_G p.tables e below _ (T13.setTop (mkF m 247 #[.val (.long x0), .second, .val (.long y0), .second, .val (.long z0), .second, .val (.long w0), .second, .val (.int fl), .val (.long c1), .second, .val (.long n1), .second, .val (.long c2), .second, .val (.long n2), .second, .val (.ref b1), .val (.ref b5), .val (.int (1 : Int32)), .val (.int (1 : Int32)), .val (.int (((fl.toUInt32 >>> ((2 : Int32) &&& 31).toUInt32).toInt32) &&& (3 : Int32)))] [(.int (1 : Int32))]))
                    exact own_retN X13 hx (t := .boolean) Bd.returns hlk (by simp) (hb hby at_247) (by decide) (by decide) e13 ⟨rfl, N13⟩
            · show own_G p.tables e below _ (T7.setTop (mkF m 100 #[.val (.long x0), .second, .val (.long y0), .second, .val (.long z0), .second, .val (.long w0), .second, .val (.int fl), .val (.long c1), .second, .val (.long n1), .second, .val (.long c2), .second, .val (.long n2), .second, .val (.ref b1), .val (.ref b5), .unset, .unset, .unset] []))
              refine own_fs (XS.lload X7.here hx rfl (hb hby at_100) rfl (Steps.refl _)) ?_
              show own_G p.tables e below _ (T7.setTop (mkF m 102 #[.val (.long x0), .second, .val (.long y0), .second, .val (.long z0), .second, .val (.long w0), .second, .val (.int fl), .val (.long c1), .second, .val (.long n1), .second, .val (.long c2), .second, .val (.long n2), .second, .val (.ref b1), .val (.ref b5), .unset, .unset, .unset] [(.long c1)]))
              refine own_fs (XS.lload X7.here hx rfl (hb hby at_102) rfl (Steps.refl _)) ?_
              show own_G p.tables e below _ (T7.setTop (mkF m 104 #[.val (.long x0), .second, .val (.long y0), .second, .val (.long z0), .second, .val (.long w0), .second, .val (.int fl), .val (.long c1), .second, .val (.long n1), .second, .val (.long c2), .second, .val (.long n2), .second, .val (.ref b1), .val (.ref b5), .unset, .unset, .unset] [(.long c2), (.long c1)]))
              refine own_fs (XT.lcmp X7.here hx rfl (hb hby at_104) rfl (Steps.refl _)) ?_
              show own_G p.tables e below _ (T7.setTop (mkF m 105 #[.val (.long x0), .second, .val (.long y0), .second, .val (.long z0), .second, .val (.long w0), .second, .val (.int fl), .val (.long c1), .second, .val (.long n1), .second, .val (.long c2), .second, .val (.long n2), .second, .val (.ref b1), .val (.ref b5), .unset, .unset, .unset] [(.int (XT.cmpL c1 c2))]))
              refine own_fs (XS.ifNo X7.here hx rfl (hb hby at_105) rfl (XT.ll_ne_f cc1) (Steps.refl _)) ?_
              show own_G p.tables e below _ (T7.setTop (mkF m 108 #[.val (.long x0), .second, .val (.long y0), .second, .val (.long z0), .second, .val (.long w0), .second, .val (.int fl), .val (.long c1), .second, .val (.long n1), .second, .val (.long c2), .second, .val (.long n2), .second, .val (.ref b1), .val (.ref b5), .unset, .unset, .unset] []))
              refine own_fs (XS.lload X7.here hx rfl (hb hby at_108) rfl (Steps.refl _)) ?_
              show own_G p.tables e below _ (T7.setTop (mkF m 110 #[.val (.long x0), .second, .val (.long y0), .second, .val (.long z0), .second, .val (.long w0), .second, .val (.int fl), .val (.long c1), .second, .val (.long n1), .second, .val (.long c2), .second, .val (.long n2), .second, .val (.ref b1), .val (.ref b5), .unset, .unset, .unset] [(.long n1)]))
              refine own_fs (XS.lload X7.here hx rfl (hb hby at_110) rfl (Steps.refl _)) ?_
              show own_G p.tables e below _ (T7.setTop (mkF m 112 #[.val (.long x0), .second, .val (.long y0), .second, .val (.long z0), .second, .val (.long w0), .second, .val (.int fl), .val (.long c1), .second, .val (.long n1), .second, .val (.long c2), .second, .val (.long n2), .second, .val (.ref b1), .val (.ref b5), .unset, .unset, .unset] [(.long n2), (.long n1)]))
              refine own_fs (XT.lcmp X7.here hx rfl (hb hby at_112) rfl (Steps.refl _)) ?_
              show own_G p.tables e below _ (T7.setTop (mkF m 113 #[.val (.long x0), .second, .val (.long y0), .second, .val (.long z0), .second, .val (.long w0), .second, .val (.int fl), .val (.long c1), .second, .val (.long n1), .second, .val (.long c2), .second, .val (.long n2), .second, .val (.ref b1), .val (.ref b5), .unset, .unset, .unset] [(.int (XT.cmpL n1 n2))]))
              refine own_fs (XS.ifYes X7.here hx rfl (pc0 := 113) (pc' := 120) rfl (hb hby at_113) rfl (XT.ll_ne_t nn1) (by decide) (by decide) (Steps.refl _)) ?_
              show own_G p.tables e below _ (T7.setTop (mkF m 120 #[.val (.long x0), .second, .val (.long y0), .second, .val (.long z0), .second, .val (.long w0), .second, .val (.int fl), .val (.long c1), .second, .val (.long n1), .second, .val (.long c2), .second, .val (.long n2), .second, .val (.ref b1), .val (.ref b5), .unset, .unset, .unset] []))
              refine own_fs (XS.iconst X7.here hx rfl (hb hby at_120) (Steps.refl _)) ?_
              show own_G p.tables e below _ (T7.setTop (mkF m 121 #[.val (.long x0), .second, .val (.long y0), .second, .val (.long z0), .second, .val (.long w0), .second, .val (.int fl), .val (.long c1), .second, .val (.long n1), .second, .val (.long c2), .second, .val (.long n2), .second, .val (.ref b1), .val (.ref b5), .unset, .unset, .unset] [(.int (0 : Int32))]))
              refine own_fs (XS.istore X7.here hx rfl (hb hby at_121) rfl (l' := #[.val (.long x0), .second, .val (.long y0), .second, .val (.long z0), .second, .val (.long w0), .second, .val (.int fl), .val (.long c1), .second, .val (.long n1), .second, .val (.long c2), .second, .val (.long n2), .second, .val (.ref b1), .val (.ref b5), .val (.int (0 : Int32)), .unset, .unset]) rfl (Steps.refl _)) ?_
              show own_G p.tables e below _ (T7.setTop (mkF m 123 #[.val (.long x0), .second, .val (.long y0), .second, .val (.long z0), .second, .val (.long w0), .second, .val (.int fl), .val (.long c1), .second, .val (.long n1), .second, .val (.long c2), .second, .val (.long n2), .second, .val (.ref b1), .val (.ref b5), .val (.int (0 : Int32)), .unset, .unset] []))
              refine own_fs (XS.aload X7.here hx rfl (hb hby at_123) rfl rfl (Steps.refl _)) ?_
              show own_G p.tables e below _ (T7.setTop (mkF m 125 #[.val (.long x0), .second, .val (.long y0), .second, .val (.long z0), .second, .val (.long w0), .second, .val (.int fl), .val (.long c1), .second, .val (.long n1), .second, .val (.long c2), .second, .val (.long n2), .second, .val (.ref b1), .val (.ref b5), .val (.int (0 : Int32)), .unset, .unset] [(.ref b1)]))
              refine own_fs (XS.aload X7.here hx rfl (hb hby at_125) rfl rfl (Steps.refl _)) ?_
              show own_G p.tables e below _ (T7.setTop (mkF m 127 #[.val (.long x0), .second, .val (.long y0), .second, .val (.long z0), .second, .val (.long w0), .second, .val (.int fl), .val (.long c1), .second, .val (.long n1), .second, .val (.long c2), .second, .val (.long n2), .second, .val (.ref b1), .val (.ref b5), .val (.int (0 : Int32)), .unset, .unset] [(.ref b5), (.ref b1)]))
              have Zs30 : n0 ≤ h7.size := (Nat.le_trans (Nat.le_trans (Nat.le_trans (Nat.le_trans Z0 E1.1) K3.1) E5.1) K7.1)
              obtain ⟨cq29, kq29, q29a, q29b, q29c⟩ := isOf hZ e7 ((Exa.ext E5 (A1.keep K3)).keep K7)
              obtain ⟨_, _, ⟨T29, L29, k29, n29⟩, -, X29, ⟨Lc29, hQ29, l29, y29, z29⟩, st29⟩ := X7.virtualBack hx (y := (⟨"com/example/dibs/dibs/namespace/RequestId", "equals", "(Ljava/lang/Object;)Z"⟩ : MethodName)) (z := (⟨"com/example/dibs/dibs/namespace/RequestId", "equals", "(Ljava/lang/Object;)Z"⟩ : MethodName)) hown (mvT hZ (hw _ (List.mem_of_getElem? (i := 14) rfl))) (mvT hZ (hw _ (List.mem_of_getElem? (i := 15) rfl))) (notFace_of_selects (args := #[]) (mvT hZ (hw _ (List.mem_of_getElem? (i := 17) rfl)))) (mvT hZ (hw _ (List.mem_of_getElem? (i := 17) rfl))) (mvT hZ (hw _ (List.mem_of_getElem? (i := 16) rfl))) (by decide) (backOf (W := 0) (own_equals l Z a0 hw [] b1 c1 n1 b5 c2 n2 h7 n0 Zs30 ((Fld.ext E5 P2_0).keep K7 (ninS (Nat.ne_of_lt (Nat.lt_of_lt_of_le (Exa.lt (A1.keep K3)) (Nat.le_of_eq g5.symm))) nin0)) ((Fld.ext E5 P2_1).keep K7 (ninS (Nat.ne_of_lt (Nat.lt_of_lt_of_le (Exa.lt (A1.keep K3)) (Nat.le_of_eq g5.symm))) nin0)) P6_0 P6_1 (A5.keep K7)) hZ (hw _ (List.mem_of_getElem? (i := 18) rfl)) (hw _ (List.mem_of_getElem? (i := 3) rfl)) (by decide) (by decide)) q29a q29c (g := (mkF m 127 #[.val (.long x0), .second, .val (.long y0), .second, .val (.long z0), .second, .val (.long w0), .second, .val (.int fl), .val (.long c1), .second, .val (.long n1), .second, .val (.long c2), .second, .val (.long n2), .second, .val (.ref b1), .val (.ref b5), .val (.int (0 : Int32)), .unset, .unset] [(.ref b5), (.ref b1)])) rfl (by rw [hml]; rfl) (Steps.refl _) (argsL := [(.ref b5)]) (rest := []) (lenOf own_pd3 rfl) rfl (by show 2 * 0 + _ ≤ _; exact Nat.le_of_eq rfl) (hb hby at_127) (fun _ _ => ⟨rfl, e7, (by decide : 2 + 0 ≤ _), (by decide : 4 + 0 ≤ _)⟩)
              dsimp only [Pt.U, Pt.locs, Pt.cells, Pt.slots] at X29 l29 y29 z29 st29 hQ29
              subst l29 y29 z29
              obtain ⟨rfl, Nq29, e29⟩ := hQ29
              have N29 := Fr.app N7 Nq29
              refine own_fs st29 ?_
              show own_G p.tables e below _ (T29.setTop (mkF m 130 #[.val (.long x0), .second, .val (.long y0), .second, .val (.long z0), .second, .val (.long w0), .second, .val (.int fl), .val (.long c1), .second, .val (.long n1), .second, .val (.long c2), .second, .val (.long n2), .second, .val (.ref b1), .val (.ref b5), .val (.int (0 : Int32)), .unset, .unset] [(.int (own_eq c1 n1 c2 n2))]))
              rw [show own_eq c1 n1 c2 n2 = (0 : Int32) from by simp only [own_eq, if_neg nn1, if_neg nn2, if_pos cc1, if_pos cc2, ↓reduceIte]]
              show own_G p.tables e below _ (T29.setTop (mkF m 130 #[.val (.long x0), .second, .val (.long y0), .second, .val (.long z0), .second, .val (.long w0), .second, .val (.int fl), .val (.long c1), .second, .val (.long n1), .second, .val (.long c2), .second, .val (.long n2), .second, .val (.ref b1), .val (.ref b5), .val (.int (0 : Int32)), .unset, .unset] [(.int (0 : Int32))]))
              refine own_fs (XS.iload X29.here hx rfl (hb hby at_130) rfl (Steps.refl _)) ?_
              show own_G p.tables e below _ (T29.setTop (mkF m 132 #[.val (.long x0), .second, .val (.long y0), .second, .val (.long z0), .second, .val (.long w0), .second, .val (.int fl), .val (.long c1), .second, .val (.long n1), .second, .val (.long c2), .second, .val (.long n2), .second, .val (.ref b1), .val (.ref b5), .val (.int (0 : Int32)), .unset, .unset] [(.int (0 : Int32)), (.int (0 : Int32))]))
              refine own_fs (XS.icmpNo X29.here hx rfl (hb hby at_132) rfl (XT.ii_ne_f (by decide : (0 : Int32) = (0 : Int32))) (Steps.refl _)) ?_
              show own_G p.tables e below _ (T29.setTop (mkF m 135 #[.val (.long x0), .second, .val (.long y0), .second, .val (.long z0), .second, .val (.long w0), .second, .val (.int fl), .val (.long c1), .second, .val (.long n1), .second, .val (.long c2), .second, .val (.long n2), .second, .val (.ref b1), .val (.ref b5), .val (.int (0 : Int32)), .unset, .unset] []))
              refine own_fs (XS.aload X29.here hx rfl (hb hby at_135) rfl rfl (Steps.refl _)) ?_
              show own_G p.tables e below _ (T29.setTop (mkF m 137 #[.val (.long x0), .second, .val (.long y0), .second, .val (.long z0), .second, .val (.long w0), .second, .val (.int fl), .val (.long c1), .second, .val (.long n1), .second, .val (.long c2), .second, .val (.long n2), .second, .val (.ref b1), .val (.ref b5), .val (.int (0 : Int32)), .unset, .unset] [(.ref b5)]))
              refine own_fs (XS.aload X29.here hx rfl (hb hby at_137) rfl rfl (Steps.refl _)) ?_
              show own_G p.tables e below _ (T29.setTop (mkF m 139 #[.val (.long x0), .second, .val (.long y0), .second, .val (.long z0), .second, .val (.long w0), .second, .val (.int fl), .val (.long c1), .second, .val (.long n1), .second, .val (.long c2), .second, .val (.long n2), .second, .val (.ref b1), .val (.ref b5), .val (.int (0 : Int32)), .unset, .unset] [(.ref b1), (.ref b5)]))
              have Zs33 : n0 ≤ h7.size := (Nat.le_trans (Nat.le_trans (Nat.le_trans (Nat.le_trans Z0 E1.1) K3.1) E5.1) K7.1)
              obtain ⟨cq32, kq32, q32a, q32b, q32c⟩ := isOf hZ e29 (A5.keep K7)
              obtain ⟨_, _, ⟨T32, L32, k32, n32⟩, -, X32, ⟨Lc32, hQ32, l32, y32, z32⟩, st32⟩ := X29.virtualBack hx (y := (⟨"com/example/dibs/dibs/namespace/RequestId", "equals", "(Ljava/lang/Object;)Z"⟩ : MethodName)) (z := (⟨"com/example/dibs/dibs/namespace/RequestId", "equals", "(Ljava/lang/Object;)Z"⟩ : MethodName)) hown (mvT hZ (hw _ (List.mem_of_getElem? (i := 14) rfl))) (mvT hZ (hw _ (List.mem_of_getElem? (i := 15) rfl))) (notFace_of_selects (args := #[]) (mvT hZ (hw _ (List.mem_of_getElem? (i := 17) rfl)))) (mvT hZ (hw _ (List.mem_of_getElem? (i := 17) rfl))) (mvT hZ (hw _ (List.mem_of_getElem? (i := 16) rfl))) (by decide) (backOf (W := 0) (own_equals l Z a0 hw [] b5 c2 n2 b1 c1 n1 h7 n0 Zs33 P6_0 P6_1 ((Fld.ext E5 P2_0).keep K7 (ninS (Nat.ne_of_lt (Nat.lt_of_lt_of_le (Exa.lt (A1.keep K3)) (Nat.le_of_eq g5.symm))) nin0)) ((Fld.ext E5 P2_1).keep K7 (ninS (Nat.ne_of_lt (Nat.lt_of_lt_of_le (Exa.lt (A1.keep K3)) (Nat.le_of_eq g5.symm))) nin0)) ((Exa.ext E5 (A1.keep K3)).keep K7)) hZ (hw _ (List.mem_of_getElem? (i := 18) rfl)) (hw _ (List.mem_of_getElem? (i := 3) rfl)) (by decide) (by decide)) q32a q32c (g := (mkF m 139 #[.val (.long x0), .second, .val (.long y0), .second, .val (.long z0), .second, .val (.long w0), .second, .val (.int fl), .val (.long c1), .second, .val (.long n1), .second, .val (.long c2), .second, .val (.long n2), .second, .val (.ref b1), .val (.ref b5), .val (.int (0 : Int32)), .unset, .unset] [(.ref b1), (.ref b5)])) rfl (by rw [hml]; rfl) (Steps.refl _) (argsL := [(.ref b1)]) (rest := []) (lenOf own_pd3 rfl) rfl (by show 2 * 0 + _ ≤ _; exact Nat.le_of_eq rfl) (hb hby at_139) (fun _ _ => ⟨rfl, e29, (by decide : 2 + 0 ≤ _), (by decide : 4 + 0 ≤ _)⟩)
              dsimp only [Pt.U, Pt.locs, Pt.cells, Pt.slots] at X32 l32 y32 z32 st32 hQ32
              subst l32 y32 z32
              obtain ⟨rfl, Nq32, e32⟩ := hQ32
              have N32 := Fr.app N29 Nq32
              refine own_fs st32 ?_
              show own_G p.tables e below _ (T32.setTop (mkF m 142 #[.val (.long x0), .second, .val (.long y0), .second, .val (.long z0), .second, .val (.long w0), .second, .val (.int fl), .val (.long c1), .second, .val (.long n1), .second, .val (.long c2), .second, .val (.long n2), .second, .val (.ref b1), .val (.ref b5), .val (.int (0 : Int32)), .unset, .unset] [(.int (own_eq c2 n2 c1 n1))]))
              rw [show own_eq c2 n2 c1 n1 = (0 : Int32) from by simp only [own_eq, if_neg nn1, if_neg nn2, if_pos cc1, if_pos cc2, ↓reduceIte]]
              show own_G p.tables e below _ (T32.setTop (mkF m 142 #[.val (.long x0), .second, .val (.long y0), .second, .val (.long z0), .second, .val (.long w0), .second, .val (.int fl), .val (.long c1), .second, .val (.long n1), .second, .val (.long c2), .second, .val (.long n2), .second, .val (.ref b1), .val (.ref b5), .val (.int (0 : Int32)), .unset, .unset] [(.int (0 : Int32))]))
              refine own_fs (XS.iload X32.here hx rfl (hb hby at_142) rfl (Steps.refl _)) ?_
              show own_G p.tables e below _ (T32.setTop (mkF m 144 #[.val (.long x0), .second, .val (.long y0), .second, .val (.long z0), .second, .val (.long w0), .second, .val (.int fl), .val (.long c1), .second, .val (.long n1), .second, .val (.long c2), .second, .val (.long n2), .second, .val (.ref b1), .val (.ref b5), .val (.int (0 : Int32)), .unset, .unset] [(.int (0 : Int32)), (.int (0 : Int32))]))
              refine own_fs (XS.icmpNo X32.here hx rfl (hb hby at_144) rfl (XT.ii_ne_f (by decide : (0 : Int32) = (0 : Int32))) (Steps.refl _)) ?_
              show own_G p.tables e below _ (T32.setTop (mkF m 147 #[.val (.long x0), .second, .val (.long y0), .second, .val (.long z0), .second, .val (.long w0), .second, .val (.int fl), .val (.long c1), .second, .val (.long n1), .second, .val (.long c2), .second, .val (.long n2), .second, .val (.ref b1), .val (.ref b5), .val (.int (0 : Int32)), .unset, .unset] []))
              refine own_fs (XS.iconst X32.here hx rfl (hb hby at_147) (Steps.refl _)) ?_
              show own_G p.tables e below _ (T32.setTop (mkF m 148 #[.val (.long x0), .second, .val (.long y0), .second, .val (.long z0), .second, .val (.long w0), .second, .val (.int fl), .val (.long c1), .second, .val (.long n1), .second, .val (.long c2), .second, .val (.long n2), .second, .val (.ref b1), .val (.ref b5), .val (.int (0 : Int32)), .unset, .unset] [(.int (1 : Int32))]))
              refine own_fs (XS.goto X32.here hx rfl (pc0 := 148) (pc' := 152) rfl (hb hby at_148) (by decide) (by decide) (Steps.refl _)) ?_
              show own_G p.tables e below _ (T32.setTop (mkF m 152 #[.val (.long x0), .second, .val (.long y0), .second, .val (.long z0), .second, .val (.long w0), .second, .val (.int fl), .val (.long c1), .second, .val (.long n1), .second, .val (.long c2), .second, .val (.long n2), .second, .val (.ref b1), .val (.ref b5), .val (.int (0 : Int32)), .unset, .unset] [(.int (1 : Int32))]))
              refine own_fs (XS.istore X32.here hx rfl (hb hby at_152) rfl (l' := #[.val (.long x0), .second, .val (.long y0), .second, .val (.long z0), .second, .val (.long w0), .second, .val (.int fl), .val (.long c1), .second, .val (.long n1), .second, .val (.long c2), .second, .val (.long n2), .second, .val (.ref b1), .val (.ref b5), .val (.int (0 : Int32)), .val (.int (1 : Int32)), .unset]) rfl (Steps.refl _)) ?_
              show own_G p.tables e below _ (T32.setTop (mkF m 154 #[.val (.long x0), .second, .val (.long y0), .second, .val (.long z0), .second, .val (.long w0), .second, .val (.int fl), .val (.long c1), .second, .val (.long n1), .second, .val (.long c2), .second, .val (.long n2), .second, .val (.ref b1), .val (.ref b5), .val (.int (0 : Int32)), .val (.int (1 : Int32)), .unset] []))
              refine own_fs (XS.iload X32.here hx rfl (hb hby at_154) rfl (Steps.refl _)) ?_
              show own_G p.tables e below _ (T32.setTop (mkF m 156 #[.val (.long x0), .second, .val (.long y0), .second, .val (.long z0), .second, .val (.long w0), .second, .val (.int fl), .val (.long c1), .second, .val (.long n1), .second, .val (.long c2), .second, .val (.long n2), .second, .val (.ref b1), .val (.ref b5), .val (.int (0 : Int32)), .val (.int (1 : Int32)), .unset] [(.int fl)]))
              refine own_fs (XS.iconst X32.here hx rfl (hb hby at_156) (Steps.refl _)) ?_
              show own_G p.tables e below _ (T32.setTop (mkF m 157 #[.val (.long x0), .second, .val (.long y0), .second, .val (.long z0), .second, .val (.long w0), .second, .val (.int fl), .val (.long c1), .second, .val (.long n1), .second, .val (.long c2), .second, .val (.long n2), .second, .val (.ref b1), .val (.ref b5), .val (.int (0 : Int32)), .val (.int (1 : Int32)), .unset] [(.int (2 : Int32)), (.int fl)]))
              refine own_fs (XS.iushr X32.here hx rfl (hb hby at_157) rfl (Steps.refl _)) ?_
              show own_G p.tables e below _ (T32.setTop (mkF m 158 #[.val (.long x0), .second, .val (.long y0), .second, .val (.long z0), .second, .val (.long w0), .second, .val (.int fl), .val (.long c1), .second, .val (.long n1), .second, .val (.long c2), .second, .val (.long n2), .second, .val (.ref b1), .val (.ref b5), .val (.int (0 : Int32)), .val (.int (1 : Int32)), .unset] [(.int ((fl.toUInt32 >>> ((2 : Int32) &&& 31).toUInt32).toInt32))]))
              refine own_fs (XS.iconst X32.here hx rfl (hb hby at_158) (Steps.refl _)) ?_
              show own_G p.tables e below _ (T32.setTop (mkF m 159 #[.val (.long x0), .second, .val (.long y0), .second, .val (.long z0), .second, .val (.long w0), .second, .val (.int fl), .val (.long c1), .second, .val (.long n1), .second, .val (.long c2), .second, .val (.long n2), .second, .val (.ref b1), .val (.ref b5), .val (.int (0 : Int32)), .val (.int (1 : Int32)), .unset] [(.int (3 : Int32)), (.int ((fl.toUInt32 >>> ((2 : Int32) &&& 31).toUInt32).toInt32))]))
              refine own_fs (XS.iand X32.here hx rfl (hb hby at_159) rfl (Steps.refl _)) ?_
              show own_G p.tables e below _ (T32.setTop (mkF m 160 #[.val (.long x0), .second, .val (.long y0), .second, .val (.long z0), .second, .val (.long w0), .second, .val (.int fl), .val (.long c1), .second, .val (.long n1), .second, .val (.long c2), .second, .val (.long n2), .second, .val (.ref b1), .val (.ref b5), .val (.int (0 : Int32)), .val (.int (1 : Int32)), .unset] [(.int (((fl.toUInt32 >>> ((2 : Int32) &&& 31).toUInt32).toInt32) &&& (3 : Int32)))]))
              refine own_fs (XS.istore X32.here hx rfl (hb hby at_160) rfl (l' := #[.val (.long x0), .second, .val (.long y0), .second, .val (.long z0), .second, .val (.long w0), .second, .val (.int fl), .val (.long c1), .second, .val (.long n1), .second, .val (.long c2), .second, .val (.long n2), .second, .val (.ref b1), .val (.ref b5), .val (.int (0 : Int32)), .val (.int (1 : Int32)), .val (.int (((fl.toUInt32 >>> ((2 : Int32) &&& 31).toUInt32).toInt32) &&& (3 : Int32)))]) rfl (Steps.refl _)) ?_
              show own_G p.tables e below _ (T32.setTop (mkF m 162 #[.val (.long x0), .second, .val (.long y0), .second, .val (.long z0), .second, .val (.long w0), .second, .val (.int fl), .val (.long c1), .second, .val (.long n1), .second, .val (.long c2), .second, .val (.long n2), .second, .val (.ref b1), .val (.ref b5), .val (.int (0 : Int32)), .val (.int (1 : Int32)), .val (.int (((fl.toUInt32 >>> ((2 : Int32) &&& 31).toUInt32).toInt32) &&& (3 : Int32)))] []))
              refine own_fs (XS.iload X32.here hx rfl (hb hby at_162) rfl (Steps.refl _)) ?_
              show own_G p.tables e below _ (T32.setTop (mkF m 164 #[.val (.long x0), .second, .val (.long y0), .second, .val (.long z0), .second, .val (.long w0), .second, .val (.int fl), .val (.long c1), .second, .val (.long n1), .second, .val (.long c2), .second, .val (.long n2), .second, .val (.ref b1), .val (.ref b5), .val (.int (0 : Int32)), .val (.int (1 : Int32)), .val (.int (((fl.toUInt32 >>> ((2 : Int32) &&& 31).toUInt32).toInt32) &&& (3 : Int32)))] [(.int (((fl.toUInt32 >>> ((2 : Int32) &&& 31).toUInt32).toInt32) &&& (3 : Int32)))]))
              refine own_fs (XS.iconst X32.here hx rfl (hb hby at_164) (Steps.refl _)) ?_
              show own_G p.tables e below _ (T32.setTop (mkF m 165 #[.val (.long x0), .second, .val (.long y0), .second, .val (.long z0), .second, .val (.long w0), .second, .val (.int fl), .val (.long c1), .second, .val (.long n1), .second, .val (.long c2), .second, .val (.long n2), .second, .val (.ref b1), .val (.ref b5), .val (.int (0 : Int32)), .val (.int (1 : Int32)), .val (.int (((fl.toUInt32 >>> ((2 : Int32) &&& 31).toUInt32).toInt32) &&& (3 : Int32)))] [(.int (1 : Int32)), (.int (((fl.toUInt32 >>> ((2 : Int32) &&& 31).toUInt32).toInt32) &&& (3 : Int32)))]))
              by_cases hc165 : (((fl.toUInt32 >>> ((2 : Int32) &&& 31).toUInt32).toInt32) &&& (3 : Int32)) = (1 : Int32)
              · refine own_fs (XS.icmpNo X32.here hx rfl (hb hby at_165) rfl (XT.ii_ne_f hc165) (Steps.refl _)) ?_
                show own_G p.tables e below _ (T32.setTop (mkF m 168 #[.val (.long x0), .second, .val (.long y0), .second, .val (.long z0), .second, .val (.long w0), .second, .val (.int fl), .val (.long c1), .second, .val (.long n1), .second, .val (.long c2), .second, .val (.long n2), .second, .val (.ref b1), .val (.ref b5), .val (.int (0 : Int32)), .val (.int (1 : Int32)), .val (.int (((fl.toUInt32 >>> ((2 : Int32) &&& 31).toUInt32).toInt32) &&& (3 : Int32)))] []))
                refine own_fs (XS.iload X32.here hx rfl (hb hby at_168) rfl (Steps.refl _)) ?_
                show own_G p.tables e below _ (T32.setTop (mkF m 170 #[.val (.long x0), .second, .val (.long y0), .second, .val (.long z0), .second, .val (.long w0), .second, .val (.int fl), .val (.long c1), .second, .val (.long n1), .second, .val (.long c2), .second, .val (.long n2), .second, .val (.ref b1), .val (.ref b5), .val (.int (0 : Int32)), .val (.int (1 : Int32)), .val (.int (((fl.toUInt32 >>> ((2 : Int32) &&& 31).toUInt32).toInt32) &&& (3 : Int32)))] [(.int (1 : Int32))]))
                refine own_fs (XS.ifNo X32.here hx rfl (hb hby at_170) rfl (XT.i0_eq_f (by decide : ¬ ((1 : Int32) = (0 : Int32)))) (Steps.refl _)) ?_
                show own_G p.tables e below _ (T32.setTop (mkF m 173 #[.val (.long x0), .second, .val (.long y0), .second, .val (.long z0), .second, .val (.long w0), .second, .val (.int fl), .val (.long c1), .second, .val (.long n1), .second, .val (.long c2), .second, .val (.long n2), .second, .val (.ref b1), .val (.ref b5), .val (.int (0 : Int32)), .val (.int (1 : Int32)), .val (.int (((fl.toUInt32 >>> ((2 : Int32) &&& 31).toUInt32).toInt32) &&& (3 : Int32)))] []))
                refine own_fs (XS.aload X32.here hx rfl (hb hby at_173) rfl rfl (Steps.refl _)) ?_
                show own_G p.tables e below _ (T32.setTop (mkF m 175 #[.val (.long x0), .second, .val (.long y0), .second, .val (.long z0), .second, .val (.long w0), .second, .val (.int fl), .val (.long c1), .second, .val (.long n1), .second, .val (.long c2), .second, .val (.long n2), .second, .val (.ref b1), .val (.ref b5), .val (.int (0 : Int32)), .val (.int (1 : Int32)), .val (.int (((fl.toUInt32 >>> ((2 : Int32) &&& 31).toUInt32).toInt32) &&& (3 : Int32)))] [(.ref b1)]))
                refine own_fs (XS.aconstNull X32.here hx rfl (hb hby at_175) (Steps.refl _)) ?_
                show own_G p.tables e below _ (T32.setTop (mkF m 176 #[.val (.long x0), .second, .val (.long y0), .second, .val (.long z0), .second, .val (.long w0), .second, .val (.int fl), .val (.long c1), .second, .val (.long n1), .second, .val (.long c2), .second, .val (.long n2), .second, .val (.ref b1), .val (.ref b5), .val (.int (0 : Int32)), .val (.int (1 : Int32)), .val (.int (((fl.toUInt32 >>> ((2 : Int32) &&& 31).toUInt32).toInt32) &&& (3 : Int32)))] [.null, (.ref b1)]))
                have Zs36 : n0 ≤ h7.size := (Nat.le_trans (Nat.le_trans (Nat.le_trans (Nat.le_trans Z0 E1.1) K3.1) E5.1) K7.1)
                obtain ⟨cq35, kq35, q35a, q35b, q35c⟩ := isOf hZ e32 ((Exa.ext E5 (A1.keep K3)).keep K7)
                obtain ⟨_, _, ⟨T35, L35, k35, n35⟩, -, X35, ⟨Lc35, hQ35, l35, y35, z35⟩, st35⟩ := X32.virtualBack hx (y := (⟨"com/example/dibs/dibs/namespace/RequestId", "equals", "(Ljava/lang/Object;)Z"⟩ : MethodName)) (z := (⟨"com/example/dibs/dibs/namespace/RequestId", "equals", "(Ljava/lang/Object;)Z"⟩ : MethodName)) hown (mvT hZ (hw _ (List.mem_of_getElem? (i := 14) rfl))) (mvT hZ (hw _ (List.mem_of_getElem? (i := 15) rfl))) (notFace_of_selects (args := #[]) (mvT hZ (hw _ (List.mem_of_getElem? (i := 17) rfl)))) (mvT hZ (hw _ (List.mem_of_getElem? (i := 17) rfl))) (mvT hZ (hw _ (List.mem_of_getElem? (i := 16) rfl))) (by decide) (backOf (W := 0) (own_eqnull l Z a0 hw [] b1 h7 n0 Zs36 ) hZ (hw _ (List.mem_of_getElem? (i := 18) rfl)) (hw _ (List.mem_of_getElem? (i := 3) rfl)) (by decide) (by decide)) q35a q35c (g := (mkF m 176 #[.val (.long x0), .second, .val (.long y0), .second, .val (.long z0), .second, .val (.long w0), .second, .val (.int fl), .val (.long c1), .second, .val (.long n1), .second, .val (.long c2), .second, .val (.long n2), .second, .val (.ref b1), .val (.ref b5), .val (.int (0 : Int32)), .val (.int (1 : Int32)), .val (.int (((fl.toUInt32 >>> ((2 : Int32) &&& 31).toUInt32).toInt32) &&& (3 : Int32)))] [.null, (.ref b1)])) rfl (by rw [hml]; rfl) (Steps.refl _) (argsL := [.null]) (rest := []) (lenOf own_pd3 rfl) rfl (by show 2 * 0 + _ ≤ _; exact Nat.le_of_eq rfl) (hb hby at_176) (fun _ _ => ⟨rfl, e32, (by decide : 2 + 0 ≤ _), (by decide : 4 + 0 ≤ _)⟩)
                dsimp only [Pt.U, Pt.locs, Pt.cells, Pt.slots] at X35 l35 y35 z35 st35 hQ35
                subst l35 y35 z35
                obtain ⟨rfl, Nq35, e35⟩ := hQ35
                have N35 := Fr.app N32 Nq35
                refine own_fs st35 ?_
                show own_G p.tables e below _ (T35.setTop (mkF m 179 #[.val (.long x0), .second, .val (.long y0), .second, .val (.long z0), .second, .val (.long w0), .second, .val (.int fl), .val (.long c1), .second, .val (.long n1), .second, .val (.long c2), .second, .val (.long n2), .second, .val (.ref b1), .val (.ref b5), .val (.int (0 : Int32)), .val (.int (1 : Int32)), .val (.int (((fl.toUInt32 >>> ((2 : Int32) &&& 31).toUInt32).toInt32) &&& (3 : Int32)))] [(.int (0 : Int32))]))
                refine own_fs (XS.ifNo X35.here hx rfl (hb hby at_179) rfl (XT.i0_ne_f (by decide : (0 : Int32) = (0 : Int32))) (Steps.refl _)) ?_
                show own_G p.tables e below _ (T35.setTop (mkF m 182 #[.val (.long x0), .second, .val (.long y0), .second, .val (.long z0), .second, .val (.long w0), .second, .val (.int fl), .val (.long c1), .second, .val (.long n1), .second, .val (.long c2), .second, .val (.long n2), .second, .val (.ref b1), .val (.ref b5), .val (.int (0 : Int32)), .val (.int (1 : Int32)), .val (.int (((fl.toUInt32 >>> ((2 : Int32) &&& 31).toUInt32).toInt32) &&& (3 : Int32)))] []))
                refine own_fs (XS.iconst X35.here hx rfl (hb hby at_182) (Steps.refl _)) ?_
                show own_G p.tables e below _ (T35.setTop (mkF m 183 #[.val (.long x0), .second, .val (.long y0), .second, .val (.long z0), .second, .val (.long w0), .second, .val (.int fl), .val (.long c1), .second, .val (.long n1), .second, .val (.long c2), .second, .val (.long n2), .second, .val (.ref b1), .val (.ref b5), .val (.int (0 : Int32)), .val (.int (1 : Int32)), .val (.int (((fl.toUInt32 >>> ((2 : Int32) &&& 31).toUInt32).toInt32) &&& (3 : Int32)))] [(.int (1 : Int32))]))
                refine own_fs (XS.goto X35.here hx rfl (pc0 := 183) (pc' := 187) rfl (hb hby at_183) (by decide) (by decide) (Steps.refl _)) ?_
                show own_G p.tables e below _ (T35.setTop (mkF m 187 #[.val (.long x0), .second, .val (.long y0), .second, .val (.long z0), .second, .val (.long w0), .second, .val (.int fl), .val (.long c1), .second, .val (.long n1), .second, .val (.long c2), .second, .val (.long n2), .second, .val (.ref b1), .val (.ref b5), .val (.int (0 : Int32)), .val (.int (1 : Int32)), .val (.int (((fl.toUInt32 >>> ((2 : Int32) &&& 31).toUInt32).toInt32) &&& (3 : Int32)))] [(.int (1 : Int32))]))
                exact own_retN X35 hx (t := .boolean) Bd.returns hlk (by simp) (hb hby at_187) (by decide) (by decide) e35 ⟨rfl, N35⟩
              · refine own_fs (XS.icmpYes X32.here hx rfl (pc0 := 165) (pc' := 188) rfl (hb hby at_165) rfl (XT.ii_ne_t hc165) (by decide) (by decide) (Steps.refl _)) ?_
                show own_G p.tables e below _ (T32.setTop (mkF m 188 #[.val (.long x0), .second, .val (.long y0), .second, .val (.long z0), .second, .val (.long w0), .second, .val (.int fl), .val (.long c1), .second, .val (.long n1), .second, .val (.long c2), .second, .val (.long n2), .second, .val (.ref b1), .val (.ref b5), .val (.int (0 : Int32)), .val (.int (1 : Int32)), .val (.int (((fl.toUInt32 >>> ((2 : Int32) &&& 31).toUInt32).toInt32) &&& (3 : Int32)))] []))
                refine own_fs (XS.iload X32.here hx rfl (hb hby at_188) rfl (Steps.refl _)) ?_
                show own_G p.tables e below _ (T32.setTop (mkF m 190 #[.val (.long x0), .second, .val (.long y0), .second, .val (.long z0), .second, .val (.long w0), .second, .val (.int fl), .val (.long c1), .second, .val (.long n1), .second, .val (.long c2), .second, .val (.long n2), .second, .val (.ref b1), .val (.ref b5), .val (.int (0 : Int32)), .val (.int (1 : Int32)), .val (.int (((fl.toUInt32 >>> ((2 : Int32) &&& 31).toUInt32).toInt32) &&& (3 : Int32)))] [(.int (((fl.toUInt32 >>> ((2 : Int32) &&& 31).toUInt32).toInt32) &&& (3 : Int32)))]))
                refine own_fs (XS.iconst X32.here hx rfl (hb hby at_190) (Steps.refl _)) ?_
                show own_G p.tables e below _ (T32.setTop (mkF m 191 #[.val (.long x0), .second, .val (.long y0), .second, .val (.long z0), .second, .val (.long w0), .second, .val (.int fl), .val (.long c1), .second, .val (.long n1), .second, .val (.long c2), .second, .val (.long n2), .second, .val (.ref b1), .val (.ref b5), .val (.int (0 : Int32)), .val (.int (1 : Int32)), .val (.int (((fl.toUInt32 >>> ((2 : Int32) &&& 31).toUInt32).toInt32) &&& (3 : Int32)))] [(.int (2 : Int32)), (.int (((fl.toUInt32 >>> ((2 : Int32) &&& 31).toUInt32).toInt32) &&& (3 : Int32)))]))
                by_cases hc191 : (((fl.toUInt32 >>> ((2 : Int32) &&& 31).toUInt32).toInt32) &&& (3 : Int32)) = (2 : Int32)
                · refine own_fs (XS.icmpNo X32.here hx rfl (hb hby at_191) rfl (XT.ii_ne_f hc191) (Steps.refl _)) ?_
                  show own_G p.tables e below _ (T32.setTop (mkF m 194 #[.val (.long x0), .second, .val (.long y0), .second, .val (.long z0), .second, .val (.long w0), .second, .val (.int fl), .val (.long c1), .second, .val (.long n1), .second, .val (.long c2), .second, .val (.long n2), .second, .val (.ref b1), .val (.ref b5), .val (.int (0 : Int32)), .val (.int (1 : Int32)), .val (.int (((fl.toUInt32 >>> ((2 : Int32) &&& 31).toUInt32).toInt32) &&& (3 : Int32)))] []))
                  refine own_fs (XS.iload X32.here hx rfl (hb hby at_194) rfl (Steps.refl _)) ?_
                  show own_G p.tables e below _ (T32.setTop (mkF m 196 #[.val (.long x0), .second, .val (.long y0), .second, .val (.long z0), .second, .val (.long w0), .second, .val (.int fl), .val (.long c1), .second, .val (.long n1), .second, .val (.long c2), .second, .val (.long n2), .second, .val (.ref b1), .val (.ref b5), .val (.int (0 : Int32)), .val (.int (1 : Int32)), .val (.int (((fl.toUInt32 >>> ((2 : Int32) &&& 31).toUInt32).toInt32) &&& (3 : Int32)))] [(.int (1 : Int32))]))
                  refine own_fs (XS.ifNo X32.here hx rfl (hb hby at_196) rfl (XT.i0_eq_f (by decide : ¬ ((1 : Int32) = (0 : Int32)))) (Steps.refl _)) ?_
                  show own_G p.tables e below _ (T32.setTop (mkF m 199 #[.val (.long x0), .second, .val (.long y0), .second, .val (.long z0), .second, .val (.long w0), .second, .val (.int fl), .val (.long c1), .second, .val (.long n1), .second, .val (.long c2), .second, .val (.long n2), .second, .val (.ref b1), .val (.ref b5), .val (.int (0 : Int32)), .val (.int (1 : Int32)), .val (.int (((fl.toUInt32 >>> ((2 : Int32) &&& 31).toUInt32).toInt32) &&& (3 : Int32)))] []))
                  refine own_fs (XS.aload X32.here hx rfl (hb hby at_199) rfl rfl (Steps.refl _)) ?_
                  show own_G p.tables e below _ (T32.setTop (mkF m 201 #[.val (.long x0), .second, .val (.long y0), .second, .val (.long z0), .second, .val (.long w0), .second, .val (.int fl), .val (.long c1), .second, .val (.long n1), .second, .val (.long c2), .second, .val (.long n2), .second, .val (.ref b1), .val (.ref b5), .val (.int (0 : Int32)), .val (.int (1 : Int32)), .val (.int (((fl.toUInt32 >>> ((2 : Int32) &&& 31).toUInt32).toInt32) &&& (3 : Int32)))] [(.ref b1)]))
                  refine own_fs (XS.lload X32.here hx rfl (hb hby at_201) rfl (Steps.refl _)) ?_
                  show own_G p.tables e below _ (T32.setTop (mkF m 203 #[.val (.long x0), .second, .val (.long y0), .second, .val (.long z0), .second, .val (.long w0), .second, .val (.int fl), .val (.long c1), .second, .val (.long n1), .second, .val (.long c2), .second, .val (.long n2), .second, .val (.ref b1), .val (.ref b5), .val (.int (0 : Int32)), .val (.int (1 : Int32)), .val (.int (((fl.toUInt32 >>> ((2 : Int32) &&& 31).toUInt32).toInt32) &&& (3 : Int32)))] [(.long c1), (.ref b1)]))
                  have Zs40 : n0 ≤ h7.size := (Nat.le_trans (Nat.le_trans (Nat.le_trans (Nat.le_trans Z0 E1.1) K3.1) E5.1) K7.1)
                  obtain ⟨_, _, ⟨T39, L39, k39, n39⟩, -, X39, ⟨Lc39, hQ39, l39, y39, z39⟩, st39⟩ := Jvm.LawKit.callS X32 hx (y := (⟨"java/lang/Long", "valueOf", "(J)Ljava/lang/Long;"⟩ : MethodName)) hown (mvT hZ (hw _ (List.mem_of_getElem? (i := 21) rfl))) (mvT hZ (hw _ (List.mem_of_getElem? (i := 22) rfl))) (mvT hZ (hw _ (List.mem_of_getElem? (i := 23) rfl))) (mvT hZ (hw _ (List.mem_of_getElem? (i := 24) rfl))) (by decide) (backOf (W := 1) (own_valueOf l Z a0 hw [] c1 cb cc h7 n0 Zs40 hSta hBx (Old.keep (Old.ext (Old.keep (Old.ext hOld E1) K3 (allS ge_b1 all0)) E5) K7 (allS ge_b5 all0))) hZ (hw _ (List.mem_of_getElem? (i := 24) rfl)) (hw _ (List.mem_of_getElem? (i := 23) rfl)) (by decide) (by decide)) (g := (mkF m 203 #[.val (.long x0), .second, .val (.long y0), .second, .val (.long z0), .second, .val (.long w0), .second, .val (.int fl), .val (.long c1), .second, .val (.long n1), .second, .val (.long c2), .second, .val (.long n2), .second, .val (.ref b1), .val (.ref b5), .val (.int (0 : Int32)), .val (.int (1 : Int32)), .val (.int (((fl.toUInt32 >>> ((2 : Int32) &&& 31).toUInt32).toInt32) &&& (3 : Int32)))] [(.long c1), (.ref b1)])) rfl (by rw [hml]; rfl) (argsL := [(.long c1)]) (rest := [(.ref b1)]) (lenOf own_pd4 rfl) rfl (by show 2 * 0 + _ ≤ _; exact Nat.le_of_eq rfl) (hb hby at_203) (fun _ _ => ⟨rfl, e32, (by decide : 2 + 1 ≤ _), (by decide : 4 + 1 ≤ _)⟩)
                  dsimp only [Pt.U, Pt.locs, Pt.cells, Pt.slots] at X39 l39 y39 z39 st39 hQ39
                  subst l39 y39 z39
                  obtain ⟨h39, e39⟩ : ∃ h, T39.heap = h := ⟨_, rfl⟩
                  rw [e39] at hQ39
                  obtain ⟨ar37, rfl, Nq39, K39, P38_0, P38_1, P38_2⟩ := hQ39
                  have N39 := Fr.app N32 Nq39
                  refine own_fs (st39 _ (Steps.refl _)) ?_
                  show own_G p.tables e below _ (T39.setTop (mkF m 206 #[.val (.long x0), .second, .val (.long y0), .second, .val (.long z0), .second, .val (.long w0), .second, .val (.int fl), .val (.long c1), .second, .val (.long n1), .second, .val (.long c2), .second, .val (.long n2), .second, .val (.ref b1), .val (.ref b5), .val (.int (0 : Int32)), .val (.int (1 : Int32)), .val (.int (((fl.toUInt32 >>> ((2 : Int32) &&& 31).toUInt32).toInt32) &&& (3 : Int32)))] [(.ref ar37), (.ref b1)]))
                  have Zs43 : n0 ≤ h39.size := (Nat.le_trans (Nat.le_trans (Nat.le_trans (Nat.le_trans (Nat.le_trans Z0 E1.1) K3.1) E5.1) K7.1) K39.1)
                  obtain ⟨cq42, kq42, q42a, q42b, q42c⟩ := isOf hZ e39 (((Exa.ext E5 (A1.keep K3)).keep K7).keep K39)
                  obtain ⟨_, _, ⟨T42, L42, k42, n42⟩, -, X42, ⟨Lc42, hQ42, l42, y42, z42⟩, st42⟩ := X39.virtualBack hx (y := (⟨"com/example/dibs/dibs/namespace/RequestId", "equals", "(Ljava/lang/Object;)Z"⟩ : MethodName)) (z := (⟨"com/example/dibs/dibs/namespace/RequestId", "equals", "(Ljava/lang/Object;)Z"⟩ : MethodName)) hown (mvT hZ (hw _ (List.mem_of_getElem? (i := 14) rfl))) (mvT hZ (hw _ (List.mem_of_getElem? (i := 15) rfl))) (notFace_of_selects (args := #[]) (mvT hZ (hw _ (List.mem_of_getElem? (i := 17) rfl)))) (mvT hZ (hw _ (List.mem_of_getElem? (i := 17) rfl))) (mvT hZ (hw _ (List.mem_of_getElem? (i := 16) rfl))) (by decide) (backOf (W := 0) (own_eqlong l Z a0 hw [] b1 ar37 h39 n0 Zs43 P38_0) hZ (hw _ (List.mem_of_getElem? (i := 18) rfl)) (hw _ (List.mem_of_getElem? (i := 3) rfl)) (by decide) (by decide)) q42a q42c (g := (mkF m 206 #[.val (.long x0), .second, .val (.long y0), .second, .val (.long z0), .second, .val (.long w0), .second, .val (.int fl), .val (.long c1), .second, .val (.long n1), .second, .val (.long c2), .second, .val (.long n2), .second, .val (.ref b1), .val (.ref b5), .val (.int (0 : Int32)), .val (.int (1 : Int32)), .val (.int (((fl.toUInt32 >>> ((2 : Int32) &&& 31).toUInt32).toInt32) &&& (3 : Int32)))] [(.ref ar37), (.ref b1)])) rfl (by rw [hml]; rfl) (Steps.refl _) (argsL := [(.ref ar37)]) (rest := []) (lenOf own_pd3 rfl) rfl (by show 2 * 0 + _ ≤ _; exact Nat.le_of_eq rfl) (hb hby at_206) (fun _ _ => ⟨rfl, e39, (by decide : 3 + 0 ≤ _), (by decide : 5 + 0 ≤ _)⟩)
                  dsimp only [Pt.U, Pt.locs, Pt.cells, Pt.slots] at X42 l42 y42 z42 st42 hQ42
                  subst l42 y42 z42
                  obtain ⟨rfl, Nq42, e42⟩ := hQ42
                  have N42 := Fr.app N39 Nq42
                  refine own_fs st42 ?_
                  show own_G p.tables e below _ (T42.setTop (mkF m 209 #[.val (.long x0), .second, .val (.long y0), .second, .val (.long z0), .second, .val (.long w0), .second, .val (.int fl), .val (.long c1), .second, .val (.long n1), .second, .val (.long c2), .second, .val (.long n2), .second, .val (.ref b1), .val (.ref b5), .val (.int (0 : Int32)), .val (.int (1 : Int32)), .val (.int (((fl.toUInt32 >>> ((2 : Int32) &&& 31).toUInt32).toInt32) &&& (3 : Int32)))] [(.int (0 : Int32))]))
                  refine own_fs (XS.ifNo X42.here hx rfl (hb hby at_209) rfl (XT.i0_ne_f (by decide : (0 : Int32) = (0 : Int32))) (Steps.refl _)) ?_
                  show own_G p.tables e below _ (T42.setTop (mkF m 212 #[.val (.long x0), .second, .val (.long y0), .second, .val (.long z0), .second, .val (.long w0), .second, .val (.int fl), .val (.long c1), .second, .val (.long n1), .second, .val (.long c2), .second, .val (.long n2), .second, .val (.ref b1), .val (.ref b5), .val (.int (0 : Int32)), .val (.int (1 : Int32)), .val (.int (((fl.toUInt32 >>> ((2 : Int32) &&& 31).toUInt32).toInt32) &&& (3 : Int32)))] []))
                  refine own_fs (XS.iconst X42.here hx rfl (hb hby at_212) (Steps.refl _)) ?_
                  show own_G p.tables e below _ (T42.setTop (mkF m 213 #[.val (.long x0), .second, .val (.long y0), .second, .val (.long z0), .second, .val (.long w0), .second, .val (.int fl), .val (.long c1), .second, .val (.long n1), .second, .val (.long c2), .second, .val (.long n2), .second, .val (.ref b1), .val (.ref b5), .val (.int (0 : Int32)), .val (.int (1 : Int32)), .val (.int (((fl.toUInt32 >>> ((2 : Int32) &&& 31).toUInt32).toInt32) &&& (3 : Int32)))] [(.int (1 : Int32))]))
                  refine own_fs (XS.goto X42.here hx rfl (pc0 := 213) (pc' := 217) rfl (hb hby at_213) (by decide) (by decide) (Steps.refl _)) ?_
                  show own_G p.tables e below _ (T42.setTop (mkF m 217 #[.val (.long x0), .second, .val (.long y0), .second, .val (.long z0), .second, .val (.long w0), .second, .val (.int fl), .val (.long c1), .second, .val (.long n1), .second, .val (.long c2), .second, .val (.long n2), .second, .val (.ref b1), .val (.ref b5), .val (.int (0 : Int32)), .val (.int (1 : Int32)), .val (.int (((fl.toUInt32 >>> ((2 : Int32) &&& 31).toUInt32).toInt32) &&& (3 : Int32)))] [(.int (1 : Int32))]))
                  exact own_retN X42 hx (t := .boolean) Bd.returns hlk (by simp) (hb hby at_217) (by decide) (by decide) e42 ⟨rfl, N42⟩
                · refine own_fs (XS.icmpYes X32.here hx rfl (pc0 := 191) (pc' := 218) rfl (hb hby at_191) rfl (XT.ii_ne_t hc191) (by decide) (by decide) (Steps.refl _)) ?_
                  show own_G p.tables e below _ (T32.setTop (mkF m 218 #[.val (.long x0), .second, .val (.long y0), .second, .val (.long z0), .second, .val (.long w0), .second, .val (.int fl), .val (.long c1), .second, .val (.long n1), .second, .val (.long c2), .second, .val (.long n2), .second, .val (.ref b1), .val (.ref b5), .val (.int (0 : Int32)), .val (.int (1 : Int32)), .val (.int (((fl.toUInt32 >>> ((2 : Int32) &&& 31).toUInt32).toInt32) &&& (3 : Int32)))] []))
                  refine own_fs (XS.iload X32.here hx rfl (hb hby at_218) rfl (Steps.refl _)) ?_
                  show own_G p.tables e below _ (T32.setTop (mkF m 220 #[.val (.long x0), .second, .val (.long y0), .second, .val (.long z0), .second, .val (.long w0), .second, .val (.int fl), .val (.long c1), .second, .val (.long n1), .second, .val (.long c2), .second, .val (.long n2), .second, .val (.ref b1), .val (.ref b5), .val (.int (0 : Int32)), .val (.int (1 : Int32)), .val (.int (((fl.toUInt32 >>> ((2 : Int32) &&& 31).toUInt32).toInt32) &&& (3 : Int32)))] [(.int (((fl.toUInt32 >>> ((2 : Int32) &&& 31).toUInt32).toInt32) &&& (3 : Int32)))]))
                  refine own_fs (XS.iconst X32.here hx rfl (hb hby at_220) (Steps.refl _)) ?_
                  show own_G p.tables e below _ (T32.setTop (mkF m 221 #[.val (.long x0), .second, .val (.long y0), .second, .val (.long z0), .second, .val (.long w0), .second, .val (.int fl), .val (.long c1), .second, .val (.long n1), .second, .val (.long c2), .second, .val (.long n2), .second, .val (.ref b1), .val (.ref b5), .val (.int (0 : Int32)), .val (.int (1 : Int32)), .val (.int (((fl.toUInt32 >>> ((2 : Int32) &&& 31).toUInt32).toInt32) &&& (3 : Int32)))] [(.int (3 : Int32)), (.int (((fl.toUInt32 >>> ((2 : Int32) &&& 31).toUInt32).toInt32) &&& (3 : Int32)))]))
                  by_cases hc221 : (((fl.toUInt32 >>> ((2 : Int32) &&& 31).toUInt32).toInt32) &&& (3 : Int32)) = (3 : Int32)
                  · refine own_fs (XS.icmpNo X32.here hx rfl (hb hby at_221) rfl (XT.ii_ne_f hc221) (Steps.refl _)) ?_
                    show own_G p.tables e below _ (T32.setTop (mkF m 224 #[.val (.long x0), .second, .val (.long y0), .second, .val (.long z0), .second, .val (.long w0), .second, .val (.int fl), .val (.long c1), .second, .val (.long n1), .second, .val (.long c2), .second, .val (.long n2), .second, .val (.ref b1), .val (.ref b5), .val (.int (0 : Int32)), .val (.int (1 : Int32)), .val (.int (((fl.toUInt32 >>> ((2 : Int32) &&& 31).toUInt32).toInt32) &&& (3 : Int32)))] []))
                    refine own_fs (XS.iload X32.here hx rfl (hb hby at_224) rfl (Steps.refl _)) ?_
                    show own_G p.tables e below _ (T32.setTop (mkF m 226 #[.val (.long x0), .second, .val (.long y0), .second, .val (.long z0), .second, .val (.long w0), .second, .val (.int fl), .val (.long c1), .second, .val (.long n1), .second, .val (.long c2), .second, .val (.long n2), .second, .val (.ref b1), .val (.ref b5), .val (.int (0 : Int32)), .val (.int (1 : Int32)), .val (.int (((fl.toUInt32 >>> ((2 : Int32) &&& 31).toUInt32).toInt32) &&& (3 : Int32)))] [(.int (1 : Int32))]))
                    refine own_fs (XS.ifNo X32.here hx rfl (hb hby at_226) rfl (XT.i0_eq_f (by decide : ¬ ((1 : Int32) = (0 : Int32)))) (Steps.refl _)) ?_
                    show own_G p.tables e below _ (T32.setTop (mkF m 229 #[.val (.long x0), .second, .val (.long y0), .second, .val (.long z0), .second, .val (.long w0), .second, .val (.int fl), .val (.long c1), .second, .val (.long n1), .second, .val (.long c2), .second, .val (.long n2), .second, .val (.ref b1), .val (.ref b5), .val (.int (0 : Int32)), .val (.int (1 : Int32)), .val (.int (((fl.toUInt32 >>> ((2 : Int32) &&& 31).toUInt32).toInt32) &&& (3 : Int32)))] []))
                    refine own_fs (XS.aload X32.here hx rfl (hb hby at_229) rfl rfl (Steps.refl _)) ?_
                    show own_G p.tables e below _ (T32.setTop (mkF m 231 #[.val (.long x0), .second, .val (.long y0), .second, .val (.long z0), .second, .val (.long w0), .second, .val (.int fl), .val (.long c1), .second, .val (.long n1), .second, .val (.long c2), .second, .val (.long n2), .second, .val (.ref b1), .val (.ref b5), .val (.int (0 : Int32)), .val (.int (1 : Int32)), .val (.int (((fl.toUInt32 >>> ((2 : Int32) &&& 31).toUInt32).toInt32) &&& (3 : Int32)))] [(.ref b1)]))
                    refine own_fs (XS.aload X32.here hx rfl (hb hby at_231) rfl rfl (Steps.refl _)) ?_
                    show own_G p.tables e below _ (T32.setTop (mkF m 233 #[.val (.long x0), .second, .val (.long y0), .second, .val (.long z0), .second, .val (.long w0), .second, .val (.int fl), .val (.long c1), .second, .val (.long n1), .second, .val (.long c2), .second, .val (.long n2), .second, .val (.ref b1), .val (.ref b5), .val (.int (0 : Int32)), .val (.int (1 : Int32)), .val (.int (((fl.toUInt32 >>> ((2 : Int32) &&& 31).toUInt32).toInt32) &&& (3 : Int32)))] [(.ref b1), (.ref b1)]))
                    have Zs46 : n0 ≤ h7.size := (Nat.le_trans (Nat.le_trans (Nat.le_trans (Nat.le_trans Z0 E1.1) K3.1) E5.1) K7.1)
                    obtain ⟨cq45, kq45, q45a, q45b, q45c⟩ := isOf hZ e32 ((Exa.ext E5 (A1.keep K3)).keep K7)
                    obtain ⟨_, _, ⟨T45, L45, k45, n45⟩, -, X45, ⟨Lc45, hQ45, l45, y45, z45⟩, st45⟩ := X32.virtualBack hx (y := (⟨"com/example/dibs/dibs/namespace/RequestId", "equals", "(Ljava/lang/Object;)Z"⟩ : MethodName)) (z := (⟨"com/example/dibs/dibs/namespace/RequestId", "equals", "(Ljava/lang/Object;)Z"⟩ : MethodName)) hown (mvT hZ (hw _ (List.mem_of_getElem? (i := 14) rfl))) (mvT hZ (hw _ (List.mem_of_getElem? (i := 15) rfl))) (notFace_of_selects (args := #[]) (mvT hZ (hw _ (List.mem_of_getElem? (i := 17) rfl)))) (mvT hZ (hw _ (List.mem_of_getElem? (i := 17) rfl))) (mvT hZ (hw _ (List.mem_of_getElem? (i := 16) rfl))) (by decide) (backOf (W := 0) (own_equals l Z a0 hw [] b1 c1 n1 b1 c1 n1 h7 n0 Zs46 ((Fld.ext E5 P2_0).keep K7 (ninS (Nat.ne_of_lt (Nat.lt_of_lt_of_le (Exa.lt (A1.keep K3)) (Nat.le_of_eq g5.symm))) nin0)) ((Fld.ext E5 P2_1).keep K7 (ninS (Nat.ne_of_lt (Nat.lt_of_lt_of_le (Exa.lt (A1.keep K3)) (Nat.le_of_eq g5.symm))) nin0)) ((Fld.ext E5 P2_0).keep K7 (ninS (Nat.ne_of_lt (Nat.lt_of_lt_of_le (Exa.lt (A1.keep K3)) (Nat.le_of_eq g5.symm))) nin0)) ((Fld.ext E5 P2_1).keep K7 (ninS (Nat.ne_of_lt (Nat.lt_of_lt_of_le (Exa.lt (A1.keep K3)) (Nat.le_of_eq g5.symm))) nin0)) ((Exa.ext E5 (A1.keep K3)).keep K7)) hZ (hw _ (List.mem_of_getElem? (i := 18) rfl)) (hw _ (List.mem_of_getElem? (i := 3) rfl)) (by decide) (by decide)) q45a q45c (g := (mkF m 233 #[.val (.long x0), .second, .val (.long y0), .second, .val (.long z0), .second, .val (.long w0), .second, .val (.int fl), .val (.long c1), .second, .val (.long n1), .second, .val (.long c2), .second, .val (.long n2), .second, .val (.ref b1), .val (.ref b5), .val (.int (0 : Int32)), .val (.int (1 : Int32)), .val (.int (((fl.toUInt32 >>> ((2 : Int32) &&& 31).toUInt32).toInt32) &&& (3 : Int32)))] [(.ref b1), (.ref b1)])) rfl (by rw [hml]; rfl) (Steps.refl _) (argsL := [(.ref b1)]) (rest := []) (lenOf own_pd3 rfl) rfl (by show 2 * 0 + _ ≤ _; exact Nat.le_of_eq rfl) (hb hby at_233) (fun _ _ => ⟨rfl, e32, (by decide : 2 + 0 ≤ _), (by decide : 4 + 0 ≤ _)⟩)
                    dsimp only [Pt.U, Pt.locs, Pt.cells, Pt.slots] at X45 l45 y45 z45 st45 hQ45
                    subst l45 y45 z45
                    obtain ⟨rfl, Nq45, e45⟩ := hQ45
                    have N45 := Fr.app N32 Nq45
                    refine own_fs st45 ?_
                    show own_G p.tables e below _ (T45.setTop (mkF m 236 #[.val (.long x0), .second, .val (.long y0), .second, .val (.long z0), .second, .val (.long w0), .second, .val (.int fl), .val (.long c1), .second, .val (.long n1), .second, .val (.long c2), .second, .val (.long n2), .second, .val (.ref b1), .val (.ref b5), .val (.int (0 : Int32)), .val (.int (1 : Int32)), .val (.int (((fl.toUInt32 >>> ((2 : Int32) &&& 31).toUInt32).toInt32) &&& (3 : Int32)))] [(.int (own_eq c1 n1 c1 n1))]))
                    rw [show own_eq c1 n1 c1 n1 = (1 : Int32) from by simp only [own_eq, if_neg nn1, if_neg nn2, if_pos cc1, if_pos cc2, ↓reduceIte]]
                    show own_G p.tables e below _ (T45.setTop (mkF m 236 #[.val (.long x0), .second, .val (.long y0), .second, .val (.long z0), .second, .val (.long w0), .second, .val (.int fl), .val (.long c1), .second, .val (.long n1), .second, .val (.long c2), .second, .val (.long n2), .second, .val (.ref b1), .val (.ref b5), .val (.int (0 : Int32)), .val (.int (1 : Int32)), .val (.int (((fl.toUInt32 >>> ((2 : Int32) &&& 31).toUInt32).toInt32) &&& (3 : Int32)))] [(.int (1 : Int32))]))
                    refine own_fs (XS.ifNo X45.here hx rfl (hb hby at_236) rfl (XT.i0_eq_f (by decide : ¬ ((1 : Int32) = (0 : Int32)))) (Steps.refl _)) ?_
                    show own_G p.tables e below _ (T45.setTop (mkF m 239 #[.val (.long x0), .second, .val (.long y0), .second, .val (.long z0), .second, .val (.long w0), .second, .val (.int fl), .val (.long c1), .second, .val (.long n1), .second, .val (.long c2), .second, .val (.long n2), .second, .val (.ref b1), .val (.ref b5), .val (.int (0 : Int32)), .val (.int (1 : Int32)), .val (.int (((fl.toUInt32 >>> ((2 : Int32) &&& 31).toUInt32).toInt32) &&& (3 : Int32)))] []))
                    refine own_fs (XS.iconst X45.here hx rfl (hb hby at_239) (Steps.refl _)) ?_
                    show own_G p.tables e below _ (T45.setTop (mkF m 240 #[.val (.long x0), .second, .val (.long y0), .second, .val (.long z0), .second, .val (.long w0), .second, .val (.int fl), .val (.long c1), .second, .val (.long n1), .second, .val (.long c2), .second, .val (.long n2), .second, .val (.ref b1), .val (.ref b5), .val (.int (0 : Int32)), .val (.int (1 : Int32)), .val (.int (((fl.toUInt32 >>> ((2 : Int32) &&& 31).toUInt32).toInt32) &&& (3 : Int32)))] [(.int (1 : Int32))]))
                    refine own_fs (XS.goto X45.here hx rfl (pc0 := 240) (pc' := 244) rfl (hb hby at_240) (by decide) (by decide) (Steps.refl _)) ?_
                    show own_G p.tables e below _ (T45.setTop (mkF m 244 #[.val (.long x0), .second, .val (.long y0), .second, .val (.long z0), .second, .val (.long w0), .second, .val (.int fl), .val (.long c1), .second, .val (.long n1), .second, .val (.long c2), .second, .val (.long n2), .second, .val (.ref b1), .val (.ref b5), .val (.int (0 : Int32)), .val (.int (1 : Int32)), .val (.int (((fl.toUInt32 >>> ((2 : Int32) &&& 31).toUInt32).toInt32) &&& (3 : Int32)))] [(.int (1 : Int32))]))
                    exact own_retN X45 hx (t := .boolean) Bd.returns hlk (by simp) (hb hby at_244) (by decide) (by decide) e45 ⟨rfl, N45⟩
                  · refine own_fs (XS.icmpYes X32.here hx rfl (pc0 := 221) (pc' := 245) rfl (hb hby at_221) rfl (XT.ii_ne_t hc221) (by decide) (by decide) (Steps.refl _)) ?_
                    show own_G p.tables e below _ (T32.setTop (mkF m 245 #[.val (.long x0), .second, .val (.long y0), .second, .val (.long z0), .second, .val (.long w0), .second, .val (.int fl), .val (.long c1), .second, .val (.long n1), .second, .val (.long c2), .second, .val (.long n2), .second, .val (.ref b1), .val (.ref b5), .val (.int (0 : Int32)), .val (.int (1 : Int32)), .val (.int (((fl.toUInt32 >>> ((2 : Int32) &&& 31).toUInt32).toInt32) &&& (3 : Int32)))] []))
                    refine own_fs (XS.iload X32.here hx rfl (hb hby at_245) rfl (Steps.refl _)) ?_
                    show own_G p.tables e below _ (T32.setTop (mkF m 247 #[.val (.long x0), .second, .val (.long y0), .second, .val (.long z0), .second, .val (.long w0), .second, .val (.int fl), .val (.long c1), .second, .val (.long n1), .second, .val (.long c2), .second, .val (.long n2), .second, .val (.ref b1), .val (.ref b5), .val (.int (0 : Int32)), .val (.int (1 : Int32)), .val (.int (((fl.toUInt32 >>> ((2 : Int32) &&& 31).toUInt32).toInt32) &&& (3 : Int32)))] [(.int (1 : Int32))]))
                    exact own_retN X32 hx (t := .boolean) Bd.returns hlk (by simp) (hb hby at_247) (by decide) (by decide) e32 ⟨rfl, N32⟩
          · rcases own_dec n1 n2 with ⟨nn1, nn2⟩ | ⟨nn1, nn2⟩
            · show own_G p.tables e below _ (T7.setTop (mkF m 100 #[.val (.long x0), .second, .val (.long y0), .second, .val (.long z0), .second, .val (.long w0), .second, .val (.int fl), .val (.long c1), .second, .val (.long n1), .second, .val (.long c2), .second, .val (.long n2), .second, .val (.ref b1), .val (.ref b5), .unset, .unset, .unset] []))
              refine own_fs (XS.lload X7.here hx rfl (hb hby at_100) rfl (Steps.refl _)) ?_
              show own_G p.tables e below _ (T7.setTop (mkF m 102 #[.val (.long x0), .second, .val (.long y0), .second, .val (.long z0), .second, .val (.long w0), .second, .val (.int fl), .val (.long c1), .second, .val (.long n1), .second, .val (.long c2), .second, .val (.long n2), .second, .val (.ref b1), .val (.ref b5), .unset, .unset, .unset] [(.long c1)]))
              refine own_fs (XS.lload X7.here hx rfl (hb hby at_102) rfl (Steps.refl _)) ?_
              show own_G p.tables e below _ (T7.setTop (mkF m 104 #[.val (.long x0), .second, .val (.long y0), .second, .val (.long z0), .second, .val (.long w0), .second, .val (.int fl), .val (.long c1), .second, .val (.long n1), .second, .val (.long c2), .second, .val (.long n2), .second, .val (.ref b1), .val (.ref b5), .unset, .unset, .unset] [(.long c2), (.long c1)]))
              refine own_fs (XT.lcmp X7.here hx rfl (hb hby at_104) rfl (Steps.refl _)) ?_
              show own_G p.tables e below _ (T7.setTop (mkF m 105 #[.val (.long x0), .second, .val (.long y0), .second, .val (.long z0), .second, .val (.long w0), .second, .val (.int fl), .val (.long c1), .second, .val (.long n1), .second, .val (.long c2), .second, .val (.long n2), .second, .val (.ref b1), .val (.ref b5), .unset, .unset, .unset] [(.int (XT.cmpL c1 c2))]))
              refine own_fs (XS.ifYes X7.here hx rfl (pc0 := 105) (pc' := 120) rfl (hb hby at_105) rfl (XT.ll_ne_t cc1) (by decide) (by decide) (Steps.refl _)) ?_
              show own_G p.tables e below _ (T7.setTop (mkF m 120 #[.val (.long x0), .second, .val (.long y0), .second, .val (.long z0), .second, .val (.long w0), .second, .val (.int fl), .val (.long c1), .second, .val (.long n1), .second, .val (.long c2), .second, .val (.long n2), .second, .val (.ref b1), .val (.ref b5), .unset, .unset, .unset] []))
              refine own_fs (XS.iconst X7.here hx rfl (hb hby at_120) (Steps.refl _)) ?_
              show own_G p.tables e below _ (T7.setTop (mkF m 121 #[.val (.long x0), .second, .val (.long y0), .second, .val (.long z0), .second, .val (.long w0), .second, .val (.int fl), .val (.long c1), .second, .val (.long n1), .second, .val (.long c2), .second, .val (.long n2), .second, .val (.ref b1), .val (.ref b5), .unset, .unset, .unset] [(.int (0 : Int32))]))
              refine own_fs (XS.istore X7.here hx rfl (hb hby at_121) rfl (l' := #[.val (.long x0), .second, .val (.long y0), .second, .val (.long z0), .second, .val (.long w0), .second, .val (.int fl), .val (.long c1), .second, .val (.long n1), .second, .val (.long c2), .second, .val (.long n2), .second, .val (.ref b1), .val (.ref b5), .val (.int (0 : Int32)), .unset, .unset]) rfl (Steps.refl _)) ?_
              show own_G p.tables e below _ (T7.setTop (mkF m 123 #[.val (.long x0), .second, .val (.long y0), .second, .val (.long z0), .second, .val (.long w0), .second, .val (.int fl), .val (.long c1), .second, .val (.long n1), .second, .val (.long c2), .second, .val (.long n2), .second, .val (.ref b1), .val (.ref b5), .val (.int (0 : Int32)), .unset, .unset] []))
              refine own_fs (XS.aload X7.here hx rfl (hb hby at_123) rfl rfl (Steps.refl _)) ?_
              show own_G p.tables e below _ (T7.setTop (mkF m 125 #[.val (.long x0), .second, .val (.long y0), .second, .val (.long z0), .second, .val (.long w0), .second, .val (.int fl), .val (.long c1), .second, .val (.long n1), .second, .val (.long c2), .second, .val (.long n2), .second, .val (.ref b1), .val (.ref b5), .val (.int (0 : Int32)), .unset, .unset] [(.ref b1)]))
              refine own_fs (XS.aload X7.here hx rfl (hb hby at_125) rfl rfl (Steps.refl _)) ?_
              show own_G p.tables e below _ (T7.setTop (mkF m 127 #[.val (.long x0), .second, .val (.long y0), .second, .val (.long z0), .second, .val (.long w0), .second, .val (.int fl), .val (.long c1), .second, .val (.long n1), .second, .val (.long c2), .second, .val (.long n2), .second, .val (.ref b1), .val (.ref b5), .val (.int (0 : Int32)), .unset, .unset] [(.ref b5), (.ref b1)]))
              have Zs49 : n0 ≤ h7.size := (Nat.le_trans (Nat.le_trans (Nat.le_trans (Nat.le_trans Z0 E1.1) K3.1) E5.1) K7.1)
              obtain ⟨cq48, kq48, q48a, q48b, q48c⟩ := isOf hZ e7 ((Exa.ext E5 (A1.keep K3)).keep K7)
              obtain ⟨_, _, ⟨T48, L48, k48, n48⟩, -, X48, ⟨Lc48, hQ48, l48, y48, z48⟩, st48⟩ := X7.virtualBack hx (y := (⟨"com/example/dibs/dibs/namespace/RequestId", "equals", "(Ljava/lang/Object;)Z"⟩ : MethodName)) (z := (⟨"com/example/dibs/dibs/namespace/RequestId", "equals", "(Ljava/lang/Object;)Z"⟩ : MethodName)) hown (mvT hZ (hw _ (List.mem_of_getElem? (i := 14) rfl))) (mvT hZ (hw _ (List.mem_of_getElem? (i := 15) rfl))) (notFace_of_selects (args := #[]) (mvT hZ (hw _ (List.mem_of_getElem? (i := 17) rfl)))) (mvT hZ (hw _ (List.mem_of_getElem? (i := 17) rfl))) (mvT hZ (hw _ (List.mem_of_getElem? (i := 16) rfl))) (by decide) (backOf (W := 0) (own_equals l Z a0 hw [] b1 c1 n1 b5 c2 n2 h7 n0 Zs49 ((Fld.ext E5 P2_0).keep K7 (ninS (Nat.ne_of_lt (Nat.lt_of_lt_of_le (Exa.lt (A1.keep K3)) (Nat.le_of_eq g5.symm))) nin0)) ((Fld.ext E5 P2_1).keep K7 (ninS (Nat.ne_of_lt (Nat.lt_of_lt_of_le (Exa.lt (A1.keep K3)) (Nat.le_of_eq g5.symm))) nin0)) P6_0 P6_1 (A5.keep K7)) hZ (hw _ (List.mem_of_getElem? (i := 18) rfl)) (hw _ (List.mem_of_getElem? (i := 3) rfl)) (by decide) (by decide)) q48a q48c (g := (mkF m 127 #[.val (.long x0), .second, .val (.long y0), .second, .val (.long z0), .second, .val (.long w0), .second, .val (.int fl), .val (.long c1), .second, .val (.long n1), .second, .val (.long c2), .second, .val (.long n2), .second, .val (.ref b1), .val (.ref b5), .val (.int (0 : Int32)), .unset, .unset] [(.ref b5), (.ref b1)])) rfl (by rw [hml]; rfl) (Steps.refl _) (argsL := [(.ref b5)]) (rest := []) (lenOf own_pd3 rfl) rfl (by show 2 * 0 + _ ≤ _; exact Nat.le_of_eq rfl) (hb hby at_127) (fun _ _ => ⟨rfl, e7, (by decide : 2 + 0 ≤ _), (by decide : 4 + 0 ≤ _)⟩)
              dsimp only [Pt.U, Pt.locs, Pt.cells, Pt.slots] at X48 l48 y48 z48 st48 hQ48
              subst l48 y48 z48
              obtain ⟨rfl, Nq48, e48⟩ := hQ48
              have N48 := Fr.app N7 Nq48
              refine own_fs st48 ?_
              show own_G p.tables e below _ (T48.setTop (mkF m 130 #[.val (.long x0), .second, .val (.long y0), .second, .val (.long z0), .second, .val (.long w0), .second, .val (.int fl), .val (.long c1), .second, .val (.long n1), .second, .val (.long c2), .second, .val (.long n2), .second, .val (.ref b1), .val (.ref b5), .val (.int (0 : Int32)), .unset, .unset] [(.int (own_eq c1 n1 c2 n2))]))
              rw [show own_eq c1 n1 c2 n2 = (0 : Int32) from by simp only [own_eq, if_neg cc1, if_neg cc2, if_pos nn1, if_pos nn2, ↓reduceIte]]
              show own_G p.tables e below _ (T48.setTop (mkF m 130 #[.val (.long x0), .second, .val (.long y0), .second, .val (.long z0), .second, .val (.long w0), .second, .val (.int fl), .val (.long c1), .second, .val (.long n1), .second, .val (.long c2), .second, .val (.long n2), .second, .val (.ref b1), .val (.ref b5), .val (.int (0 : Int32)), .unset, .unset] [(.int (0 : Int32))]))
              refine own_fs (XS.iload X48.here hx rfl (hb hby at_130) rfl (Steps.refl _)) ?_
              show own_G p.tables e below _ (T48.setTop (mkF m 132 #[.val (.long x0), .second, .val (.long y0), .second, .val (.long z0), .second, .val (.long w0), .second, .val (.int fl), .val (.long c1), .second, .val (.long n1), .second, .val (.long c2), .second, .val (.long n2), .second, .val (.ref b1), .val (.ref b5), .val (.int (0 : Int32)), .unset, .unset] [(.int (0 : Int32)), (.int (0 : Int32))]))
              refine own_fs (XS.icmpNo X48.here hx rfl (hb hby at_132) rfl (XT.ii_ne_f (by decide : (0 : Int32) = (0 : Int32))) (Steps.refl _)) ?_
              show own_G p.tables e below _ (T48.setTop (mkF m 135 #[.val (.long x0), .second, .val (.long y0), .second, .val (.long z0), .second, .val (.long w0), .second, .val (.int fl), .val (.long c1), .second, .val (.long n1), .second, .val (.long c2), .second, .val (.long n2), .second, .val (.ref b1), .val (.ref b5), .val (.int (0 : Int32)), .unset, .unset] []))
              refine own_fs (XS.aload X48.here hx rfl (hb hby at_135) rfl rfl (Steps.refl _)) ?_
              show own_G p.tables e below _ (T48.setTop (mkF m 137 #[.val (.long x0), .second, .val (.long y0), .second, .val (.long z0), .second, .val (.long w0), .second, .val (.int fl), .val (.long c1), .second, .val (.long n1), .second, .val (.long c2), .second, .val (.long n2), .second, .val (.ref b1), .val (.ref b5), .val (.int (0 : Int32)), .unset, .unset] [(.ref b5)]))
              refine own_fs (XS.aload X48.here hx rfl (hb hby at_137) rfl rfl (Steps.refl _)) ?_
              show own_G p.tables e below _ (T48.setTop (mkF m 139 #[.val (.long x0), .second, .val (.long y0), .second, .val (.long z0), .second, .val (.long w0), .second, .val (.int fl), .val (.long c1), .second, .val (.long n1), .second, .val (.long c2), .second, .val (.long n2), .second, .val (.ref b1), .val (.ref b5), .val (.int (0 : Int32)), .unset, .unset] [(.ref b1), (.ref b5)]))
              have Zs52 : n0 ≤ h7.size := (Nat.le_trans (Nat.le_trans (Nat.le_trans (Nat.le_trans Z0 E1.1) K3.1) E5.1) K7.1)
              obtain ⟨cq51, kq51, q51a, q51b, q51c⟩ := isOf hZ e48 (A5.keep K7)
              obtain ⟨_, _, ⟨T51, L51, k51, n51⟩, -, X51, ⟨Lc51, hQ51, l51, y51, z51⟩, st51⟩ := X48.virtualBack hx (y := (⟨"com/example/dibs/dibs/namespace/RequestId", "equals", "(Ljava/lang/Object;)Z"⟩ : MethodName)) (z := (⟨"com/example/dibs/dibs/namespace/RequestId", "equals", "(Ljava/lang/Object;)Z"⟩ : MethodName)) hown (mvT hZ (hw _ (List.mem_of_getElem? (i := 14) rfl))) (mvT hZ (hw _ (List.mem_of_getElem? (i := 15) rfl))) (notFace_of_selects (args := #[]) (mvT hZ (hw _ (List.mem_of_getElem? (i := 17) rfl)))) (mvT hZ (hw _ (List.mem_of_getElem? (i := 17) rfl))) (mvT hZ (hw _ (List.mem_of_getElem? (i := 16) rfl))) (by decide) (backOf (W := 0) (own_equals l Z a0 hw [] b5 c2 n2 b1 c1 n1 h7 n0 Zs52 P6_0 P6_1 ((Fld.ext E5 P2_0).keep K7 (ninS (Nat.ne_of_lt (Nat.lt_of_lt_of_le (Exa.lt (A1.keep K3)) (Nat.le_of_eq g5.symm))) nin0)) ((Fld.ext E5 P2_1).keep K7 (ninS (Nat.ne_of_lt (Nat.lt_of_lt_of_le (Exa.lt (A1.keep K3)) (Nat.le_of_eq g5.symm))) nin0)) ((Exa.ext E5 (A1.keep K3)).keep K7)) hZ (hw _ (List.mem_of_getElem? (i := 18) rfl)) (hw _ (List.mem_of_getElem? (i := 3) rfl)) (by decide) (by decide)) q51a q51c (g := (mkF m 139 #[.val (.long x0), .second, .val (.long y0), .second, .val (.long z0), .second, .val (.long w0), .second, .val (.int fl), .val (.long c1), .second, .val (.long n1), .second, .val (.long c2), .second, .val (.long n2), .second, .val (.ref b1), .val (.ref b5), .val (.int (0 : Int32)), .unset, .unset] [(.ref b1), (.ref b5)])) rfl (by rw [hml]; rfl) (Steps.refl _) (argsL := [(.ref b1)]) (rest := []) (lenOf own_pd3 rfl) rfl (by show 2 * 0 + _ ≤ _; exact Nat.le_of_eq rfl) (hb hby at_139) (fun _ _ => ⟨rfl, e48, (by decide : 2 + 0 ≤ _), (by decide : 4 + 0 ≤ _)⟩)
              dsimp only [Pt.U, Pt.locs, Pt.cells, Pt.slots] at X51 l51 y51 z51 st51 hQ51
              subst l51 y51 z51
              obtain ⟨rfl, Nq51, e51⟩ := hQ51
              have N51 := Fr.app N48 Nq51
              refine own_fs st51 ?_
              show own_G p.tables e below _ (T51.setTop (mkF m 142 #[.val (.long x0), .second, .val (.long y0), .second, .val (.long z0), .second, .val (.long w0), .second, .val (.int fl), .val (.long c1), .second, .val (.long n1), .second, .val (.long c2), .second, .val (.long n2), .second, .val (.ref b1), .val (.ref b5), .val (.int (0 : Int32)), .unset, .unset] [(.int (own_eq c2 n2 c1 n1))]))
              rw [show own_eq c2 n2 c1 n1 = (0 : Int32) from by simp only [own_eq, if_neg cc1, if_neg cc2, if_pos nn1, if_pos nn2, ↓reduceIte]]
              show own_G p.tables e below _ (T51.setTop (mkF m 142 #[.val (.long x0), .second, .val (.long y0), .second, .val (.long z0), .second, .val (.long w0), .second, .val (.int fl), .val (.long c1), .second, .val (.long n1), .second, .val (.long c2), .second, .val (.long n2), .second, .val (.ref b1), .val (.ref b5), .val (.int (0 : Int32)), .unset, .unset] [(.int (0 : Int32))]))
              refine own_fs (XS.iload X51.here hx rfl (hb hby at_142) rfl (Steps.refl _)) ?_
              show own_G p.tables e below _ (T51.setTop (mkF m 144 #[.val (.long x0), .second, .val (.long y0), .second, .val (.long z0), .second, .val (.long w0), .second, .val (.int fl), .val (.long c1), .second, .val (.long n1), .second, .val (.long c2), .second, .val (.long n2), .second, .val (.ref b1), .val (.ref b5), .val (.int (0 : Int32)), .unset, .unset] [(.int (0 : Int32)), (.int (0 : Int32))]))
              refine own_fs (XS.icmpNo X51.here hx rfl (hb hby at_144) rfl (XT.ii_ne_f (by decide : (0 : Int32) = (0 : Int32))) (Steps.refl _)) ?_
              show own_G p.tables e below _ (T51.setTop (mkF m 147 #[.val (.long x0), .second, .val (.long y0), .second, .val (.long z0), .second, .val (.long w0), .second, .val (.int fl), .val (.long c1), .second, .val (.long n1), .second, .val (.long c2), .second, .val (.long n2), .second, .val (.ref b1), .val (.ref b5), .val (.int (0 : Int32)), .unset, .unset] []))
              refine own_fs (XS.iconst X51.here hx rfl (hb hby at_147) (Steps.refl _)) ?_
              show own_G p.tables e below _ (T51.setTop (mkF m 148 #[.val (.long x0), .second, .val (.long y0), .second, .val (.long z0), .second, .val (.long w0), .second, .val (.int fl), .val (.long c1), .second, .val (.long n1), .second, .val (.long c2), .second, .val (.long n2), .second, .val (.ref b1), .val (.ref b5), .val (.int (0 : Int32)), .unset, .unset] [(.int (1 : Int32))]))
              refine own_fs (XS.goto X51.here hx rfl (pc0 := 148) (pc' := 152) rfl (hb hby at_148) (by decide) (by decide) (Steps.refl _)) ?_
              show own_G p.tables e below _ (T51.setTop (mkF m 152 #[.val (.long x0), .second, .val (.long y0), .second, .val (.long z0), .second, .val (.long w0), .second, .val (.int fl), .val (.long c1), .second, .val (.long n1), .second, .val (.long c2), .second, .val (.long n2), .second, .val (.ref b1), .val (.ref b5), .val (.int (0 : Int32)), .unset, .unset] [(.int (1 : Int32))]))
              refine own_fs (XS.istore X51.here hx rfl (hb hby at_152) rfl (l' := #[.val (.long x0), .second, .val (.long y0), .second, .val (.long z0), .second, .val (.long w0), .second, .val (.int fl), .val (.long c1), .second, .val (.long n1), .second, .val (.long c2), .second, .val (.long n2), .second, .val (.ref b1), .val (.ref b5), .val (.int (0 : Int32)), .val (.int (1 : Int32)), .unset]) rfl (Steps.refl _)) ?_
              show own_G p.tables e below _ (T51.setTop (mkF m 154 #[.val (.long x0), .second, .val (.long y0), .second, .val (.long z0), .second, .val (.long w0), .second, .val (.int fl), .val (.long c1), .second, .val (.long n1), .second, .val (.long c2), .second, .val (.long n2), .second, .val (.ref b1), .val (.ref b5), .val (.int (0 : Int32)), .val (.int (1 : Int32)), .unset] []))
              refine own_fs (XS.iload X51.here hx rfl (hb hby at_154) rfl (Steps.refl _)) ?_
              show own_G p.tables e below _ (T51.setTop (mkF m 156 #[.val (.long x0), .second, .val (.long y0), .second, .val (.long z0), .second, .val (.long w0), .second, .val (.int fl), .val (.long c1), .second, .val (.long n1), .second, .val (.long c2), .second, .val (.long n2), .second, .val (.ref b1), .val (.ref b5), .val (.int (0 : Int32)), .val (.int (1 : Int32)), .unset] [(.int fl)]))
              refine own_fs (XS.iconst X51.here hx rfl (hb hby at_156) (Steps.refl _)) ?_
              show own_G p.tables e below _ (T51.setTop (mkF m 157 #[.val (.long x0), .second, .val (.long y0), .second, .val (.long z0), .second, .val (.long w0), .second, .val (.int fl), .val (.long c1), .second, .val (.long n1), .second, .val (.long c2), .second, .val (.long n2), .second, .val (.ref b1), .val (.ref b5), .val (.int (0 : Int32)), .val (.int (1 : Int32)), .unset] [(.int (2 : Int32)), (.int fl)]))
              refine own_fs (XS.iushr X51.here hx rfl (hb hby at_157) rfl (Steps.refl _)) ?_
              show own_G p.tables e below _ (T51.setTop (mkF m 158 #[.val (.long x0), .second, .val (.long y0), .second, .val (.long z0), .second, .val (.long w0), .second, .val (.int fl), .val (.long c1), .second, .val (.long n1), .second, .val (.long c2), .second, .val (.long n2), .second, .val (.ref b1), .val (.ref b5), .val (.int (0 : Int32)), .val (.int (1 : Int32)), .unset] [(.int ((fl.toUInt32 >>> ((2 : Int32) &&& 31).toUInt32).toInt32))]))
              refine own_fs (XS.iconst X51.here hx rfl (hb hby at_158) (Steps.refl _)) ?_
              show own_G p.tables e below _ (T51.setTop (mkF m 159 #[.val (.long x0), .second, .val (.long y0), .second, .val (.long z0), .second, .val (.long w0), .second, .val (.int fl), .val (.long c1), .second, .val (.long n1), .second, .val (.long c2), .second, .val (.long n2), .second, .val (.ref b1), .val (.ref b5), .val (.int (0 : Int32)), .val (.int (1 : Int32)), .unset] [(.int (3 : Int32)), (.int ((fl.toUInt32 >>> ((2 : Int32) &&& 31).toUInt32).toInt32))]))
              refine own_fs (XS.iand X51.here hx rfl (hb hby at_159) rfl (Steps.refl _)) ?_
              show own_G p.tables e below _ (T51.setTop (mkF m 160 #[.val (.long x0), .second, .val (.long y0), .second, .val (.long z0), .second, .val (.long w0), .second, .val (.int fl), .val (.long c1), .second, .val (.long n1), .second, .val (.long c2), .second, .val (.long n2), .second, .val (.ref b1), .val (.ref b5), .val (.int (0 : Int32)), .val (.int (1 : Int32)), .unset] [(.int (((fl.toUInt32 >>> ((2 : Int32) &&& 31).toUInt32).toInt32) &&& (3 : Int32)))]))
              refine own_fs (XS.istore X51.here hx rfl (hb hby at_160) rfl (l' := #[.val (.long x0), .second, .val (.long y0), .second, .val (.long z0), .second, .val (.long w0), .second, .val (.int fl), .val (.long c1), .second, .val (.long n1), .second, .val (.long c2), .second, .val (.long n2), .second, .val (.ref b1), .val (.ref b5), .val (.int (0 : Int32)), .val (.int (1 : Int32)), .val (.int (((fl.toUInt32 >>> ((2 : Int32) &&& 31).toUInt32).toInt32) &&& (3 : Int32)))]) rfl (Steps.refl _)) ?_
              show own_G p.tables e below _ (T51.setTop (mkF m 162 #[.val (.long x0), .second, .val (.long y0), .second, .val (.long z0), .second, .val (.long w0), .second, .val (.int fl), .val (.long c1), .second, .val (.long n1), .second, .val (.long c2), .second, .val (.long n2), .second, .val (.ref b1), .val (.ref b5), .val (.int (0 : Int32)), .val (.int (1 : Int32)), .val (.int (((fl.toUInt32 >>> ((2 : Int32) &&& 31).toUInt32).toInt32) &&& (3 : Int32)))] []))
              refine own_fs (XS.iload X51.here hx rfl (hb hby at_162) rfl (Steps.refl _)) ?_
              show own_G p.tables e below _ (T51.setTop (mkF m 164 #[.val (.long x0), .second, .val (.long y0), .second, .val (.long z0), .second, .val (.long w0), .second, .val (.int fl), .val (.long c1), .second, .val (.long n1), .second, .val (.long c2), .second, .val (.long n2), .second, .val (.ref b1), .val (.ref b5), .val (.int (0 : Int32)), .val (.int (1 : Int32)), .val (.int (((fl.toUInt32 >>> ((2 : Int32) &&& 31).toUInt32).toInt32) &&& (3 : Int32)))] [(.int (((fl.toUInt32 >>> ((2 : Int32) &&& 31).toUInt32).toInt32) &&& (3 : Int32)))]))
              refine own_fs (XS.iconst X51.here hx rfl (hb hby at_164) (Steps.refl _)) ?_
              show own_G p.tables e below _ (T51.setTop (mkF m 165 #[.val (.long x0), .second, .val (.long y0), .second, .val (.long z0), .second, .val (.long w0), .second, .val (.int fl), .val (.long c1), .second, .val (.long n1), .second, .val (.long c2), .second, .val (.long n2), .second, .val (.ref b1), .val (.ref b5), .val (.int (0 : Int32)), .val (.int (1 : Int32)), .val (.int (((fl.toUInt32 >>> ((2 : Int32) &&& 31).toUInt32).toInt32) &&& (3 : Int32)))] [(.int (1 : Int32)), (.int (((fl.toUInt32 >>> ((2 : Int32) &&& 31).toUInt32).toInt32) &&& (3 : Int32)))]))
              by_cases hc165 : (((fl.toUInt32 >>> ((2 : Int32) &&& 31).toUInt32).toInt32) &&& (3 : Int32)) = (1 : Int32)
              · refine own_fs (XS.icmpNo X51.here hx rfl (hb hby at_165) rfl (XT.ii_ne_f hc165) (Steps.refl _)) ?_
                show own_G p.tables e below _ (T51.setTop (mkF m 168 #[.val (.long x0), .second, .val (.long y0), .second, .val (.long z0), .second, .val (.long w0), .second, .val (.int fl), .val (.long c1), .second, .val (.long n1), .second, .val (.long c2), .second, .val (.long n2), .second, .val (.ref b1), .val (.ref b5), .val (.int (0 : Int32)), .val (.int (1 : Int32)), .val (.int (((fl.toUInt32 >>> ((2 : Int32) &&& 31).toUInt32).toInt32) &&& (3 : Int32)))] []))
                refine own_fs (XS.iload X51.here hx rfl (hb hby at_168) rfl (Steps.refl _)) ?_
                show own_G p.tables e below _ (T51.setTop (mkF m 170 #[.val (.long x0), .second, .val (.long y0), .second, .val (.long z0), .second, .val (.long w0), .second, .val (.int fl), .val (.long c1), .second, .val (.long n1), .second, .val (.long c2), .second, .val (.long n2), .second, .val (.ref b1), .val (.ref b5), .val (.int (0 : Int32)), .val (.int (1 : Int32)), .val (.int (((fl.toUInt32 >>> ((2 : Int32) &&& 31).toUInt32).toInt32) &&& (3 : Int32)))] [(.int (1 : Int32))]))
                refine own_fs (XS.ifNo X51.here hx rfl (hb hby at_170) rfl (XT.i0_eq_f (by decide : ¬ ((1 : Int32) = (0 : Int32)))) (Steps.refl _)) ?_
                show own_G p.tables e below _ (T51.setTop (mkF m 173 #[.val (.long x0), .second, .val (.long y0), .second, .val (.long z0), .second, .val (.long w0), .second, .val (.int fl), .val (.long c1), .second, .val (.long n1), .second, .val (.long c2), .second, .val (.long n2), .second, .val (.ref b1), .val (.ref b5), .val (.int (0 : Int32)), .val (.int (1 : Int32)), .val (.int (((fl.toUInt32 >>> ((2 : Int32) &&& 31).toUInt32).toInt32) &&& (3 : Int32)))] []))
                refine own_fs (XS.aload X51.here hx rfl (hb hby at_173) rfl rfl (Steps.refl _)) ?_
                show own_G p.tables e below _ (T51.setTop (mkF m 175 #[.val (.long x0), .second, .val (.long y0), .second, .val (.long z0), .second, .val (.long w0), .second, .val (.int fl), .val (.long c1), .second, .val (.long n1), .second, .val (.long c2), .second, .val (.long n2), .second, .val (.ref b1), .val (.ref b5), .val (.int (0 : Int32)), .val (.int (1 : Int32)), .val (.int (((fl.toUInt32 >>> ((2 : Int32) &&& 31).toUInt32).toInt32) &&& (3 : Int32)))] [(.ref b1)]))
                refine own_fs (XS.aconstNull X51.here hx rfl (hb hby at_175) (Steps.refl _)) ?_
                show own_G p.tables e below _ (T51.setTop (mkF m 176 #[.val (.long x0), .second, .val (.long y0), .second, .val (.long z0), .second, .val (.long w0), .second, .val (.int fl), .val (.long c1), .second, .val (.long n1), .second, .val (.long c2), .second, .val (.long n2), .second, .val (.ref b1), .val (.ref b5), .val (.int (0 : Int32)), .val (.int (1 : Int32)), .val (.int (((fl.toUInt32 >>> ((2 : Int32) &&& 31).toUInt32).toInt32) &&& (3 : Int32)))] [.null, (.ref b1)]))
                have Zs55 : n0 ≤ h7.size := (Nat.le_trans (Nat.le_trans (Nat.le_trans (Nat.le_trans Z0 E1.1) K3.1) E5.1) K7.1)
                obtain ⟨cq54, kq54, q54a, q54b, q54c⟩ := isOf hZ e51 ((Exa.ext E5 (A1.keep K3)).keep K7)
                obtain ⟨_, _, ⟨T54, L54, k54, n54⟩, -, X54, ⟨Lc54, hQ54, l54, y54, z54⟩, st54⟩ := X51.virtualBack hx (y := (⟨"com/example/dibs/dibs/namespace/RequestId", "equals", "(Ljava/lang/Object;)Z"⟩ : MethodName)) (z := (⟨"com/example/dibs/dibs/namespace/RequestId", "equals", "(Ljava/lang/Object;)Z"⟩ : MethodName)) hown (mvT hZ (hw _ (List.mem_of_getElem? (i := 14) rfl))) (mvT hZ (hw _ (List.mem_of_getElem? (i := 15) rfl))) (notFace_of_selects (args := #[]) (mvT hZ (hw _ (List.mem_of_getElem? (i := 17) rfl)))) (mvT hZ (hw _ (List.mem_of_getElem? (i := 17) rfl))) (mvT hZ (hw _ (List.mem_of_getElem? (i := 16) rfl))) (by decide) (backOf (W := 0) (own_eqnull l Z a0 hw [] b1 h7 n0 Zs55 ) hZ (hw _ (List.mem_of_getElem? (i := 18) rfl)) (hw _ (List.mem_of_getElem? (i := 3) rfl)) (by decide) (by decide)) q54a q54c (g := (mkF m 176 #[.val (.long x0), .second, .val (.long y0), .second, .val (.long z0), .second, .val (.long w0), .second, .val (.int fl), .val (.long c1), .second, .val (.long n1), .second, .val (.long c2), .second, .val (.long n2), .second, .val (.ref b1), .val (.ref b5), .val (.int (0 : Int32)), .val (.int (1 : Int32)), .val (.int (((fl.toUInt32 >>> ((2 : Int32) &&& 31).toUInt32).toInt32) &&& (3 : Int32)))] [.null, (.ref b1)])) rfl (by rw [hml]; rfl) (Steps.refl _) (argsL := [.null]) (rest := []) (lenOf own_pd3 rfl) rfl (by show 2 * 0 + _ ≤ _; exact Nat.le_of_eq rfl) (hb hby at_176) (fun _ _ => ⟨rfl, e51, (by decide : 2 + 0 ≤ _), (by decide : 4 + 0 ≤ _)⟩)
                dsimp only [Pt.U, Pt.locs, Pt.cells, Pt.slots] at X54 l54 y54 z54 st54 hQ54
                subst l54 y54 z54
                obtain ⟨rfl, Nq54, e54⟩ := hQ54
                have N54 := Fr.app N51 Nq54
                refine own_fs st54 ?_
                show own_G p.tables e below _ (T54.setTop (mkF m 179 #[.val (.long x0), .second, .val (.long y0), .second, .val (.long z0), .second, .val (.long w0), .second, .val (.int fl), .val (.long c1), .second, .val (.long n1), .second, .val (.long c2), .second, .val (.long n2), .second, .val (.ref b1), .val (.ref b5), .val (.int (0 : Int32)), .val (.int (1 : Int32)), .val (.int (((fl.toUInt32 >>> ((2 : Int32) &&& 31).toUInt32).toInt32) &&& (3 : Int32)))] [(.int (0 : Int32))]))
                refine own_fs (XS.ifNo X54.here hx rfl (hb hby at_179) rfl (XT.i0_ne_f (by decide : (0 : Int32) = (0 : Int32))) (Steps.refl _)) ?_
                show own_G p.tables e below _ (T54.setTop (mkF m 182 #[.val (.long x0), .second, .val (.long y0), .second, .val (.long z0), .second, .val (.long w0), .second, .val (.int fl), .val (.long c1), .second, .val (.long n1), .second, .val (.long c2), .second, .val (.long n2), .second, .val (.ref b1), .val (.ref b5), .val (.int (0 : Int32)), .val (.int (1 : Int32)), .val (.int (((fl.toUInt32 >>> ((2 : Int32) &&& 31).toUInt32).toInt32) &&& (3 : Int32)))] []))
                refine own_fs (XS.iconst X54.here hx rfl (hb hby at_182) (Steps.refl _)) ?_
                show own_G p.tables e below _ (T54.setTop (mkF m 183 #[.val (.long x0), .second, .val (.long y0), .second, .val (.long z0), .second, .val (.long w0), .second, .val (.int fl), .val (.long c1), .second, .val (.long n1), .second, .val (.long c2), .second, .val (.long n2), .second, .val (.ref b1), .val (.ref b5), .val (.int (0 : Int32)), .val (.int (1 : Int32)), .val (.int (((fl.toUInt32 >>> ((2 : Int32) &&& 31).toUInt32).toInt32) &&& (3 : Int32)))] [(.int (1 : Int32))]))
                refine own_fs (XS.goto X54.here hx rfl (pc0 := 183) (pc' := 187) rfl (hb hby at_183) (by decide) (by decide) (Steps.refl _)) ?_
                show own_G p.tables e below _ (T54.setTop (mkF m 187 #[.val (.long x0), .second, .val (.long y0), .second, .val (.long z0), .second, .val (.long w0), .second, .val (.int fl), .val (.long c1), .second, .val (.long n1), .second, .val (.long c2), .second, .val (.long n2), .second, .val (.ref b1), .val (.ref b5), .val (.int (0 : Int32)), .val (.int (1 : Int32)), .val (.int (((fl.toUInt32 >>> ((2 : Int32) &&& 31).toUInt32).toInt32) &&& (3 : Int32)))] [(.int (1 : Int32))]))
                exact own_retN X54 hx (t := .boolean) Bd.returns hlk (by simp) (hb hby at_187) (by decide) (by decide) e54 ⟨rfl, N54⟩
              · refine own_fs (XS.icmpYes X51.here hx rfl (pc0 := 165) (pc' := 188) rfl (hb hby at_165) rfl (XT.ii_ne_t hc165) (by decide) (by decide) (Steps.refl _)) ?_
                show own_G p.tables e below _ (T51.setTop (mkF m 188 #[.val (.long x0), .second, .val (.long y0), .second, .val (.long z0), .second, .val (.long w0), .second, .val (.int fl), .val (.long c1), .second, .val (.long n1), .second, .val (.long c2), .second, .val (.long n2), .second, .val (.ref b1), .val (.ref b5), .val (.int (0 : Int32)), .val (.int (1 : Int32)), .val (.int (((fl.toUInt32 >>> ((2 : Int32) &&& 31).toUInt32).toInt32) &&& (3 : Int32)))] []))
                refine own_fs (XS.iload X51.here hx rfl (hb hby at_188) rfl (Steps.refl _)) ?_
                show own_G p.tables e below _ (T51.setTop (mkF m 190 #[.val (.long x0), .second, .val (.long y0), .second, .val (.long z0), .second, .val (.long w0), .second, .val (.int fl), .val (.long c1), .second, .val (.long n1), .second, .val (.long c2), .second, .val (.long n2), .second, .val (.ref b1), .val (.ref b5), .val (.int (0 : Int32)), .val (.int (1 : Int32)), .val (.int (((fl.toUInt32 >>> ((2 : Int32) &&& 31).toUInt32).toInt32) &&& (3 : Int32)))] [(.int (((fl.toUInt32 >>> ((2 : Int32) &&& 31).toUInt32).toInt32) &&& (3 : Int32)))]))
                refine own_fs (XS.iconst X51.here hx rfl (hb hby at_190) (Steps.refl _)) ?_
                show own_G p.tables e below _ (T51.setTop (mkF m 191 #[.val (.long x0), .second, .val (.long y0), .second, .val (.long z0), .second, .val (.long w0), .second, .val (.int fl), .val (.long c1), .second, .val (.long n1), .second, .val (.long c2), .second, .val (.long n2), .second, .val (.ref b1), .val (.ref b5), .val (.int (0 : Int32)), .val (.int (1 : Int32)), .val (.int (((fl.toUInt32 >>> ((2 : Int32) &&& 31).toUInt32).toInt32) &&& (3 : Int32)))] [(.int (2 : Int32)), (.int (((fl.toUInt32 >>> ((2 : Int32) &&& 31).toUInt32).toInt32) &&& (3 : Int32)))]))
                by_cases hc191 : (((fl.toUInt32 >>> ((2 : Int32) &&& 31).toUInt32).toInt32) &&& (3 : Int32)) = (2 : Int32)
                · refine own_fs (XS.icmpNo X51.here hx rfl (hb hby at_191) rfl (XT.ii_ne_f hc191) (Steps.refl _)) ?_
                  show own_G p.tables e below _ (T51.setTop (mkF m 194 #[.val (.long x0), .second, .val (.long y0), .second, .val (.long z0), .second, .val (.long w0), .second, .val (.int fl), .val (.long c1), .second, .val (.long n1), .second, .val (.long c2), .second, .val (.long n2), .second, .val (.ref b1), .val (.ref b5), .val (.int (0 : Int32)), .val (.int (1 : Int32)), .val (.int (((fl.toUInt32 >>> ((2 : Int32) &&& 31).toUInt32).toInt32) &&& (3 : Int32)))] []))
                  refine own_fs (XS.iload X51.here hx rfl (hb hby at_194) rfl (Steps.refl _)) ?_
                  show own_G p.tables e below _ (T51.setTop (mkF m 196 #[.val (.long x0), .second, .val (.long y0), .second, .val (.long z0), .second, .val (.long w0), .second, .val (.int fl), .val (.long c1), .second, .val (.long n1), .second, .val (.long c2), .second, .val (.long n2), .second, .val (.ref b1), .val (.ref b5), .val (.int (0 : Int32)), .val (.int (1 : Int32)), .val (.int (((fl.toUInt32 >>> ((2 : Int32) &&& 31).toUInt32).toInt32) &&& (3 : Int32)))] [(.int (1 : Int32))]))
                  refine own_fs (XS.ifNo X51.here hx rfl (hb hby at_196) rfl (XT.i0_eq_f (by decide : ¬ ((1 : Int32) = (0 : Int32)))) (Steps.refl _)) ?_
                  show own_G p.tables e below _ (T51.setTop (mkF m 199 #[.val (.long x0), .second, .val (.long y0), .second, .val (.long z0), .second, .val (.long w0), .second, .val (.int fl), .val (.long c1), .second, .val (.long n1), .second, .val (.long c2), .second, .val (.long n2), .second, .val (.ref b1), .val (.ref b5), .val (.int (0 : Int32)), .val (.int (1 : Int32)), .val (.int (((fl.toUInt32 >>> ((2 : Int32) &&& 31).toUInt32).toInt32) &&& (3 : Int32)))] []))
                  refine own_fs (XS.aload X51.here hx rfl (hb hby at_199) rfl rfl (Steps.refl _)) ?_
                  show own_G p.tables e below _ (T51.setTop (mkF m 201 #[.val (.long x0), .second, .val (.long y0), .second, .val (.long z0), .second, .val (.long w0), .second, .val (.int fl), .val (.long c1), .second, .val (.long n1), .second, .val (.long c2), .second, .val (.long n2), .second, .val (.ref b1), .val (.ref b5), .val (.int (0 : Int32)), .val (.int (1 : Int32)), .val (.int (((fl.toUInt32 >>> ((2 : Int32) &&& 31).toUInt32).toInt32) &&& (3 : Int32)))] [(.ref b1)]))
                  refine own_fs (XS.lload X51.here hx rfl (hb hby at_201) rfl (Steps.refl _)) ?_
                  show own_G p.tables e below _ (T51.setTop (mkF m 203 #[.val (.long x0), .second, .val (.long y0), .second, .val (.long z0), .second, .val (.long w0), .second, .val (.int fl), .val (.long c1), .second, .val (.long n1), .second, .val (.long c2), .second, .val (.long n2), .second, .val (.ref b1), .val (.ref b5), .val (.int (0 : Int32)), .val (.int (1 : Int32)), .val (.int (((fl.toUInt32 >>> ((2 : Int32) &&& 31).toUInt32).toInt32) &&& (3 : Int32)))] [(.long c1), (.ref b1)]))
                  have Zs59 : n0 ≤ h7.size := (Nat.le_trans (Nat.le_trans (Nat.le_trans (Nat.le_trans Z0 E1.1) K3.1) E5.1) K7.1)
                  obtain ⟨_, _, ⟨T58, L58, k58, n58⟩, -, X58, ⟨Lc58, hQ58, l58, y58, z58⟩, st58⟩ := Jvm.LawKit.callS X51 hx (y := (⟨"java/lang/Long", "valueOf", "(J)Ljava/lang/Long;"⟩ : MethodName)) hown (mvT hZ (hw _ (List.mem_of_getElem? (i := 21) rfl))) (mvT hZ (hw _ (List.mem_of_getElem? (i := 22) rfl))) (mvT hZ (hw _ (List.mem_of_getElem? (i := 23) rfl))) (mvT hZ (hw _ (List.mem_of_getElem? (i := 24) rfl))) (by decide) (backOf (W := 1) (own_valueOf l Z a0 hw [] c1 cb cc h7 n0 Zs59 hSta hBx (Old.keep (Old.ext (Old.keep (Old.ext hOld E1) K3 (allS ge_b1 all0)) E5) K7 (allS ge_b5 all0))) hZ (hw _ (List.mem_of_getElem? (i := 24) rfl)) (hw _ (List.mem_of_getElem? (i := 23) rfl)) (by decide) (by decide)) (g := (mkF m 203 #[.val (.long x0), .second, .val (.long y0), .second, .val (.long z0), .second, .val (.long w0), .second, .val (.int fl), .val (.long c1), .second, .val (.long n1), .second, .val (.long c2), .second, .val (.long n2), .second, .val (.ref b1), .val (.ref b5), .val (.int (0 : Int32)), .val (.int (1 : Int32)), .val (.int (((fl.toUInt32 >>> ((2 : Int32) &&& 31).toUInt32).toInt32) &&& (3 : Int32)))] [(.long c1), (.ref b1)])) rfl (by rw [hml]; rfl) (argsL := [(.long c1)]) (rest := [(.ref b1)]) (lenOf own_pd4 rfl) rfl (by show 2 * 0 + _ ≤ _; exact Nat.le_of_eq rfl) (hb hby at_203) (fun _ _ => ⟨rfl, e51, (by decide : 2 + 1 ≤ _), (by decide : 4 + 1 ≤ _)⟩)
                  dsimp only [Pt.U, Pt.locs, Pt.cells, Pt.slots] at X58 l58 y58 z58 st58 hQ58
                  subst l58 y58 z58
                  obtain ⟨h58, e58⟩ : ∃ h, T58.heap = h := ⟨_, rfl⟩
                  rw [e58] at hQ58
                  obtain ⟨ar56, rfl, Nq58, K58, P57_0, P57_1, P57_2⟩ := hQ58
                  have N58 := Fr.app N51 Nq58
                  refine own_fs (st58 _ (Steps.refl _)) ?_
                  show own_G p.tables e below _ (T58.setTop (mkF m 206 #[.val (.long x0), .second, .val (.long y0), .second, .val (.long z0), .second, .val (.long w0), .second, .val (.int fl), .val (.long c1), .second, .val (.long n1), .second, .val (.long c2), .second, .val (.long n2), .second, .val (.ref b1), .val (.ref b5), .val (.int (0 : Int32)), .val (.int (1 : Int32)), .val (.int (((fl.toUInt32 >>> ((2 : Int32) &&& 31).toUInt32).toInt32) &&& (3 : Int32)))] [(.ref ar56), (.ref b1)]))
                  have Zs62 : n0 ≤ h58.size := (Nat.le_trans (Nat.le_trans (Nat.le_trans (Nat.le_trans (Nat.le_trans Z0 E1.1) K3.1) E5.1) K7.1) K58.1)
                  obtain ⟨cq61, kq61, q61a, q61b, q61c⟩ := isOf hZ e58 (((Exa.ext E5 (A1.keep K3)).keep K7).keep K58)
                  obtain ⟨_, _, ⟨T61, L61, k61, n61⟩, -, X61, ⟨Lc61, hQ61, l61, y61, z61⟩, st61⟩ := X58.virtualBack hx (y := (⟨"com/example/dibs/dibs/namespace/RequestId", "equals", "(Ljava/lang/Object;)Z"⟩ : MethodName)) (z := (⟨"com/example/dibs/dibs/namespace/RequestId", "equals", "(Ljava/lang/Object;)Z"⟩ : MethodName)) hown (mvT hZ (hw _ (List.mem_of_getElem? (i := 14) rfl))) (mvT hZ (hw _ (List.mem_of_getElem? (i := 15) rfl))) (notFace_of_selects (args := #[]) (mvT hZ (hw _ (List.mem_of_getElem? (i := 17) rfl)))) (mvT hZ (hw _ (List.mem_of_getElem? (i := 17) rfl))) (mvT hZ (hw _ (List.mem_of_getElem? (i := 16) rfl))) (by decide) (backOf (W := 0) (own_eqlong l Z a0 hw [] b1 ar56 h58 n0 Zs62 P57_0) hZ (hw _ (List.mem_of_getElem? (i := 18) rfl)) (hw _ (List.mem_of_getElem? (i := 3) rfl)) (by decide) (by decide)) q61a q61c (g := (mkF m 206 #[.val (.long x0), .second, .val (.long y0), .second, .val (.long z0), .second, .val (.long w0), .second, .val (.int fl), .val (.long c1), .second, .val (.long n1), .second, .val (.long c2), .second, .val (.long n2), .second, .val (.ref b1), .val (.ref b5), .val (.int (0 : Int32)), .val (.int (1 : Int32)), .val (.int (((fl.toUInt32 >>> ((2 : Int32) &&& 31).toUInt32).toInt32) &&& (3 : Int32)))] [(.ref ar56), (.ref b1)])) rfl (by rw [hml]; rfl) (Steps.refl _) (argsL := [(.ref ar56)]) (rest := []) (lenOf own_pd3 rfl) rfl (by show 2 * 0 + _ ≤ _; exact Nat.le_of_eq rfl) (hb hby at_206) (fun _ _ => ⟨rfl, e58, (by decide : 3 + 0 ≤ _), (by decide : 5 + 0 ≤ _)⟩)
                  dsimp only [Pt.U, Pt.locs, Pt.cells, Pt.slots] at X61 l61 y61 z61 st61 hQ61
                  subst l61 y61 z61
                  obtain ⟨rfl, Nq61, e61⟩ := hQ61
                  have N61 := Fr.app N58 Nq61
                  refine own_fs st61 ?_
                  show own_G p.tables e below _ (T61.setTop (mkF m 209 #[.val (.long x0), .second, .val (.long y0), .second, .val (.long z0), .second, .val (.long w0), .second, .val (.int fl), .val (.long c1), .second, .val (.long n1), .second, .val (.long c2), .second, .val (.long n2), .second, .val (.ref b1), .val (.ref b5), .val (.int (0 : Int32)), .val (.int (1 : Int32)), .val (.int (((fl.toUInt32 >>> ((2 : Int32) &&& 31).toUInt32).toInt32) &&& (3 : Int32)))] [(.int (0 : Int32))]))
                  refine own_fs (XS.ifNo X61.here hx rfl (hb hby at_209) rfl (XT.i0_ne_f (by decide : (0 : Int32) = (0 : Int32))) (Steps.refl _)) ?_
                  show own_G p.tables e below _ (T61.setTop (mkF m 212 #[.val (.long x0), .second, .val (.long y0), .second, .val (.long z0), .second, .val (.long w0), .second, .val (.int fl), .val (.long c1), .second, .val (.long n1), .second, .val (.long c2), .second, .val (.long n2), .second, .val (.ref b1), .val (.ref b5), .val (.int (0 : Int32)), .val (.int (1 : Int32)), .val (.int (((fl.toUInt32 >>> ((2 : Int32) &&& 31).toUInt32).toInt32) &&& (3 : Int32)))] []))
                  refine own_fs (XS.iconst X61.here hx rfl (hb hby at_212) (Steps.refl _)) ?_
                  show own_G p.tables e below _ (T61.setTop (mkF m 213 #[.val (.long x0), .second, .val (.long y0), .second, .val (.long z0), .second, .val (.long w0), .second, .val (.int fl), .val (.long c1), .second, .val (.long n1), .second, .val (.long c2), .second, .val (.long n2), .second, .val (.ref b1), .val (.ref b5), .val (.int (0 : Int32)), .val (.int (1 : Int32)), .val (.int (((fl.toUInt32 >>> ((2 : Int32) &&& 31).toUInt32).toInt32) &&& (3 : Int32)))] [(.int (1 : Int32))]))
                  refine own_fs (XS.goto X61.here hx rfl (pc0 := 213) (pc' := 217) rfl (hb hby at_213) (by decide) (by decide) (Steps.refl _)) ?_
                  show own_G p.tables e below _ (T61.setTop (mkF m 217 #[.val (.long x0), .second, .val (.long y0), .second, .val (.long z0), .second, .val (.long w0), .second, .val (.int fl), .val (.long c1), .second, .val (.long n1), .second, .val (.long c2), .second, .val (.long n2), .second, .val (.ref b1), .val (.ref b5), .val (.int (0 : Int32)), .val (.int (1 : Int32)), .val (.int (((fl.toUInt32 >>> ((2 : Int32) &&& 31).toUInt32).toInt32) &&& (3 : Int32)))] [(.int (1 : Int32))]))
                  exact own_retN X61 hx (t := .boolean) Bd.returns hlk (by simp) (hb hby at_217) (by decide) (by decide) e61 ⟨rfl, N61⟩
                · refine own_fs (XS.icmpYes X51.here hx rfl (pc0 := 191) (pc' := 218) rfl (hb hby at_191) rfl (XT.ii_ne_t hc191) (by decide) (by decide) (Steps.refl _)) ?_
                  show own_G p.tables e below _ (T51.setTop (mkF m 218 #[.val (.long x0), .second, .val (.long y0), .second, .val (.long z0), .second, .val (.long w0), .second, .val (.int fl), .val (.long c1), .second, .val (.long n1), .second, .val (.long c2), .second, .val (.long n2), .second, .val (.ref b1), .val (.ref b5), .val (.int (0 : Int32)), .val (.int (1 : Int32)), .val (.int (((fl.toUInt32 >>> ((2 : Int32) &&& 31).toUInt32).toInt32) &&& (3 : Int32)))] []))
                  refine own_fs (XS.iload X51.here hx rfl (hb hby at_218) rfl (Steps.refl _)) ?_
                  show own_G p.tables e below _ (T51.setTop (mkF m 220 #[.val (.long x0), .second, .val (.long y0), .second, .val (.long z0), .second, .val (.long w0), .second, .val (.int fl), .val (.long c1), .second, .val (.long n1), .second, .val (.long c2), .second, .val (.long n2), .second, .val (.ref b1), .val (.ref b5), .val (.int (0 : Int32)), .val (.int (1 : Int32)), .val (.int (((fl.toUInt32 >>> ((2 : Int32) &&& 31).toUInt32).toInt32) &&& (3 : Int32)))] [(.int (((fl.toUInt32 >>> ((2 : Int32) &&& 31).toUInt32).toInt32) &&& (3 : Int32)))]))
                  refine own_fs (XS.iconst X51.here hx rfl (hb hby at_220) (Steps.refl _)) ?_
                  show own_G p.tables e below _ (T51.setTop (mkF m 221 #[.val (.long x0), .second, .val (.long y0), .second, .val (.long z0), .second, .val (.long w0), .second, .val (.int fl), .val (.long c1), .second, .val (.long n1), .second, .val (.long c2), .second, .val (.long n2), .second, .val (.ref b1), .val (.ref b5), .val (.int (0 : Int32)), .val (.int (1 : Int32)), .val (.int (((fl.toUInt32 >>> ((2 : Int32) &&& 31).toUInt32).toInt32) &&& (3 : Int32)))] [(.int (3 : Int32)), (.int (((fl.toUInt32 >>> ((2 : Int32) &&& 31).toUInt32).toInt32) &&& (3 : Int32)))]))
                  by_cases hc221 : (((fl.toUInt32 >>> ((2 : Int32) &&& 31).toUInt32).toInt32) &&& (3 : Int32)) = (3 : Int32)
                  · refine own_fs (XS.icmpNo X51.here hx rfl (hb hby at_221) rfl (XT.ii_ne_f hc221) (Steps.refl _)) ?_
                    show own_G p.tables e below _ (T51.setTop (mkF m 224 #[.val (.long x0), .second, .val (.long y0), .second, .val (.long z0), .second, .val (.long w0), .second, .val (.int fl), .val (.long c1), .second, .val (.long n1), .second, .val (.long c2), .second, .val (.long n2), .second, .val (.ref b1), .val (.ref b5), .val (.int (0 : Int32)), .val (.int (1 : Int32)), .val (.int (((fl.toUInt32 >>> ((2 : Int32) &&& 31).toUInt32).toInt32) &&& (3 : Int32)))] []))
                    refine own_fs (XS.iload X51.here hx rfl (hb hby at_224) rfl (Steps.refl _)) ?_
                    show own_G p.tables e below _ (T51.setTop (mkF m 226 #[.val (.long x0), .second, .val (.long y0), .second, .val (.long z0), .second, .val (.long w0), .second, .val (.int fl), .val (.long c1), .second, .val (.long n1), .second, .val (.long c2), .second, .val (.long n2), .second, .val (.ref b1), .val (.ref b5), .val (.int (0 : Int32)), .val (.int (1 : Int32)), .val (.int (((fl.toUInt32 >>> ((2 : Int32) &&& 31).toUInt32).toInt32) &&& (3 : Int32)))] [(.int (1 : Int32))]))
                    refine own_fs (XS.ifNo X51.here hx rfl (hb hby at_226) rfl (XT.i0_eq_f (by decide : ¬ ((1 : Int32) = (0 : Int32)))) (Steps.refl _)) ?_
                    show own_G p.tables e below _ (T51.setTop (mkF m 229 #[.val (.long x0), .second, .val (.long y0), .second, .val (.long z0), .second, .val (.long w0), .second, .val (.int fl), .val (.long c1), .second, .val (.long n1), .second, .val (.long c2), .second, .val (.long n2), .second, .val (.ref b1), .val (.ref b5), .val (.int (0 : Int32)), .val (.int (1 : Int32)), .val (.int (((fl.toUInt32 >>> ((2 : Int32) &&& 31).toUInt32).toInt32) &&& (3 : Int32)))] []))
                    refine own_fs (XS.aload X51.here hx rfl (hb hby at_229) rfl rfl (Steps.refl _)) ?_
                    show own_G p.tables e below _ (T51.setTop (mkF m 231 #[.val (.long x0), .second, .val (.long y0), .second, .val (.long z0), .second, .val (.long w0), .second, .val (.int fl), .val (.long c1), .second, .val (.long n1), .second, .val (.long c2), .second, .val (.long n2), .second, .val (.ref b1), .val (.ref b5), .val (.int (0 : Int32)), .val (.int (1 : Int32)), .val (.int (((fl.toUInt32 >>> ((2 : Int32) &&& 31).toUInt32).toInt32) &&& (3 : Int32)))] [(.ref b1)]))
                    refine own_fs (XS.aload X51.here hx rfl (hb hby at_231) rfl rfl (Steps.refl _)) ?_
                    show own_G p.tables e below _ (T51.setTop (mkF m 233 #[.val (.long x0), .second, .val (.long y0), .second, .val (.long z0), .second, .val (.long w0), .second, .val (.int fl), .val (.long c1), .second, .val (.long n1), .second, .val (.long c2), .second, .val (.long n2), .second, .val (.ref b1), .val (.ref b5), .val (.int (0 : Int32)), .val (.int (1 : Int32)), .val (.int (((fl.toUInt32 >>> ((2 : Int32) &&& 31).toUInt32).toInt32) &&& (3 : Int32)))] [(.ref b1), (.ref b1)]))
                    have Zs65 : n0 ≤ h7.size := (Nat.le_trans (Nat.le_trans (Nat.le_trans (Nat.le_trans Z0 E1.1) K3.1) E5.1) K7.1)
                    obtain ⟨cq64, kq64, q64a, q64b, q64c⟩ := isOf hZ e51 ((Exa.ext E5 (A1.keep K3)).keep K7)
                    obtain ⟨_, _, ⟨T64, L64, k64, n64⟩, -, X64, ⟨Lc64, hQ64, l64, y64, z64⟩, st64⟩ := X51.virtualBack hx (y := (⟨"com/example/dibs/dibs/namespace/RequestId", "equals", "(Ljava/lang/Object;)Z"⟩ : MethodName)) (z := (⟨"com/example/dibs/dibs/namespace/RequestId", "equals", "(Ljava/lang/Object;)Z"⟩ : MethodName)) hown (mvT hZ (hw _ (List.mem_of_getElem? (i := 14) rfl))) (mvT hZ (hw _ (List.mem_of_getElem? (i := 15) rfl))) (notFace_of_selects (args := #[]) (mvT hZ (hw _ (List.mem_of_getElem? (i := 17) rfl)))) (mvT hZ (hw _ (List.mem_of_getElem? (i := 17) rfl))) (mvT hZ (hw _ (List.mem_of_getElem? (i := 16) rfl))) (by decide) (backOf (W := 0) (own_equals l Z a0 hw [] b1 c1 n1 b1 c1 n1 h7 n0 Zs65 ((Fld.ext E5 P2_0).keep K7 (ninS (Nat.ne_of_lt (Nat.lt_of_lt_of_le (Exa.lt (A1.keep K3)) (Nat.le_of_eq g5.symm))) nin0)) ((Fld.ext E5 P2_1).keep K7 (ninS (Nat.ne_of_lt (Nat.lt_of_lt_of_le (Exa.lt (A1.keep K3)) (Nat.le_of_eq g5.symm))) nin0)) ((Fld.ext E5 P2_0).keep K7 (ninS (Nat.ne_of_lt (Nat.lt_of_lt_of_le (Exa.lt (A1.keep K3)) (Nat.le_of_eq g5.symm))) nin0)) ((Fld.ext E5 P2_1).keep K7 (ninS (Nat.ne_of_lt (Nat.lt_of_lt_of_le (Exa.lt (A1.keep K3)) (Nat.le_of_eq g5.symm))) nin0)) ((Exa.ext E5 (A1.keep K3)).keep K7)) hZ (hw _ (List.mem_of_getElem? (i := 18) rfl)) (hw _ (List.mem_of_getElem? (i := 3) rfl)) (by decide) (by decide)) q64a q64c (g := (mkF m 233 #[.val (.long x0), .second, .val (.long y0), .second, .val (.long z0), .second, .val (.long w0), .second, .val (.int fl), .val (.long c1), .second, .val (.long n1), .second, .val (.long c2), .second, .val (.long n2), .second, .val (.ref b1), .val (.ref b5), .val (.int (0 : Int32)), .val (.int (1 : Int32)), .val (.int (((fl.toUInt32 >>> ((2 : Int32) &&& 31).toUInt32).toInt32) &&& (3 : Int32)))] [(.ref b1), (.ref b1)])) rfl (by rw [hml]; rfl) (Steps.refl _) (argsL := [(.ref b1)]) (rest := []) (lenOf own_pd3 rfl) rfl (by show 2 * 0 + _ ≤ _; exact Nat.le_of_eq rfl) (hb hby at_233) (fun _ _ => ⟨rfl, e51, (by decide : 2 + 0 ≤ _), (by decide : 4 + 0 ≤ _)⟩)
                    dsimp only [Pt.U, Pt.locs, Pt.cells, Pt.slots] at X64 l64 y64 z64 st64 hQ64
                    subst l64 y64 z64
                    obtain ⟨rfl, Nq64, e64⟩ := hQ64
                    have N64 := Fr.app N51 Nq64
                    refine own_fs st64 ?_
                    show own_G p.tables e below _ (T64.setTop (mkF m 236 #[.val (.long x0), .second, .val (.long y0), .second, .val (.long z0), .second, .val (.long w0), .second, .val (.int fl), .val (.long c1), .second, .val (.long n1), .second, .val (.long c2), .second, .val (.long n2), .second, .val (.ref b1), .val (.ref b5), .val (.int (0 : Int32)), .val (.int (1 : Int32)), .val (.int (((fl.toUInt32 >>> ((2 : Int32) &&& 31).toUInt32).toInt32) &&& (3 : Int32)))] [(.int (own_eq c1 n1 c1 n1))]))
                    rw [show own_eq c1 n1 c1 n1 = (1 : Int32) from by simp only [own_eq, if_neg cc1, if_neg cc2, if_pos nn1, if_pos nn2, ↓reduceIte]]
                    show own_G p.tables e below _ (T64.setTop (mkF m 236 #[.val (.long x0), .second, .val (.long y0), .second, .val (.long z0), .second, .val (.long w0), .second, .val (.int fl), .val (.long c1), .second, .val (.long n1), .second, .val (.long c2), .second, .val (.long n2), .second, .val (.ref b1), .val (.ref b5), .val (.int (0 : Int32)), .val (.int (1 : Int32)), .val (.int (((fl.toUInt32 >>> ((2 : Int32) &&& 31).toUInt32).toInt32) &&& (3 : Int32)))] [(.int (1 : Int32))]))
                    refine own_fs (XS.ifNo X64.here hx rfl (hb hby at_236) rfl (XT.i0_eq_f (by decide : ¬ ((1 : Int32) = (0 : Int32)))) (Steps.refl _)) ?_
                    show own_G p.tables e below _ (T64.setTop (mkF m 239 #[.val (.long x0), .second, .val (.long y0), .second, .val (.long z0), .second, .val (.long w0), .second, .val (.int fl), .val (.long c1), .second, .val (.long n1), .second, .val (.long c2), .second, .val (.long n2), .second, .val (.ref b1), .val (.ref b5), .val (.int (0 : Int32)), .val (.int (1 : Int32)), .val (.int (((fl.toUInt32 >>> ((2 : Int32) &&& 31).toUInt32).toInt32) &&& (3 : Int32)))] []))
                    refine own_fs (XS.iconst X64.here hx rfl (hb hby at_239) (Steps.refl _)) ?_
                    show own_G p.tables e below _ (T64.setTop (mkF m 240 #[.val (.long x0), .second, .val (.long y0), .second, .val (.long z0), .second, .val (.long w0), .second, .val (.int fl), .val (.long c1), .second, .val (.long n1), .second, .val (.long c2), .second, .val (.long n2), .second, .val (.ref b1), .val (.ref b5), .val (.int (0 : Int32)), .val (.int (1 : Int32)), .val (.int (((fl.toUInt32 >>> ((2 : Int32) &&& 31).toUInt32).toInt32) &&& (3 : Int32)))] [(.int (1 : Int32))]))
                    refine own_fs (XS.goto X64.here hx rfl (pc0 := 240) (pc' := 244) rfl (hb hby at_240) (by decide) (by decide) (Steps.refl _)) ?_
                    show own_G p.tables e below _ (T64.setTop (mkF m 244 #[.val (.long x0), .second, .val (.long y0), .second, .val (.long z0), .second, .val (.long w0), .second, .val (.int fl), .val (.long c1), .second, .val (.long n1), .second, .val (.long c2), .second, .val (.long n2), .second, .val (.ref b1), .val (.ref b5), .val (.int (0 : Int32)), .val (.int (1 : Int32)), .val (.int (((fl.toUInt32 >>> ((2 : Int32) &&& 31).toUInt32).toInt32) &&& (3 : Int32)))] [(.int (1 : Int32))]))
                    exact own_retN X64 hx (t := .boolean) Bd.returns hlk (by simp) (hb hby at_244) (by decide) (by decide) e64 ⟨rfl, N64⟩
                  · refine own_fs (XS.icmpYes X51.here hx rfl (pc0 := 221) (pc' := 245) rfl (hb hby at_221) rfl (XT.ii_ne_t hc221) (by decide) (by decide) (Steps.refl _)) ?_
                    show own_G p.tables e below _ (T51.setTop (mkF m 245 #[.val (.long x0), .second, .val (.long y0), .second, .val (.long z0), .second, .val (.long w0), .second, .val (.int fl), .val (.long c1), .second, .val (.long n1), .second, .val (.long c2), .second, .val (.long n2), .second, .val (.ref b1), .val (.ref b5), .val (.int (0 : Int32)), .val (.int (1 : Int32)), .val (.int (((fl.toUInt32 >>> ((2 : Int32) &&& 31).toUInt32).toInt32) &&& (3 : Int32)))] []))
                    refine own_fs (XS.iload X51.here hx rfl (hb hby at_245) rfl (Steps.refl _)) ?_
                    show own_G p.tables e below _ (T51.setTop (mkF m 247 #[.val (.long x0), .second, .val (.long y0), .second, .val (.long z0), .second, .val (.long w0), .second, .val (.int fl), .val (.long c1), .second, .val (.long n1), .second, .val (.long c2), .second, .val (.long n2), .second, .val (.ref b1), .val (.ref b5), .val (.int (0 : Int32)), .val (.int (1 : Int32)), .val (.int (((fl.toUInt32 >>> ((2 : Int32) &&& 31).toUInt32).toInt32) &&& (3 : Int32)))] [(.int (1 : Int32))]))
                    exact own_retN X51 hx (t := .boolean) Bd.returns hlk (by simp) (hb hby at_247) (by decide) (by decide) e51 ⟨rfl, N51⟩
            · show own_G p.tables e below _ (T7.setTop (mkF m 100 #[.val (.long x0), .second, .val (.long y0), .second, .val (.long z0), .second, .val (.long w0), .second, .val (.int fl), .val (.long c1), .second, .val (.long n1), .second, .val (.long c2), .second, .val (.long n2), .second, .val (.ref b1), .val (.ref b5), .unset, .unset, .unset] []))
              refine own_fs (XS.lload X7.here hx rfl (hb hby at_100) rfl (Steps.refl _)) ?_
              show own_G p.tables e below _ (T7.setTop (mkF m 102 #[.val (.long x0), .second, .val (.long y0), .second, .val (.long z0), .second, .val (.long w0), .second, .val (.int fl), .val (.long c1), .second, .val (.long n1), .second, .val (.long c2), .second, .val (.long n2), .second, .val (.ref b1), .val (.ref b5), .unset, .unset, .unset] [(.long c1)]))
              refine own_fs (XS.lload X7.here hx rfl (hb hby at_102) rfl (Steps.refl _)) ?_
              show own_G p.tables e below _ (T7.setTop (mkF m 104 #[.val (.long x0), .second, .val (.long y0), .second, .val (.long z0), .second, .val (.long w0), .second, .val (.int fl), .val (.long c1), .second, .val (.long n1), .second, .val (.long c2), .second, .val (.long n2), .second, .val (.ref b1), .val (.ref b5), .unset, .unset, .unset] [(.long c2), (.long c1)]))
              refine own_fs (XT.lcmp X7.here hx rfl (hb hby at_104) rfl (Steps.refl _)) ?_
              show own_G p.tables e below _ (T7.setTop (mkF m 105 #[.val (.long x0), .second, .val (.long y0), .second, .val (.long z0), .second, .val (.long w0), .second, .val (.int fl), .val (.long c1), .second, .val (.long n1), .second, .val (.long c2), .second, .val (.long n2), .second, .val (.ref b1), .val (.ref b5), .unset, .unset, .unset] [(.int (XT.cmpL c1 c2))]))
              refine own_fs (XS.ifYes X7.here hx rfl (pc0 := 105) (pc' := 120) rfl (hb hby at_105) rfl (XT.ll_ne_t cc1) (by decide) (by decide) (Steps.refl _)) ?_
              show own_G p.tables e below _ (T7.setTop (mkF m 120 #[.val (.long x0), .second, .val (.long y0), .second, .val (.long z0), .second, .val (.long w0), .second, .val (.int fl), .val (.long c1), .second, .val (.long n1), .second, .val (.long c2), .second, .val (.long n2), .second, .val (.ref b1), .val (.ref b5), .unset, .unset, .unset] []))
              refine own_fs (XS.iconst X7.here hx rfl (hb hby at_120) (Steps.refl _)) ?_
              show own_G p.tables e below _ (T7.setTop (mkF m 121 #[.val (.long x0), .second, .val (.long y0), .second, .val (.long z0), .second, .val (.long w0), .second, .val (.int fl), .val (.long c1), .second, .val (.long n1), .second, .val (.long c2), .second, .val (.long n2), .second, .val (.ref b1), .val (.ref b5), .unset, .unset, .unset] [(.int (0 : Int32))]))
              refine own_fs (XS.istore X7.here hx rfl (hb hby at_121) rfl (l' := #[.val (.long x0), .second, .val (.long y0), .second, .val (.long z0), .second, .val (.long w0), .second, .val (.int fl), .val (.long c1), .second, .val (.long n1), .second, .val (.long c2), .second, .val (.long n2), .second, .val (.ref b1), .val (.ref b5), .val (.int (0 : Int32)), .unset, .unset]) rfl (Steps.refl _)) ?_
              show own_G p.tables e below _ (T7.setTop (mkF m 123 #[.val (.long x0), .second, .val (.long y0), .second, .val (.long z0), .second, .val (.long w0), .second, .val (.int fl), .val (.long c1), .second, .val (.long n1), .second, .val (.long c2), .second, .val (.long n2), .second, .val (.ref b1), .val (.ref b5), .val (.int (0 : Int32)), .unset, .unset] []))
              refine own_fs (XS.aload X7.here hx rfl (hb hby at_123) rfl rfl (Steps.refl _)) ?_
              show own_G p.tables e below _ (T7.setTop (mkF m 125 #[.val (.long x0), .second, .val (.long y0), .second, .val (.long z0), .second, .val (.long w0), .second, .val (.int fl), .val (.long c1), .second, .val (.long n1), .second, .val (.long c2), .second, .val (.long n2), .second, .val (.ref b1), .val (.ref b5), .val (.int (0 : Int32)), .unset, .unset] [(.ref b1)]))
              refine own_fs (XS.aload X7.here hx rfl (hb hby at_125) rfl rfl (Steps.refl _)) ?_
              show own_G p.tables e below _ (T7.setTop (mkF m 127 #[.val (.long x0), .second, .val (.long y0), .second, .val (.long z0), .second, .val (.long w0), .second, .val (.int fl), .val (.long c1), .second, .val (.long n1), .second, .val (.long c2), .second, .val (.long n2), .second, .val (.ref b1), .val (.ref b5), .val (.int (0 : Int32)), .unset, .unset] [(.ref b5), (.ref b1)]))
              have Zs68 : n0 ≤ h7.size := (Nat.le_trans (Nat.le_trans (Nat.le_trans (Nat.le_trans Z0 E1.1) K3.1) E5.1) K7.1)
              obtain ⟨cq67, kq67, q67a, q67b, q67c⟩ := isOf hZ e7 ((Exa.ext E5 (A1.keep K3)).keep K7)
              obtain ⟨_, _, ⟨T67, L67, k67, n67⟩, -, X67, ⟨Lc67, hQ67, l67, y67, z67⟩, st67⟩ := X7.virtualBack hx (y := (⟨"com/example/dibs/dibs/namespace/RequestId", "equals", "(Ljava/lang/Object;)Z"⟩ : MethodName)) (z := (⟨"com/example/dibs/dibs/namespace/RequestId", "equals", "(Ljava/lang/Object;)Z"⟩ : MethodName)) hown (mvT hZ (hw _ (List.mem_of_getElem? (i := 14) rfl))) (mvT hZ (hw _ (List.mem_of_getElem? (i := 15) rfl))) (notFace_of_selects (args := #[]) (mvT hZ (hw _ (List.mem_of_getElem? (i := 17) rfl)))) (mvT hZ (hw _ (List.mem_of_getElem? (i := 17) rfl))) (mvT hZ (hw _ (List.mem_of_getElem? (i := 16) rfl))) (by decide) (backOf (W := 0) (own_equals l Z a0 hw [] b1 c1 n1 b5 c2 n2 h7 n0 Zs68 ((Fld.ext E5 P2_0).keep K7 (ninS (Nat.ne_of_lt (Nat.lt_of_lt_of_le (Exa.lt (A1.keep K3)) (Nat.le_of_eq g5.symm))) nin0)) ((Fld.ext E5 P2_1).keep K7 (ninS (Nat.ne_of_lt (Nat.lt_of_lt_of_le (Exa.lt (A1.keep K3)) (Nat.le_of_eq g5.symm))) nin0)) P6_0 P6_1 (A5.keep K7)) hZ (hw _ (List.mem_of_getElem? (i := 18) rfl)) (hw _ (List.mem_of_getElem? (i := 3) rfl)) (by decide) (by decide)) q67a q67c (g := (mkF m 127 #[.val (.long x0), .second, .val (.long y0), .second, .val (.long z0), .second, .val (.long w0), .second, .val (.int fl), .val (.long c1), .second, .val (.long n1), .second, .val (.long c2), .second, .val (.long n2), .second, .val (.ref b1), .val (.ref b5), .val (.int (0 : Int32)), .unset, .unset] [(.ref b5), (.ref b1)])) rfl (by rw [hml]; rfl) (Steps.refl _) (argsL := [(.ref b5)]) (rest := []) (lenOf own_pd3 rfl) rfl (by show 2 * 0 + _ ≤ _; exact Nat.le_of_eq rfl) (hb hby at_127) (fun _ _ => ⟨rfl, e7, (by decide : 2 + 0 ≤ _), (by decide : 4 + 0 ≤ _)⟩)
              dsimp only [Pt.U, Pt.locs, Pt.cells, Pt.slots] at X67 l67 y67 z67 st67 hQ67
              subst l67 y67 z67
              obtain ⟨rfl, Nq67, e67⟩ := hQ67
              have N67 := Fr.app N7 Nq67
              refine own_fs st67 ?_
              show own_G p.tables e below _ (T67.setTop (mkF m 130 #[.val (.long x0), .second, .val (.long y0), .second, .val (.long z0), .second, .val (.long w0), .second, .val (.int fl), .val (.long c1), .second, .val (.long n1), .second, .val (.long c2), .second, .val (.long n2), .second, .val (.ref b1), .val (.ref b5), .val (.int (0 : Int32)), .unset, .unset] [(.int (own_eq c1 n1 c2 n2))]))
              rw [show own_eq c1 n1 c2 n2 = (0 : Int32) from by simp only [own_eq, if_neg cc1, if_neg cc2, if_neg nn1, if_neg nn2, ↓reduceIte]]
              show own_G p.tables e below _ (T67.setTop (mkF m 130 #[.val (.long x0), .second, .val (.long y0), .second, .val (.long z0), .second, .val (.long w0), .second, .val (.int fl), .val (.long c1), .second, .val (.long n1), .second, .val (.long c2), .second, .val (.long n2), .second, .val (.ref b1), .val (.ref b5), .val (.int (0 : Int32)), .unset, .unset] [(.int (0 : Int32))]))
              refine own_fs (XS.iload X67.here hx rfl (hb hby at_130) rfl (Steps.refl _)) ?_
              show own_G p.tables e below _ (T67.setTop (mkF m 132 #[.val (.long x0), .second, .val (.long y0), .second, .val (.long z0), .second, .val (.long w0), .second, .val (.int fl), .val (.long c1), .second, .val (.long n1), .second, .val (.long c2), .second, .val (.long n2), .second, .val (.ref b1), .val (.ref b5), .val (.int (0 : Int32)), .unset, .unset] [(.int (0 : Int32)), (.int (0 : Int32))]))
              refine own_fs (XS.icmpNo X67.here hx rfl (hb hby at_132) rfl (XT.ii_ne_f (by decide : (0 : Int32) = (0 : Int32))) (Steps.refl _)) ?_
              show own_G p.tables e below _ (T67.setTop (mkF m 135 #[.val (.long x0), .second, .val (.long y0), .second, .val (.long z0), .second, .val (.long w0), .second, .val (.int fl), .val (.long c1), .second, .val (.long n1), .second, .val (.long c2), .second, .val (.long n2), .second, .val (.ref b1), .val (.ref b5), .val (.int (0 : Int32)), .unset, .unset] []))
              refine own_fs (XS.aload X67.here hx rfl (hb hby at_135) rfl rfl (Steps.refl _)) ?_
              show own_G p.tables e below _ (T67.setTop (mkF m 137 #[.val (.long x0), .second, .val (.long y0), .second, .val (.long z0), .second, .val (.long w0), .second, .val (.int fl), .val (.long c1), .second, .val (.long n1), .second, .val (.long c2), .second, .val (.long n2), .second, .val (.ref b1), .val (.ref b5), .val (.int (0 : Int32)), .unset, .unset] [(.ref b5)]))
              refine own_fs (XS.aload X67.here hx rfl (hb hby at_137) rfl rfl (Steps.refl _)) ?_
              show own_G p.tables e below _ (T67.setTop (mkF m 139 #[.val (.long x0), .second, .val (.long y0), .second, .val (.long z0), .second, .val (.long w0), .second, .val (.int fl), .val (.long c1), .second, .val (.long n1), .second, .val (.long c2), .second, .val (.long n2), .second, .val (.ref b1), .val (.ref b5), .val (.int (0 : Int32)), .unset, .unset] [(.ref b1), (.ref b5)]))
              have Zs71 : n0 ≤ h7.size := (Nat.le_trans (Nat.le_trans (Nat.le_trans (Nat.le_trans Z0 E1.1) K3.1) E5.1) K7.1)
              obtain ⟨cq70, kq70, q70a, q70b, q70c⟩ := isOf hZ e67 (A5.keep K7)
              obtain ⟨_, _, ⟨T70, L70, k70, n70⟩, -, X70, ⟨Lc70, hQ70, l70, y70, z70⟩, st70⟩ := X67.virtualBack hx (y := (⟨"com/example/dibs/dibs/namespace/RequestId", "equals", "(Ljava/lang/Object;)Z"⟩ : MethodName)) (z := (⟨"com/example/dibs/dibs/namespace/RequestId", "equals", "(Ljava/lang/Object;)Z"⟩ : MethodName)) hown (mvT hZ (hw _ (List.mem_of_getElem? (i := 14) rfl))) (mvT hZ (hw _ (List.mem_of_getElem? (i := 15) rfl))) (notFace_of_selects (args := #[]) (mvT hZ (hw _ (List.mem_of_getElem? (i := 17) rfl)))) (mvT hZ (hw _ (List.mem_of_getElem? (i := 17) rfl))) (mvT hZ (hw _ (List.mem_of_getElem? (i := 16) rfl))) (by decide) (backOf (W := 0) (own_equals l Z a0 hw [] b5 c2 n2 b1 c1 n1 h7 n0 Zs71 P6_0 P6_1 ((Fld.ext E5 P2_0).keep K7 (ninS (Nat.ne_of_lt (Nat.lt_of_lt_of_le (Exa.lt (A1.keep K3)) (Nat.le_of_eq g5.symm))) nin0)) ((Fld.ext E5 P2_1).keep K7 (ninS (Nat.ne_of_lt (Nat.lt_of_lt_of_le (Exa.lt (A1.keep K3)) (Nat.le_of_eq g5.symm))) nin0)) ((Exa.ext E5 (A1.keep K3)).keep K7)) hZ (hw _ (List.mem_of_getElem? (i := 18) rfl)) (hw _ (List.mem_of_getElem? (i := 3) rfl)) (by decide) (by decide)) q70a q70c (g := (mkF m 139 #[.val (.long x0), .second, .val (.long y0), .second, .val (.long z0), .second, .val (.long w0), .second, .val (.int fl), .val (.long c1), .second, .val (.long n1), .second, .val (.long c2), .second, .val (.long n2), .second, .val (.ref b1), .val (.ref b5), .val (.int (0 : Int32)), .unset, .unset] [(.ref b1), (.ref b5)])) rfl (by rw [hml]; rfl) (Steps.refl _) (argsL := [(.ref b1)]) (rest := []) (lenOf own_pd3 rfl) rfl (by show 2 * 0 + _ ≤ _; exact Nat.le_of_eq rfl) (hb hby at_139) (fun _ _ => ⟨rfl, e67, (by decide : 2 + 0 ≤ _), (by decide : 4 + 0 ≤ _)⟩)
              dsimp only [Pt.U, Pt.locs, Pt.cells, Pt.slots] at X70 l70 y70 z70 st70 hQ70
              subst l70 y70 z70
              obtain ⟨rfl, Nq70, e70⟩ := hQ70
              have N70 := Fr.app N67 Nq70
              refine own_fs st70 ?_
              show own_G p.tables e below _ (T70.setTop (mkF m 142 #[.val (.long x0), .second, .val (.long y0), .second, .val (.long z0), .second, .val (.long w0), .second, .val (.int fl), .val (.long c1), .second, .val (.long n1), .second, .val (.long c2), .second, .val (.long n2), .second, .val (.ref b1), .val (.ref b5), .val (.int (0 : Int32)), .unset, .unset] [(.int (own_eq c2 n2 c1 n1))]))
              rw [show own_eq c2 n2 c1 n1 = (0 : Int32) from by simp only [own_eq, if_neg cc1, if_neg cc2, if_neg nn1, if_neg nn2, ↓reduceIte]]
              show own_G p.tables e below _ (T70.setTop (mkF m 142 #[.val (.long x0), .second, .val (.long y0), .second, .val (.long z0), .second, .val (.long w0), .second, .val (.int fl), .val (.long c1), .second, .val (.long n1), .second, .val (.long c2), .second, .val (.long n2), .second, .val (.ref b1), .val (.ref b5), .val (.int (0 : Int32)), .unset, .unset] [(.int (0 : Int32))]))
              refine own_fs (XS.iload X70.here hx rfl (hb hby at_142) rfl (Steps.refl _)) ?_
              show own_G p.tables e below _ (T70.setTop (mkF m 144 #[.val (.long x0), .second, .val (.long y0), .second, .val (.long z0), .second, .val (.long w0), .second, .val (.int fl), .val (.long c1), .second, .val (.long n1), .second, .val (.long c2), .second, .val (.long n2), .second, .val (.ref b1), .val (.ref b5), .val (.int (0 : Int32)), .unset, .unset] [(.int (0 : Int32)), (.int (0 : Int32))]))
              refine own_fs (XS.icmpNo X70.here hx rfl (hb hby at_144) rfl (XT.ii_ne_f (by decide : (0 : Int32) = (0 : Int32))) (Steps.refl _)) ?_
              show own_G p.tables e below _ (T70.setTop (mkF m 147 #[.val (.long x0), .second, .val (.long y0), .second, .val (.long z0), .second, .val (.long w0), .second, .val (.int fl), .val (.long c1), .second, .val (.long n1), .second, .val (.long c2), .second, .val (.long n2), .second, .val (.ref b1), .val (.ref b5), .val (.int (0 : Int32)), .unset, .unset] []))
              refine own_fs (XS.iconst X70.here hx rfl (hb hby at_147) (Steps.refl _)) ?_
              show own_G p.tables e below _ (T70.setTop (mkF m 148 #[.val (.long x0), .second, .val (.long y0), .second, .val (.long z0), .second, .val (.long w0), .second, .val (.int fl), .val (.long c1), .second, .val (.long n1), .second, .val (.long c2), .second, .val (.long n2), .second, .val (.ref b1), .val (.ref b5), .val (.int (0 : Int32)), .unset, .unset] [(.int (1 : Int32))]))
              refine own_fs (XS.goto X70.here hx rfl (pc0 := 148) (pc' := 152) rfl (hb hby at_148) (by decide) (by decide) (Steps.refl _)) ?_
              show own_G p.tables e below _ (T70.setTop (mkF m 152 #[.val (.long x0), .second, .val (.long y0), .second, .val (.long z0), .second, .val (.long w0), .second, .val (.int fl), .val (.long c1), .second, .val (.long n1), .second, .val (.long c2), .second, .val (.long n2), .second, .val (.ref b1), .val (.ref b5), .val (.int (0 : Int32)), .unset, .unset] [(.int (1 : Int32))]))
              refine own_fs (XS.istore X70.here hx rfl (hb hby at_152) rfl (l' := #[.val (.long x0), .second, .val (.long y0), .second, .val (.long z0), .second, .val (.long w0), .second, .val (.int fl), .val (.long c1), .second, .val (.long n1), .second, .val (.long c2), .second, .val (.long n2), .second, .val (.ref b1), .val (.ref b5), .val (.int (0 : Int32)), .val (.int (1 : Int32)), .unset]) rfl (Steps.refl _)) ?_
              show own_G p.tables e below _ (T70.setTop (mkF m 154 #[.val (.long x0), .second, .val (.long y0), .second, .val (.long z0), .second, .val (.long w0), .second, .val (.int fl), .val (.long c1), .second, .val (.long n1), .second, .val (.long c2), .second, .val (.long n2), .second, .val (.ref b1), .val (.ref b5), .val (.int (0 : Int32)), .val (.int (1 : Int32)), .unset] []))
              refine own_fs (XS.iload X70.here hx rfl (hb hby at_154) rfl (Steps.refl _)) ?_
              show own_G p.tables e below _ (T70.setTop (mkF m 156 #[.val (.long x0), .second, .val (.long y0), .second, .val (.long z0), .second, .val (.long w0), .second, .val (.int fl), .val (.long c1), .second, .val (.long n1), .second, .val (.long c2), .second, .val (.long n2), .second, .val (.ref b1), .val (.ref b5), .val (.int (0 : Int32)), .val (.int (1 : Int32)), .unset] [(.int fl)]))
              refine own_fs (XS.iconst X70.here hx rfl (hb hby at_156) (Steps.refl _)) ?_
              show own_G p.tables e below _ (T70.setTop (mkF m 157 #[.val (.long x0), .second, .val (.long y0), .second, .val (.long z0), .second, .val (.long w0), .second, .val (.int fl), .val (.long c1), .second, .val (.long n1), .second, .val (.long c2), .second, .val (.long n2), .second, .val (.ref b1), .val (.ref b5), .val (.int (0 : Int32)), .val (.int (1 : Int32)), .unset] [(.int (2 : Int32)), (.int fl)]))
              refine own_fs (XS.iushr X70.here hx rfl (hb hby at_157) rfl (Steps.refl _)) ?_
              show own_G p.tables e below _ (T70.setTop (mkF m 158 #[.val (.long x0), .second, .val (.long y0), .second, .val (.long z0), .second, .val (.long w0), .second, .val (.int fl), .val (.long c1), .second, .val (.long n1), .second, .val (.long c2), .second, .val (.long n2), .second, .val (.ref b1), .val (.ref b5), .val (.int (0 : Int32)), .val (.int (1 : Int32)), .unset] [(.int ((fl.toUInt32 >>> ((2 : Int32) &&& 31).toUInt32).toInt32))]))
              refine own_fs (XS.iconst X70.here hx rfl (hb hby at_158) (Steps.refl _)) ?_
              show own_G p.tables e below _ (T70.setTop (mkF m 159 #[.val (.long x0), .second, .val (.long y0), .second, .val (.long z0), .second, .val (.long w0), .second, .val (.int fl), .val (.long c1), .second, .val (.long n1), .second, .val (.long c2), .second, .val (.long n2), .second, .val (.ref b1), .val (.ref b5), .val (.int (0 : Int32)), .val (.int (1 : Int32)), .unset] [(.int (3 : Int32)), (.int ((fl.toUInt32 >>> ((2 : Int32) &&& 31).toUInt32).toInt32))]))
              refine own_fs (XS.iand X70.here hx rfl (hb hby at_159) rfl (Steps.refl _)) ?_
              show own_G p.tables e below _ (T70.setTop (mkF m 160 #[.val (.long x0), .second, .val (.long y0), .second, .val (.long z0), .second, .val (.long w0), .second, .val (.int fl), .val (.long c1), .second, .val (.long n1), .second, .val (.long c2), .second, .val (.long n2), .second, .val (.ref b1), .val (.ref b5), .val (.int (0 : Int32)), .val (.int (1 : Int32)), .unset] [(.int (((fl.toUInt32 >>> ((2 : Int32) &&& 31).toUInt32).toInt32) &&& (3 : Int32)))]))
              refine own_fs (XS.istore X70.here hx rfl (hb hby at_160) rfl (l' := #[.val (.long x0), .second, .val (.long y0), .second, .val (.long z0), .second, .val (.long w0), .second, .val (.int fl), .val (.long c1), .second, .val (.long n1), .second, .val (.long c2), .second, .val (.long n2), .second, .val (.ref b1), .val (.ref b5), .val (.int (0 : Int32)), .val (.int (1 : Int32)), .val (.int (((fl.toUInt32 >>> ((2 : Int32) &&& 31).toUInt32).toInt32) &&& (3 : Int32)))]) rfl (Steps.refl _)) ?_
              show own_G p.tables e below _ (T70.setTop (mkF m 162 #[.val (.long x0), .second, .val (.long y0), .second, .val (.long z0), .second, .val (.long w0), .second, .val (.int fl), .val (.long c1), .second, .val (.long n1), .second, .val (.long c2), .second, .val (.long n2), .second, .val (.ref b1), .val (.ref b5), .val (.int (0 : Int32)), .val (.int (1 : Int32)), .val (.int (((fl.toUInt32 >>> ((2 : Int32) &&& 31).toUInt32).toInt32) &&& (3 : Int32)))] []))
              refine own_fs (XS.iload X70.here hx rfl (hb hby at_162) rfl (Steps.refl _)) ?_
              show own_G p.tables e below _ (T70.setTop (mkF m 164 #[.val (.long x0), .second, .val (.long y0), .second, .val (.long z0), .second, .val (.long w0), .second, .val (.int fl), .val (.long c1), .second, .val (.long n1), .second, .val (.long c2), .second, .val (.long n2), .second, .val (.ref b1), .val (.ref b5), .val (.int (0 : Int32)), .val (.int (1 : Int32)), .val (.int (((fl.toUInt32 >>> ((2 : Int32) &&& 31).toUInt32).toInt32) &&& (3 : Int32)))] [(.int (((fl.toUInt32 >>> ((2 : Int32) &&& 31).toUInt32).toInt32) &&& (3 : Int32)))]))
              refine own_fs (XS.iconst X70.here hx rfl (hb hby at_164) (Steps.refl _)) ?_
              show own_G p.tables e below _ (T70.setTop (mkF m 165 #[.val (.long x0), .second, .val (.long y0), .second, .val (.long z0), .second, .val (.long w0), .second, .val (.int fl), .val (.long c1), .second, .val (.long n1), .second, .val (.long c2), .second, .val (.long n2), .second, .val (.ref b1), .val (.ref b5), .val (.int (0 : Int32)), .val (.int (1 : Int32)), .val (.int (((fl.toUInt32 >>> ((2 : Int32) &&& 31).toUInt32).toInt32) &&& (3 : Int32)))] [(.int (1 : Int32)), (.int (((fl.toUInt32 >>> ((2 : Int32) &&& 31).toUInt32).toInt32) &&& (3 : Int32)))]))
              by_cases hc165 : (((fl.toUInt32 >>> ((2 : Int32) &&& 31).toUInt32).toInt32) &&& (3 : Int32)) = (1 : Int32)
              · refine own_fs (XS.icmpNo X70.here hx rfl (hb hby at_165) rfl (XT.ii_ne_f hc165) (Steps.refl _)) ?_
                show own_G p.tables e below _ (T70.setTop (mkF m 168 #[.val (.long x0), .second, .val (.long y0), .second, .val (.long z0), .second, .val (.long w0), .second, .val (.int fl), .val (.long c1), .second, .val (.long n1), .second, .val (.long c2), .second, .val (.long n2), .second, .val (.ref b1), .val (.ref b5), .val (.int (0 : Int32)), .val (.int (1 : Int32)), .val (.int (((fl.toUInt32 >>> ((2 : Int32) &&& 31).toUInt32).toInt32) &&& (3 : Int32)))] []))
                refine own_fs (XS.iload X70.here hx rfl (hb hby at_168) rfl (Steps.refl _)) ?_
                show own_G p.tables e below _ (T70.setTop (mkF m 170 #[.val (.long x0), .second, .val (.long y0), .second, .val (.long z0), .second, .val (.long w0), .second, .val (.int fl), .val (.long c1), .second, .val (.long n1), .second, .val (.long c2), .second, .val (.long n2), .second, .val (.ref b1), .val (.ref b5), .val (.int (0 : Int32)), .val (.int (1 : Int32)), .val (.int (((fl.toUInt32 >>> ((2 : Int32) &&& 31).toUInt32).toInt32) &&& (3 : Int32)))] [(.int (1 : Int32))]))
                refine own_fs (XS.ifNo X70.here hx rfl (hb hby at_170) rfl (XT.i0_eq_f (by decide : ¬ ((1 : Int32) = (0 : Int32)))) (Steps.refl _)) ?_
                show own_G p.tables e below _ (T70.setTop (mkF m 173 #[.val (.long x0), .second, .val (.long y0), .second, .val (.long z0), .second, .val (.long w0), .second, .val (.int fl), .val (.long c1), .second, .val (.long n1), .second, .val (.long c2), .second, .val (.long n2), .second, .val (.ref b1), .val (.ref b5), .val (.int (0 : Int32)), .val (.int (1 : Int32)), .val (.int (((fl.toUInt32 >>> ((2 : Int32) &&& 31).toUInt32).toInt32) &&& (3 : Int32)))] []))
                refine own_fs (XS.aload X70.here hx rfl (hb hby at_173) rfl rfl (Steps.refl _)) ?_
                show own_G p.tables e below _ (T70.setTop (mkF m 175 #[.val (.long x0), .second, .val (.long y0), .second, .val (.long z0), .second, .val (.long w0), .second, .val (.int fl), .val (.long c1), .second, .val (.long n1), .second, .val (.long c2), .second, .val (.long n2), .second, .val (.ref b1), .val (.ref b5), .val (.int (0 : Int32)), .val (.int (1 : Int32)), .val (.int (((fl.toUInt32 >>> ((2 : Int32) &&& 31).toUInt32).toInt32) &&& (3 : Int32)))] [(.ref b1)]))
                refine own_fs (XS.aconstNull X70.here hx rfl (hb hby at_175) (Steps.refl _)) ?_
                show own_G p.tables e below _ (T70.setTop (mkF m 176 #[.val (.long x0), .second, .val (.long y0), .second, .val (.long z0), .second, .val (.long w0), .second, .val (.int fl), .val (.long c1), .second, .val (.long n1), .second, .val (.long c2), .second, .val (.long n2), .second, .val (.ref b1), .val (.ref b5), .val (.int (0 : Int32)), .val (.int (1 : Int32)), .val (.int (((fl.toUInt32 >>> ((2 : Int32) &&& 31).toUInt32).toInt32) &&& (3 : Int32)))] [.null, (.ref b1)]))
                have Zs74 : n0 ≤ h7.size := (Nat.le_trans (Nat.le_trans (Nat.le_trans (Nat.le_trans Z0 E1.1) K3.1) E5.1) K7.1)
                obtain ⟨cq73, kq73, q73a, q73b, q73c⟩ := isOf hZ e70 ((Exa.ext E5 (A1.keep K3)).keep K7)
                obtain ⟨_, _, ⟨T73, L73, k73, n73⟩, -, X73, ⟨Lc73, hQ73, l73, y73, z73⟩, st73⟩ := X70.virtualBack hx (y := (⟨"com/example/dibs/dibs/namespace/RequestId", "equals", "(Ljava/lang/Object;)Z"⟩ : MethodName)) (z := (⟨"com/example/dibs/dibs/namespace/RequestId", "equals", "(Ljava/lang/Object;)Z"⟩ : MethodName)) hown (mvT hZ (hw _ (List.mem_of_getElem? (i := 14) rfl))) (mvT hZ (hw _ (List.mem_of_getElem? (i := 15) rfl))) (notFace_of_selects (args := #[]) (mvT hZ (hw _ (List.mem_of_getElem? (i := 17) rfl)))) (mvT hZ (hw _ (List.mem_of_getElem? (i := 17) rfl))) (mvT hZ (hw _ (List.mem_of_getElem? (i := 16) rfl))) (by decide) (backOf (W := 0) (own_eqnull l Z a0 hw [] b1 h7 n0 Zs74 ) hZ (hw _ (List.mem_of_getElem? (i := 18) rfl)) (hw _ (List.mem_of_getElem? (i := 3) rfl)) (by decide) (by decide)) q73a q73c (g := (mkF m 176 #[.val (.long x0), .second, .val (.long y0), .second, .val (.long z0), .second, .val (.long w0), .second, .val (.int fl), .val (.long c1), .second, .val (.long n1), .second, .val (.long c2), .second, .val (.long n2), .second, .val (.ref b1), .val (.ref b5), .val (.int (0 : Int32)), .val (.int (1 : Int32)), .val (.int (((fl.toUInt32 >>> ((2 : Int32) &&& 31).toUInt32).toInt32) &&& (3 : Int32)))] [.null, (.ref b1)])) rfl (by rw [hml]; rfl) (Steps.refl _) (argsL := [.null]) (rest := []) (lenOf own_pd3 rfl) rfl (by show 2 * 0 + _ ≤ _; exact Nat.le_of_eq rfl) (hb hby at_176) (fun _ _ => ⟨rfl, e70, (by decide : 2 + 0 ≤ _), (by decide : 4 + 0 ≤ _)⟩)
                dsimp only [Pt.U, Pt.locs, Pt.cells, Pt.slots] at X73 l73 y73 z73 st73 hQ73
                subst l73 y73 z73
                obtain ⟨rfl, Nq73, e73⟩ := hQ73
                have N73 := Fr.app N70 Nq73
                refine own_fs st73 ?_
                show own_G p.tables e below _ (T73.setTop (mkF m 179 #[.val (.long x0), .second, .val (.long y0), .second, .val (.long z0), .second, .val (.long w0), .second, .val (.int fl), .val (.long c1), .second, .val (.long n1), .second, .val (.long c2), .second, .val (.long n2), .second, .val (.ref b1), .val (.ref b5), .val (.int (0 : Int32)), .val (.int (1 : Int32)), .val (.int (((fl.toUInt32 >>> ((2 : Int32) &&& 31).toUInt32).toInt32) &&& (3 : Int32)))] [(.int (0 : Int32))]))
                refine own_fs (XS.ifNo X73.here hx rfl (hb hby at_179) rfl (XT.i0_ne_f (by decide : (0 : Int32) = (0 : Int32))) (Steps.refl _)) ?_
                show own_G p.tables e below _ (T73.setTop (mkF m 182 #[.val (.long x0), .second, .val (.long y0), .second, .val (.long z0), .second, .val (.long w0), .second, .val (.int fl), .val (.long c1), .second, .val (.long n1), .second, .val (.long c2), .second, .val (.long n2), .second, .val (.ref b1), .val (.ref b5), .val (.int (0 : Int32)), .val (.int (1 : Int32)), .val (.int (((fl.toUInt32 >>> ((2 : Int32) &&& 31).toUInt32).toInt32) &&& (3 : Int32)))] []))
                refine own_fs (XS.iconst X73.here hx rfl (hb hby at_182) (Steps.refl _)) ?_
                show own_G p.tables e below _ (T73.setTop (mkF m 183 #[.val (.long x0), .second, .val (.long y0), .second, .val (.long z0), .second, .val (.long w0), .second, .val (.int fl), .val (.long c1), .second, .val (.long n1), .second, .val (.long c2), .second, .val (.long n2), .second, .val (.ref b1), .val (.ref b5), .val (.int (0 : Int32)), .val (.int (1 : Int32)), .val (.int (((fl.toUInt32 >>> ((2 : Int32) &&& 31).toUInt32).toInt32) &&& (3 : Int32)))] [(.int (1 : Int32))]))
                refine own_fs (XS.goto X73.here hx rfl (pc0 := 183) (pc' := 187) rfl (hb hby at_183) (by decide) (by decide) (Steps.refl _)) ?_
                show own_G p.tables e below _ (T73.setTop (mkF m 187 #[.val (.long x0), .second, .val (.long y0), .second, .val (.long z0), .second, .val (.long w0), .second, .val (.int fl), .val (.long c1), .second, .val (.long n1), .second, .val (.long c2), .second, .val (.long n2), .second, .val (.ref b1), .val (.ref b5), .val (.int (0 : Int32)), .val (.int (1 : Int32)), .val (.int (((fl.toUInt32 >>> ((2 : Int32) &&& 31).toUInt32).toInt32) &&& (3 : Int32)))] [(.int (1 : Int32))]))
                exact own_retN X73 hx (t := .boolean) Bd.returns hlk (by simp) (hb hby at_187) (by decide) (by decide) e73 ⟨rfl, N73⟩
              · refine own_fs (XS.icmpYes X70.here hx rfl (pc0 := 165) (pc' := 188) rfl (hb hby at_165) rfl (XT.ii_ne_t hc165) (by decide) (by decide) (Steps.refl _)) ?_
                show own_G p.tables e below _ (T70.setTop (mkF m 188 #[.val (.long x0), .second, .val (.long y0), .second, .val (.long z0), .second, .val (.long w0), .second, .val (.int fl), .val (.long c1), .second, .val (.long n1), .second, .val (.long c2), .second, .val (.long n2), .second, .val (.ref b1), .val (.ref b5), .val (.int (0 : Int32)), .val (.int (1 : Int32)), .val (.int (((fl.toUInt32 >>> ((2 : Int32) &&& 31).toUInt32).toInt32) &&& (3 : Int32)))] []))
                refine own_fs (XS.iload X70.here hx rfl (hb hby at_188) rfl (Steps.refl _)) ?_
                show own_G p.tables e below _ (T70.setTop (mkF m 190 #[.val (.long x0), .second, .val (.long y0), .second, .val (.long z0), .second, .val (.long w0), .second, .val (.int fl), .val (.long c1), .second, .val (.long n1), .second, .val (.long c2), .second, .val (.long n2), .second, .val (.ref b1), .val (.ref b5), .val (.int (0 : Int32)), .val (.int (1 : Int32)), .val (.int (((fl.toUInt32 >>> ((2 : Int32) &&& 31).toUInt32).toInt32) &&& (3 : Int32)))] [(.int (((fl.toUInt32 >>> ((2 : Int32) &&& 31).toUInt32).toInt32) &&& (3 : Int32)))]))
                refine own_fs (XS.iconst X70.here hx rfl (hb hby at_190) (Steps.refl _)) ?_
                show own_G p.tables e below _ (T70.setTop (mkF m 191 #[.val (.long x0), .second, .val (.long y0), .second, .val (.long z0), .second, .val (.long w0), .second, .val (.int fl), .val (.long c1), .second, .val (.long n1), .second, .val (.long c2), .second, .val (.long n2), .second, .val (.ref b1), .val (.ref b5), .val (.int (0 : Int32)), .val (.int (1 : Int32)), .val (.int (((fl.toUInt32 >>> ((2 : Int32) &&& 31).toUInt32).toInt32) &&& (3 : Int32)))] [(.int (2 : Int32)), (.int (((fl.toUInt32 >>> ((2 : Int32) &&& 31).toUInt32).toInt32) &&& (3 : Int32)))]))
                by_cases hc191 : (((fl.toUInt32 >>> ((2 : Int32) &&& 31).toUInt32).toInt32) &&& (3 : Int32)) = (2 : Int32)
                · refine own_fs (XS.icmpNo X70.here hx rfl (hb hby at_191) rfl (XT.ii_ne_f hc191) (Steps.refl _)) ?_
                  show own_G p.tables e below _ (T70.setTop (mkF m 194 #[.val (.long x0), .second, .val (.long y0), .second, .val (.long z0), .second, .val (.long w0), .second, .val (.int fl), .val (.long c1), .second, .val (.long n1), .second, .val (.long c2), .second, .val (.long n2), .second, .val (.ref b1), .val (.ref b5), .val (.int (0 : Int32)), .val (.int (1 : Int32)), .val (.int (((fl.toUInt32 >>> ((2 : Int32) &&& 31).toUInt32).toInt32) &&& (3 : Int32)))] []))
                  refine own_fs (XS.iload X70.here hx rfl (hb hby at_194) rfl (Steps.refl _)) ?_
                  show own_G p.tables e below _ (T70.setTop (mkF m 196 #[.val (.long x0), .second, .val (.long y0), .second, .val (.long z0), .second, .val (.long w0), .second, .val (.int fl), .val (.long c1), .second, .val (.long n1), .second, .val (.long c2), .second, .val (.long n2), .second, .val (.ref b1), .val (.ref b5), .val (.int (0 : Int32)), .val (.int (1 : Int32)), .val (.int (((fl.toUInt32 >>> ((2 : Int32) &&& 31).toUInt32).toInt32) &&& (3 : Int32)))] [(.int (1 : Int32))]))
                  refine own_fs (XS.ifNo X70.here hx rfl (hb hby at_196) rfl (XT.i0_eq_f (by decide : ¬ ((1 : Int32) = (0 : Int32)))) (Steps.refl _)) ?_
                  show own_G p.tables e below _ (T70.setTop (mkF m 199 #[.val (.long x0), .second, .val (.long y0), .second, .val (.long z0), .second, .val (.long w0), .second, .val (.int fl), .val (.long c1), .second, .val (.long n1), .second, .val (.long c2), .second, .val (.long n2), .second, .val (.ref b1), .val (.ref b5), .val (.int (0 : Int32)), .val (.int (1 : Int32)), .val (.int (((fl.toUInt32 >>> ((2 : Int32) &&& 31).toUInt32).toInt32) &&& (3 : Int32)))] []))
                  refine own_fs (XS.aload X70.here hx rfl (hb hby at_199) rfl rfl (Steps.refl _)) ?_
                  show own_G p.tables e below _ (T70.setTop (mkF m 201 #[.val (.long x0), .second, .val (.long y0), .second, .val (.long z0), .second, .val (.long w0), .second, .val (.int fl), .val (.long c1), .second, .val (.long n1), .second, .val (.long c2), .second, .val (.long n2), .second, .val (.ref b1), .val (.ref b5), .val (.int (0 : Int32)), .val (.int (1 : Int32)), .val (.int (((fl.toUInt32 >>> ((2 : Int32) &&& 31).toUInt32).toInt32) &&& (3 : Int32)))] [(.ref b1)]))
                  refine own_fs (XS.lload X70.here hx rfl (hb hby at_201) rfl (Steps.refl _)) ?_
                  show own_G p.tables e below _ (T70.setTop (mkF m 203 #[.val (.long x0), .second, .val (.long y0), .second, .val (.long z0), .second, .val (.long w0), .second, .val (.int fl), .val (.long c1), .second, .val (.long n1), .second, .val (.long c2), .second, .val (.long n2), .second, .val (.ref b1), .val (.ref b5), .val (.int (0 : Int32)), .val (.int (1 : Int32)), .val (.int (((fl.toUInt32 >>> ((2 : Int32) &&& 31).toUInt32).toInt32) &&& (3 : Int32)))] [(.long c1), (.ref b1)]))
                  have Zs78 : n0 ≤ h7.size := (Nat.le_trans (Nat.le_trans (Nat.le_trans (Nat.le_trans Z0 E1.1) K3.1) E5.1) K7.1)
                  obtain ⟨_, _, ⟨T77, L77, k77, n77⟩, -, X77, ⟨Lc77, hQ77, l77, y77, z77⟩, st77⟩ := Jvm.LawKit.callS X70 hx (y := (⟨"java/lang/Long", "valueOf", "(J)Ljava/lang/Long;"⟩ : MethodName)) hown (mvT hZ (hw _ (List.mem_of_getElem? (i := 21) rfl))) (mvT hZ (hw _ (List.mem_of_getElem? (i := 22) rfl))) (mvT hZ (hw _ (List.mem_of_getElem? (i := 23) rfl))) (mvT hZ (hw _ (List.mem_of_getElem? (i := 24) rfl))) (by decide) (backOf (W := 1) (own_valueOf l Z a0 hw [] c1 cb cc h7 n0 Zs78 hSta hBx (Old.keep (Old.ext (Old.keep (Old.ext hOld E1) K3 (allS ge_b1 all0)) E5) K7 (allS ge_b5 all0))) hZ (hw _ (List.mem_of_getElem? (i := 24) rfl)) (hw _ (List.mem_of_getElem? (i := 23) rfl)) (by decide) (by decide)) (g := (mkF m 203 #[.val (.long x0), .second, .val (.long y0), .second, .val (.long z0), .second, .val (.long w0), .second, .val (.int fl), .val (.long c1), .second, .val (.long n1), .second, .val (.long c2), .second, .val (.long n2), .second, .val (.ref b1), .val (.ref b5), .val (.int (0 : Int32)), .val (.int (1 : Int32)), .val (.int (((fl.toUInt32 >>> ((2 : Int32) &&& 31).toUInt32).toInt32) &&& (3 : Int32)))] [(.long c1), (.ref b1)])) rfl (by rw [hml]; rfl) (argsL := [(.long c1)]) (rest := [(.ref b1)]) (lenOf own_pd4 rfl) rfl (by show 2 * 0 + _ ≤ _; exact Nat.le_of_eq rfl) (hb hby at_203) (fun _ _ => ⟨rfl, e70, (by decide : 2 + 1 ≤ _), (by decide : 4 + 1 ≤ _)⟩)
                  dsimp only [Pt.U, Pt.locs, Pt.cells, Pt.slots] at X77 l77 y77 z77 st77 hQ77
                  subst l77 y77 z77
                  obtain ⟨h77, e77⟩ : ∃ h, T77.heap = h := ⟨_, rfl⟩
                  rw [e77] at hQ77
                  obtain ⟨ar75, rfl, Nq77, K77, P76_0, P76_1, P76_2⟩ := hQ77
                  have N77 := Fr.app N70 Nq77
                  refine own_fs (st77 _ (Steps.refl _)) ?_
                  show own_G p.tables e below _ (T77.setTop (mkF m 206 #[.val (.long x0), .second, .val (.long y0), .second, .val (.long z0), .second, .val (.long w0), .second, .val (.int fl), .val (.long c1), .second, .val (.long n1), .second, .val (.long c2), .second, .val (.long n2), .second, .val (.ref b1), .val (.ref b5), .val (.int (0 : Int32)), .val (.int (1 : Int32)), .val (.int (((fl.toUInt32 >>> ((2 : Int32) &&& 31).toUInt32).toInt32) &&& (3 : Int32)))] [(.ref ar75), (.ref b1)]))
                  have Zs81 : n0 ≤ h77.size := (Nat.le_trans (Nat.le_trans (Nat.le_trans (Nat.le_trans (Nat.le_trans Z0 E1.1) K3.1) E5.1) K7.1) K77.1)
                  obtain ⟨cq80, kq80, q80a, q80b, q80c⟩ := isOf hZ e77 (((Exa.ext E5 (A1.keep K3)).keep K7).keep K77)
                  obtain ⟨_, _, ⟨T80, L80, k80, n80⟩, -, X80, ⟨Lc80, hQ80, l80, y80, z80⟩, st80⟩ := X77.virtualBack hx (y := (⟨"com/example/dibs/dibs/namespace/RequestId", "equals", "(Ljava/lang/Object;)Z"⟩ : MethodName)) (z := (⟨"com/example/dibs/dibs/namespace/RequestId", "equals", "(Ljava/lang/Object;)Z"⟩ : MethodName)) hown (mvT hZ (hw _ (List.mem_of_getElem? (i := 14) rfl))) (mvT hZ (hw _ (List.mem_of_getElem? (i := 15) rfl))) (notFace_of_selects (args := #[]) (mvT hZ (hw _ (List.mem_of_getElem? (i := 17) rfl)))) (mvT hZ (hw _ (List.mem_of_getElem? (i := 17) rfl))) (mvT hZ (hw _ (List.mem_of_getElem? (i := 16) rfl))) (by decide) (backOf (W := 0) (own_eqlong l Z a0 hw [] b1 ar75 h77 n0 Zs81 P76_0) hZ (hw _ (List.mem_of_getElem? (i := 18) rfl)) (hw _ (List.mem_of_getElem? (i := 3) rfl)) (by decide) (by decide)) q80a q80c (g := (mkF m 206 #[.val (.long x0), .second, .val (.long y0), .second, .val (.long z0), .second, .val (.long w0), .second, .val (.int fl), .val (.long c1), .second, .val (.long n1), .second, .val (.long c2), .second, .val (.long n2), .second, .val (.ref b1), .val (.ref b5), .val (.int (0 : Int32)), .val (.int (1 : Int32)), .val (.int (((fl.toUInt32 >>> ((2 : Int32) &&& 31).toUInt32).toInt32) &&& (3 : Int32)))] [(.ref ar75), (.ref b1)])) rfl (by rw [hml]; rfl) (Steps.refl _) (argsL := [(.ref ar75)]) (rest := []) (lenOf own_pd3 rfl) rfl (by show 2 * 0 + _ ≤ _; exact Nat.le_of_eq rfl) (hb hby at_206) (fun _ _ => ⟨rfl, e77, (by decide : 3 + 0 ≤ _), (by decide : 5 + 0 ≤ _)⟩)
                  dsimp only [Pt.U, Pt.locs, Pt.cells, Pt.slots] at X80 l80 y80 z80 st80 hQ80
                  subst l80 y80 z80
                  obtain ⟨rfl, Nq80, e80⟩ := hQ80
                  have N80 := Fr.app N77 Nq80
                  refine own_fs st80 ?_
                  show own_G p.tables e below _ (T80.setTop (mkF m 209 #[.val (.long x0), .second, .val (.long y0), .second, .val (.long z0), .second, .val (.long w0), .second, .val (.int fl), .val (.long c1), .second, .val (.long n1), .second, .val (.long c2), .second, .val (.long n2), .second, .val (.ref b1), .val (.ref b5), .val (.int (0 : Int32)), .val (.int (1 : Int32)), .val (.int (((fl.toUInt32 >>> ((2 : Int32) &&& 31).toUInt32).toInt32) &&& (3 : Int32)))] [(.int (0 : Int32))]))
                  refine own_fs (XS.ifNo X80.here hx rfl (hb hby at_209) rfl (XT.i0_ne_f (by decide : (0 : Int32) = (0 : Int32))) (Steps.refl _)) ?_
                  show own_G p.tables e below _ (T80.setTop (mkF m 212 #[.val (.long x0), .second, .val (.long y0), .second, .val (.long z0), .second, .val (.long w0), .second, .val (.int fl), .val (.long c1), .second, .val (.long n1), .second, .val (.long c2), .second, .val (.long n2), .second, .val (.ref b1), .val (.ref b5), .val (.int (0 : Int32)), .val (.int (1 : Int32)), .val (.int (((fl.toUInt32 >>> ((2 : Int32) &&& 31).toUInt32).toInt32) &&& (3 : Int32)))] []))
                  refine own_fs (XS.iconst X80.here hx rfl (hb hby at_212) (Steps.refl _)) ?_
                  show own_G p.tables e below _ (T80.setTop (mkF m 213 #[.val (.long x0), .second, .val (.long y0), .second, .val (.long z0), .second, .val (.long w0), .second, .val (.int fl), .val (.long c1), .second, .val (.long n1), .second, .val (.long c2), .second, .val (.long n2), .second, .val (.ref b1), .val (.ref b5), .val (.int (0 : Int32)), .val (.int (1 : Int32)), .val (.int (((fl.toUInt32 >>> ((2 : Int32) &&& 31).toUInt32).toInt32) &&& (3 : Int32)))] [(.int (1 : Int32))]))
                  refine own_fs (XS.goto X80.here hx rfl (pc0 := 213) (pc' := 217) rfl (hb hby at_213) (by decide) (by decide) (Steps.refl _)) ?_
                  show own_G p.tables e below _ (T80.setTop (mkF m 217 #[.val (.long x0), .second, .val (.long y0), .second, .val (.long z0), .second, .val (.long w0), .second, .val (.int fl), .val (.long c1), .second, .val (.long n1), .second, .val (.long c2), .second, .val (.long n2), .second, .val (.ref b1), .val (.ref b5), .val (.int (0 : Int32)), .val (.int (1 : Int32)), .val (.int (((fl.toUInt32 >>> ((2 : Int32) &&& 31).toUInt32).toInt32) &&& (3 : Int32)))] [(.int (1 : Int32))]))
                  exact own_retN X80 hx (t := .boolean) Bd.returns hlk (by simp) (hb hby at_217) (by decide) (by decide) e80 ⟨rfl, N80⟩
                · refine own_fs (XS.icmpYes X70.here hx rfl (pc0 := 191) (pc' := 218) rfl (hb hby at_191) rfl (XT.ii_ne_t hc191) (by decide) (by decide) (Steps.refl _)) ?_
                  show own_G p.tables e below _ (T70.setTop (mkF m 218 #[.val (.long x0), .second, .val (.long y0), .second, .val (.long z0), .second, .val (.long w0), .second, .val (.int fl), .val (.long c1), .second, .val (.long n1), .second, .val (.long c2), .second, .val (.long n2), .second, .val (.ref b1), .val (.ref b5), .val (.int (0 : Int32)), .val (.int (1 : Int32)), .val (.int (((fl.toUInt32 >>> ((2 : Int32) &&& 31).toUInt32).toInt32) &&& (3 : Int32)))] []))
                  refine own_fs (XS.iload X70.here hx rfl (hb hby at_218) rfl (Steps.refl _)) ?_
                  show own_G p.tables e below _ (T70.setTop (mkF m 220 #[.val (.long x0), .second, .val (.long y0), .second, .val (.long z0), .second, .val (.long w0), .second, .val (.int fl), .val (.long c1), .second, .val (.long n1), .second, .val (.long c2), .second, .val (.long n2), .second, .val (.ref b1), .val (.ref b5), .val (.int (0 : Int32)), .val (.int (1 : Int32)), .val (.int (((fl.toUInt32 >>> ((2 : Int32) &&& 31).toUInt32).toInt32) &&& (3 : Int32)))] [(.int (((fl.toUInt32 >>> ((2 : Int32) &&& 31).toUInt32).toInt32) &&& (3 : Int32)))]))
                  refine own_fs (XS.iconst X70.here hx rfl (hb hby at_220) (Steps.refl _)) ?_
                  show own_G p.tables e below _ (T70.setTop (mkF m 221 #[.val (.long x0), .second, .val (.long y0), .second, .val (.long z0), .second, .val (.long w0), .second, .val (.int fl), .val (.long c1), .second, .val (.long n1), .second, .val (.long c2), .second, .val (.long n2), .second, .val (.ref b1), .val (.ref b5), .val (.int (0 : Int32)), .val (.int (1 : Int32)), .val (.int (((fl.toUInt32 >>> ((2 : Int32) &&& 31).toUInt32).toInt32) &&& (3 : Int32)))] [(.int (3 : Int32)), (.int (((fl.toUInt32 >>> ((2 : Int32) &&& 31).toUInt32).toInt32) &&& (3 : Int32)))]))
                  by_cases hc221 : (((fl.toUInt32 >>> ((2 : Int32) &&& 31).toUInt32).toInt32) &&& (3 : Int32)) = (3 : Int32)
                  · refine own_fs (XS.icmpNo X70.here hx rfl (hb hby at_221) rfl (XT.ii_ne_f hc221) (Steps.refl _)) ?_
                    show own_G p.tables e below _ (T70.setTop (mkF m 224 #[.val (.long x0), .second, .val (.long y0), .second, .val (.long z0), .second, .val (.long w0), .second, .val (.int fl), .val (.long c1), .second, .val (.long n1), .second, .val (.long c2), .second, .val (.long n2), .second, .val (.ref b1), .val (.ref b5), .val (.int (0 : Int32)), .val (.int (1 : Int32)), .val (.int (((fl.toUInt32 >>> ((2 : Int32) &&& 31).toUInt32).toInt32) &&& (3 : Int32)))] []))
                    refine own_fs (XS.iload X70.here hx rfl (hb hby at_224) rfl (Steps.refl _)) ?_
                    show own_G p.tables e below _ (T70.setTop (mkF m 226 #[.val (.long x0), .second, .val (.long y0), .second, .val (.long z0), .second, .val (.long w0), .second, .val (.int fl), .val (.long c1), .second, .val (.long n1), .second, .val (.long c2), .second, .val (.long n2), .second, .val (.ref b1), .val (.ref b5), .val (.int (0 : Int32)), .val (.int (1 : Int32)), .val (.int (((fl.toUInt32 >>> ((2 : Int32) &&& 31).toUInt32).toInt32) &&& (3 : Int32)))] [(.int (1 : Int32))]))
                    refine own_fs (XS.ifNo X70.here hx rfl (hb hby at_226) rfl (XT.i0_eq_f (by decide : ¬ ((1 : Int32) = (0 : Int32)))) (Steps.refl _)) ?_
                    show own_G p.tables e below _ (T70.setTop (mkF m 229 #[.val (.long x0), .second, .val (.long y0), .second, .val (.long z0), .second, .val (.long w0), .second, .val (.int fl), .val (.long c1), .second, .val (.long n1), .second, .val (.long c2), .second, .val (.long n2), .second, .val (.ref b1), .val (.ref b5), .val (.int (0 : Int32)), .val (.int (1 : Int32)), .val (.int (((fl.toUInt32 >>> ((2 : Int32) &&& 31).toUInt32).toInt32) &&& (3 : Int32)))] []))
                    refine own_fs (XS.aload X70.here hx rfl (hb hby at_229) rfl rfl (Steps.refl _)) ?_
                    show own_G p.tables e below _ (T70.setTop (mkF m 231 #[.val (.long x0), .second, .val (.long y0), .second, .val (.long z0), .second, .val (.long w0), .second, .val (.int fl), .val (.long c1), .second, .val (.long n1), .second, .val (.long c2), .second, .val (.long n2), .second, .val (.ref b1), .val (.ref b5), .val (.int (0 : Int32)), .val (.int (1 : Int32)), .val (.int (((fl.toUInt32 >>> ((2 : Int32) &&& 31).toUInt32).toInt32) &&& (3 : Int32)))] [(.ref b1)]))
                    refine own_fs (XS.aload X70.here hx rfl (hb hby at_231) rfl rfl (Steps.refl _)) ?_
                    show own_G p.tables e below _ (T70.setTop (mkF m 233 #[.val (.long x0), .second, .val (.long y0), .second, .val (.long z0), .second, .val (.long w0), .second, .val (.int fl), .val (.long c1), .second, .val (.long n1), .second, .val (.long c2), .second, .val (.long n2), .second, .val (.ref b1), .val (.ref b5), .val (.int (0 : Int32)), .val (.int (1 : Int32)), .val (.int (((fl.toUInt32 >>> ((2 : Int32) &&& 31).toUInt32).toInt32) &&& (3 : Int32)))] [(.ref b1), (.ref b1)]))
                    have Zs84 : n0 ≤ h7.size := (Nat.le_trans (Nat.le_trans (Nat.le_trans (Nat.le_trans Z0 E1.1) K3.1) E5.1) K7.1)
                    obtain ⟨cq83, kq83, q83a, q83b, q83c⟩ := isOf hZ e70 ((Exa.ext E5 (A1.keep K3)).keep K7)
                    obtain ⟨_, _, ⟨T83, L83, k83, n83⟩, -, X83, ⟨Lc83, hQ83, l83, y83, z83⟩, st83⟩ := X70.virtualBack hx (y := (⟨"com/example/dibs/dibs/namespace/RequestId", "equals", "(Ljava/lang/Object;)Z"⟩ : MethodName)) (z := (⟨"com/example/dibs/dibs/namespace/RequestId", "equals", "(Ljava/lang/Object;)Z"⟩ : MethodName)) hown (mvT hZ (hw _ (List.mem_of_getElem? (i := 14) rfl))) (mvT hZ (hw _ (List.mem_of_getElem? (i := 15) rfl))) (notFace_of_selects (args := #[]) (mvT hZ (hw _ (List.mem_of_getElem? (i := 17) rfl)))) (mvT hZ (hw _ (List.mem_of_getElem? (i := 17) rfl))) (mvT hZ (hw _ (List.mem_of_getElem? (i := 16) rfl))) (by decide) (backOf (W := 0) (own_equals l Z a0 hw [] b1 c1 n1 b1 c1 n1 h7 n0 Zs84 ((Fld.ext E5 P2_0).keep K7 (ninS (Nat.ne_of_lt (Nat.lt_of_lt_of_le (Exa.lt (A1.keep K3)) (Nat.le_of_eq g5.symm))) nin0)) ((Fld.ext E5 P2_1).keep K7 (ninS (Nat.ne_of_lt (Nat.lt_of_lt_of_le (Exa.lt (A1.keep K3)) (Nat.le_of_eq g5.symm))) nin0)) ((Fld.ext E5 P2_0).keep K7 (ninS (Nat.ne_of_lt (Nat.lt_of_lt_of_le (Exa.lt (A1.keep K3)) (Nat.le_of_eq g5.symm))) nin0)) ((Fld.ext E5 P2_1).keep K7 (ninS (Nat.ne_of_lt (Nat.lt_of_lt_of_le (Exa.lt (A1.keep K3)) (Nat.le_of_eq g5.symm))) nin0)) ((Exa.ext E5 (A1.keep K3)).keep K7)) hZ (hw _ (List.mem_of_getElem? (i := 18) rfl)) (hw _ (List.mem_of_getElem? (i := 3) rfl)) (by decide) (by decide)) q83a q83c (g := (mkF m 233 #[.val (.long x0), .second, .val (.long y0), .second, .val (.long z0), .second, .val (.long w0), .second, .val (.int fl), .val (.long c1), .second, .val (.long n1), .second, .val (.long c2), .second, .val (.long n2), .second, .val (.ref b1), .val (.ref b5), .val (.int (0 : Int32)), .val (.int (1 : Int32)), .val (.int (((fl.toUInt32 >>> ((2 : Int32) &&& 31).toUInt32).toInt32) &&& (3 : Int32)))] [(.ref b1), (.ref b1)])) rfl (by rw [hml]; rfl) (Steps.refl _) (argsL := [(.ref b1)]) (rest := []) (lenOf own_pd3 rfl) rfl (by show 2 * 0 + _ ≤ _; exact Nat.le_of_eq rfl) (hb hby at_233) (fun _ _ => ⟨rfl, e70, (by decide : 2 + 0 ≤ _), (by decide : 4 + 0 ≤ _)⟩)
                    dsimp only [Pt.U, Pt.locs, Pt.cells, Pt.slots] at X83 l83 y83 z83 st83 hQ83
                    subst l83 y83 z83
                    obtain ⟨rfl, Nq83, e83⟩ := hQ83
                    have N83 := Fr.app N70 Nq83
                    refine own_fs st83 ?_
                    show own_G p.tables e below _ (T83.setTop (mkF m 236 #[.val (.long x0), .second, .val (.long y0), .second, .val (.long z0), .second, .val (.long w0), .second, .val (.int fl), .val (.long c1), .second, .val (.long n1), .second, .val (.long c2), .second, .val (.long n2), .second, .val (.ref b1), .val (.ref b5), .val (.int (0 : Int32)), .val (.int (1 : Int32)), .val (.int (((fl.toUInt32 >>> ((2 : Int32) &&& 31).toUInt32).toInt32) &&& (3 : Int32)))] [(.int (own_eq c1 n1 c1 n1))]))
                    rw [show own_eq c1 n1 c1 n1 = (1 : Int32) from by simp only [own_eq, if_neg cc1, if_neg cc2, if_neg nn1, if_neg nn2, ↓reduceIte]]
                    show own_G p.tables e below _ (T83.setTop (mkF m 236 #[.val (.long x0), .second, .val (.long y0), .second, .val (.long z0), .second, .val (.long w0), .second, .val (.int fl), .val (.long c1), .second, .val (.long n1), .second, .val (.long c2), .second, .val (.long n2), .second, .val (.ref b1), .val (.ref b5), .val (.int (0 : Int32)), .val (.int (1 : Int32)), .val (.int (((fl.toUInt32 >>> ((2 : Int32) &&& 31).toUInt32).toInt32) &&& (3 : Int32)))] [(.int (1 : Int32))]))
                    refine own_fs (XS.ifNo X83.here hx rfl (hb hby at_236) rfl (XT.i0_eq_f (by decide : ¬ ((1 : Int32) = (0 : Int32)))) (Steps.refl _)) ?_
                    show own_G p.tables e below _ (T83.setTop (mkF m 239 #[.val (.long x0), .second, .val (.long y0), .second, .val (.long z0), .second, .val (.long w0), .second, .val (.int fl), .val (.long c1), .second, .val (.long n1), .second, .val (.long c2), .second, .val (.long n2), .second, .val (.ref b1), .val (.ref b5), .val (.int (0 : Int32)), .val (.int (1 : Int32)), .val (.int (((fl.toUInt32 >>> ((2 : Int32) &&& 31).toUInt32).toInt32) &&& (3 : Int32)))] []))
                    refine own_fs (XS.iconst X83.here hx rfl (hb hby at_239) (Steps.refl _)) ?_
                    show own_G p.tables e below _ (T83.setTop (mkF m 240 #[.val (.long x0), .second, .val (.long y0), .second, .val (.long z0), .second, .val (.long w0), .second, .val (.int fl), .val (.long c1), .second, .val (.long n1), .second, .val (.long c2), .second, .val (.long n2), .second, .val (.ref b1), .val (.ref b5), .val (.int (0 : Int32)), .val (.int (1 : Int32)), .val (.int (((fl.toUInt32 >>> ((2 : Int32) &&& 31).toUInt32).toInt32) &&& (3 : Int32)))] [(.int (1 : Int32))]))
                    refine own_fs (XS.goto X83.here hx rfl (pc0 := 240) (pc' := 244) rfl (hb hby at_240) (by decide) (by decide) (Steps.refl _)) ?_
                    show own_G p.tables e below _ (T83.setTop (mkF m 244 #[.val (.long x0), .second, .val (.long y0), .second, .val (.long z0), .second, .val (.long w0), .second, .val (.int fl), .val (.long c1), .second, .val (.long n1), .second, .val (.long c2), .second, .val (.long n2), .second, .val (.ref b1), .val (.ref b5), .val (.int (0 : Int32)), .val (.int (1 : Int32)), .val (.int (((fl.toUInt32 >>> ((2 : Int32) &&& 31).toUInt32).toInt32) &&& (3 : Int32)))] [(.int (1 : Int32))]))
                    exact own_retN X83 hx (t := .boolean) Bd.returns hlk (by simp) (hb hby at_244) (by decide) (by decide) e83 ⟨rfl, N83⟩
                  · refine own_fs (XS.icmpYes X70.here hx rfl (pc0 := 221) (pc' := 245) rfl (hb hby at_221) rfl (XT.ii_ne_t hc221) (by decide) (by decide) (Steps.refl _)) ?_
                    show own_G p.tables e below _ (T70.setTop (mkF m 245 #[.val (.long x0), .second, .val (.long y0), .second, .val (.long z0), .second, .val (.long w0), .second, .val (.int fl), .val (.long c1), .second, .val (.long n1), .second, .val (.long c2), .second, .val (.long n2), .second, .val (.ref b1), .val (.ref b5), .val (.int (0 : Int32)), .val (.int (1 : Int32)), .val (.int (((fl.toUInt32 >>> ((2 : Int32) &&& 31).toUInt32).toInt32) &&& (3 : Int32)))] []))
                    refine own_fs (XS.iload X70.here hx rfl (hb hby at_245) rfl (Steps.refl _)) ?_
                    show own_G p.tables e below _ (T70.setTop (mkF m 247 #[.val (.long x0), .second, .val (.long y0), .second, .val (.long z0), .second, .val (.long w0), .second, .val (.int fl), .val (.long c1), .second, .val (.long n1), .second, .val (.long c2), .second, .val (.long n2), .second, .val (.ref b1), .val (.ref b5), .val (.int (0 : Int32)), .val (.int (1 : Int32)), .val (.int (((fl.toUInt32 >>> ((2 : Int32) &&& 31).toUInt32).toInt32) &&& (3 : Int32)))] [(.int (1 : Int32))]))
                    exact own_retN X70 hx (t := .boolean) Bd.returns hlk (by simp) (hb hby at_247) (by decide) (by decide) e70 ⟨rfl, N70⟩
        show own_G p.tables e below _ (s₁.setTop (mkF m 56 #[.val (.long x0), .second, .val (.long y0), .second, .val (.long z0), .second, .val (.long w0), .second, .val (.int fl), .val (.long c1), .second, .val (.long n1), .second, .val (.long c2), .second, .unset, .unset, .unset, .unset, .unset, .unset, .unset] [(.int fl)]))
        refine own_fs (XS.iconst X0.here hx rfl (hb hby at_56) (Steps.refl _)) ?_
        show own_G p.tables e below _ (s₁.setTop (mkF m 57 #[.val (.long x0), .second, .val (.long y0), .second, .val (.long z0), .second, .val (.long w0), .second, .val (.int fl), .val (.long c1), .second, .val (.long n1), .second, .val (.long c2), .second, .unset, .unset, .unset, .unset, .unset, .unset, .unset] [(.int (2 : Int32)), (.int fl)]))
        refine own_fs (XS.iand X0.here hx rfl (hb hby at_57) rfl (Steps.refl _)) ?_
        show own_G p.tables e below _ (s₁.setTop (mkF m 58 #[.val (.long x0), .second, .val (.long y0), .second, .val (.long z0), .second, .val (.long w0), .second, .val (.int fl), .val (.long c1), .second, .val (.long n1), .second, .val (.long c2), .second, .unset, .unset, .unset, .unset, .unset, .unset, .unset] [(.int (fl &&& (2 : Int32)))]))
        by_cases hc58 : (fl &&& (2 : Int32)) = (0 : Int32)
        · refine own_fs (XS.ifYes X0.here hx rfl (pc0 := 58) (pc' := 66) rfl (hb hby at_58) rfl (XT.i0_eq_t hc58) (by decide) (by decide) (Steps.refl _)) ?_
          show own_G p.tables e below _ (s₁.setTop (mkF m 66 #[.val (.long x0), .second, .val (.long y0), .second, .val (.long z0), .second, .val (.long w0), .second, .val (.int fl), .val (.long c1), .second, .val (.long n1), .second, .val (.long c2), .second, .unset, .unset, .unset, .unset, .unset, .unset, .unset] []))
          refine own_fs (XS.lload X0.here hx rfl (hb hby at_66) rfl (Steps.refl _)) ?_
          show own_G p.tables e below _ (s₁.setTop (mkF m 68 #[.val (.long x0), .second, .val (.long y0), .second, .val (.long z0), .second, .val (.long w0), .second, .val (.int fl), .val (.long c1), .second, .val (.long n1), .second, .val (.long c2), .second, .unset, .unset, .unset, .unset, .unset, .unset, .unset] [(.long w0)]))
          refine own_fs (X0.ldc2Long hx hown (mvT hZ (hw _ (List.mem_of_getElem? (i := 0) rfl))) (g := (mkF m 68 #[.val (.long x0), .second, .val (.long y0), .second, .val (.long z0), .second, .val (.long w0), .second, .val (.int fl), .val (.long c1), .second, .val (.long n1), .second, .val (.long c2), .second, .unset, .unset, .unset, .unset, .unset, .unset, .unset] [(.long w0)])) rfl (hb hby at_68) _ (Steps.refl _)) ?_
          show own_G p.tables e below _ (s₁.setTop (mkF m 71 #[.val (.long x0), .second, .val (.long y0), .second, .val (.long z0), .second, .val (.long w0), .second, .val (.int fl), .val (.long c1), .second, .val (.long n1), .second, .val (.long c2), .second, .unset, .unset, .unset, .unset, .unset, .unset, .unset] [(.long (9223372036854775807 : Int64)), (.long w0)]))
          refine own_fs (XS.land X0.here hx rfl (hb hby at_71) rfl (Steps.refl _)) ?_
          exact J72 _ (by first | exact hn_n1 | exact own_maskn _)
        · refine own_fs (XS.ifNo X0.here hx rfl (hb hby at_58) rfl (XT.i0_eq_f hc58) (Steps.refl _)) ?_
          show own_G p.tables e below _ (s₁.setTop (mkF m 61 #[.val (.long x0), .second, .val (.long y0), .second, .val (.long z0), .second, .val (.long w0), .second, .val (.int fl), .val (.long c1), .second, .val (.long n1), .second, .val (.long c2), .second, .unset, .unset, .unset, .unset, .unset, .unset, .unset] []))
          refine own_fs (XS.lload X0.here hx rfl (hb hby at_61) rfl (Steps.refl _)) ?_
          show own_G p.tables e below _ (s₁.setTop (mkF m 63 #[.val (.long x0), .second, .val (.long y0), .second, .val (.long z0), .second, .val (.long w0), .second, .val (.int fl), .val (.long c1), .second, .val (.long n1), .second, .val (.long c2), .second, .unset, .unset, .unset, .unset, .unset, .unset, .unset] [(.long n1)]))
          refine own_fs (XS.goto X0.here hx rfl (pc0 := 63) (pc' := 72) rfl (hb hby at_63) (by decide) (by decide) (Steps.refl _)) ?_
          exact J72 _ (by first | exact hn_n1 | exact own_maskn _)
      show own_G p.tables e below _ (s₁.setTop (mkF m 44 #[.val (.long x0), .second, .val (.long y0), .second, .val (.long z0), .second, .val (.long w0), .second, .val (.int fl), .val (.long c1), .second, .val (.long n1), .second, .val (.long y2), .second, .unset, .unset, .unset, .unset, .unset, .unset, .unset] []))
      refine own_fs (XS.lload X0.here hx rfl (hb hby at_44) rfl (Steps.refl _)) ?_
      show own_G p.tables e below _ (s₁.setTop (mkF m 46 #[.val (.long x0), .second, .val (.long y0), .second, .val (.long z0), .second, .val (.long w0), .second, .val (.int fl), .val (.long c1), .second, .val (.long n1), .second, .val (.long y2), .second, .unset, .unset, .unset, .unset, .unset, .unset, .unset] [(.long y2)]))
      refine own_fs (XS.lconst X0.here hx rfl (hb hby at_46) (Steps.refl _)) ?_
      show own_G p.tables e below _ (s₁.setTop (mkF m 47 #[.val (.long x0), .second, .val (.long y0), .second, .val (.long z0), .second, .val (.long w0), .second, .val (.int fl), .val (.long c1), .second, .val (.long n1), .second, .val (.long y2), .second, .unset, .unset, .unset, .unset, .unset, .unset, .unset] [(.long (0 : Int64)), (.long y2)]))
      refine own_fs (XT.lcmp X0.here hx rfl (hb hby at_47) rfl (Steps.refl _)) ?_
      show own_G p.tables e below _ (s₁.setTop (mkF m 48 #[.val (.long x0), .second, .val (.long y0), .second, .val (.long z0), .second, .val (.long w0), .second, .val (.int fl), .val (.long c1), .second, .val (.long n1), .second, .val (.long y2), .second, .unset, .unset, .unset, .unset, .unset, .unset, .unset] [(.int (XT.cmpL y2 (0 : Int64)))]))
      by_cases hc48 : y2 = (0 : Int64)
      · refine own_fs (XS.ifNo X0.here hx rfl (hb hby at_48) rfl (XT.ll_ne_f hc48) (Steps.refl _)) ?_
        show own_G p.tables e below _ (s₁.setTop (mkF m 51 #[.val (.long x0), .second, .val (.long y0), .second, .val (.long z0), .second, .val (.long w0), .second, .val (.int fl), .val (.long c1), .second, .val (.long n1), .second, .val (.long y2), .second, .unset, .unset, .unset, .unset, .unset, .unset, .unset] []))
        refine own_fs (XS.lconst X0.here hx rfl (hb hby at_51) (Steps.refl _)) ?_
        show own_G p.tables e below _ (s₁.setTop (mkF m 52 #[.val (.long x0), .second, .val (.long y0), .second, .val (.long z0), .second, .val (.long w0), .second, .val (.int fl), .val (.long c1), .second, .val (.long n1), .second, .val (.long y2), .second, .unset, .unset, .unset, .unset, .unset, .unset, .unset] [(.long (1 : Int64))]))
        refine own_fs (XS.lstore X0.here hx rfl (hb hby at_52) rfl (l' := #[.val (.long x0), .second, .val (.long y0), .second, .val (.long z0), .second, .val (.long w0), .second, .val (.int fl), .val (.long c1), .second, .val (.long n1), .second, .val (.long (1 : Int64)), .second, .unset, .unset, .unset, .unset, .unset, .unset, .unset]) rfl (Steps.refl _)) ?_
        exact J54 _ (by first | decide | exact own_pos hy2 hc48)
      · refine own_fs (XS.ifYes X0.here hx rfl (pc0 := 48) (pc' := 54) rfl (hb hby at_48) rfl (XT.ll_ne_t hc48) (by decide) (by decide) (Steps.refl _)) ?_
        exact J54 _ (by first | decide | exact own_pos hy2 hc48)
    show own_G p.tables e below _ (s₁.setTop (mkF m 24 #[.val (.long x0), .second, .val (.long y0), .second, .val (.long z0), .second, .val (.long w0), .second, .val (.int fl), .val (.long c1), .second, .val (.long n1), .second, .unset, .unset, .unset, .unset, .unset, .unset, .unset, .unset, .unset] []))
    refine own_fs (XS.iload X0.here hx rfl (hb hby at_24) rfl (Steps.refl _)) ?_
    show own_G p.tables e below _ (s₁.setTop (mkF m 26 #[.val (.long x0), .second, .val (.long y0), .second, .val (.long z0), .second, .val (.long w0), .second, .val (.int fl), .val (.long c1), .second, .val (.long n1), .second, .unset, .unset, .unset, .unset, .unset, .unset, .unset, .unset, .unset] [(.int fl)]))
    refine own_fs (XS.iconst X0.here hx rfl (hb hby at_26) (Steps.refl _)) ?_
    show own_G p.tables e below _ (s₁.setTop (mkF m 27 #[.val (.long x0), .second, .val (.long y0), .second, .val (.long z0), .second, .val (.long w0), .second, .val (.int fl), .val (.long c1), .second, .val (.long n1), .second, .unset, .unset, .unset, .unset, .unset, .unset, .unset, .unset, .unset] [(.int (1 : Int32)), (.int fl)]))
    refine own_fs (XS.iand X0.here hx rfl (hb hby at_27) rfl (Steps.refl _)) ?_
    show own_G p.tables e below _ (s₁.setTop (mkF m 28 #[.val (.long x0), .second, .val (.long y0), .second, .val (.long z0), .second, .val (.long w0), .second, .val (.int fl), .val (.long c1), .second, .val (.long n1), .second, .unset, .unset, .unset, .unset, .unset, .unset, .unset, .unset, .unset] [(.int (fl &&& (1 : Int32)))]))
    by_cases hc28 : (fl &&& (1 : Int32)) = (0 : Int32)
    · refine own_fs (XS.ifYes X0.here hx rfl (pc0 := 28) (pc' := 36) rfl (hb hby at_28) rfl (XT.i0_eq_t hc28) (by decide) (by decide) (Steps.refl _)) ?_
      show own_G p.tables e below _ (s₁.setTop (mkF m 36 #[.val (.long x0), .second, .val (.long y0), .second, .val (.long z0), .second, .val (.long w0), .second, .val (.int fl), .val (.long c1), .second, .val (.long n1), .second, .unset, .unset, .unset, .unset, .unset, .unset, .unset, .unset, .unset] []))
      refine own_fs (XS.lload X0.here hx rfl (hb hby at_36) rfl (Steps.refl _)) ?_
      show own_G p.tables e below _ (s₁.setTop (mkF m 38 #[.val (.long x0), .second, .val (.long y0), .second, .val (.long z0), .second, .val (.long w0), .second, .val (.int fl), .val (.long c1), .second, .val (.long n1), .second, .unset, .unset, .unset, .unset, .unset, .unset, .unset, .unset, .unset] [(.long z0)]))
      refine own_fs (X0.ldc2Long hx hown (mvT hZ (hw _ (List.mem_of_getElem? (i := 0) rfl))) (g := (mkF m 38 #[.val (.long x0), .second, .val (.long y0), .second, .val (.long z0), .second, .val (.long w0), .second, .val (.int fl), .val (.long c1), .second, .val (.long n1), .second, .unset, .unset, .unset, .unset, .unset, .unset, .unset, .unset, .unset] [(.long z0)])) rfl (hb hby at_38) _ (Steps.refl _)) ?_
      show own_G p.tables e below _ (s₁.setTop (mkF m 41 #[.val (.long x0), .second, .val (.long y0), .second, .val (.long z0), .second, .val (.long w0), .second, .val (.int fl), .val (.long c1), .second, .val (.long n1), .second, .unset, .unset, .unset, .unset, .unset, .unset, .unset, .unset, .unset] [(.long (9223372036854775807 : Int64)), (.long z0)]))
      refine own_fs (XS.land X0.here hx rfl (hb hby at_41) rfl (Steps.refl _)) ?_
      exact J42 _ (by first | exact own_nneg hp_c1 | exact own_maskn _)
    · refine own_fs (XS.ifNo X0.here hx rfl (hb hby at_28) rfl (XT.i0_eq_f hc28) (Steps.refl _)) ?_
      show own_G p.tables e below _ (s₁.setTop (mkF m 31 #[.val (.long x0), .second, .val (.long y0), .second, .val (.long z0), .second, .val (.long w0), .second, .val (.int fl), .val (.long c1), .second, .val (.long n1), .second, .unset, .unset, .unset, .unset, .unset, .unset, .unset, .unset, .unset] []))
      refine own_fs (XS.lload X0.here hx rfl (hb hby at_31) rfl (Steps.refl _)) ?_
      show own_G p.tables e below _ (s₁.setTop (mkF m 33 #[.val (.long x0), .second, .val (.long y0), .second, .val (.long z0), .second, .val (.long w0), .second, .val (.int fl), .val (.long c1), .second, .val (.long n1), .second, .unset, .unset, .unset, .unset, .unset, .unset, .unset, .unset, .unset] [(.long c1)]))
      refine own_fs (XS.goto X0.here hx rfl (pc0 := 33) (pc' := 42) rfl (hb hby at_33) (by decide) (by decide) (Steps.refl _)) ?_
      exact J42 _ (by first | exact own_nneg hp_c1 | exact own_maskn _)
  show own_G p.tables e below _ (s₁.setTop (mkF m 0 #[.val (.long x0), .second, .val (.long y0), .second, .val (.long z0), .second, .val (.long w0), .second, .val (.int fl), .unset, .unset, .unset, .unset, .unset, .unset, .unset, .unset, .unset, .unset, .unset, .unset, .unset] []))
  refine own_fs (XS.lloadN X0.here hx rfl (hb hby at_0) rfl (Steps.refl _)) ?_
  show own_G p.tables e below _ (s₁.setTop (mkF m 1 #[.val (.long x0), .second, .val (.long y0), .second, .val (.long z0), .second, .val (.long w0), .second, .val (.int fl), .unset, .unset, .unset, .unset, .unset, .unset, .unset, .unset, .unset, .unset, .unset, .unset, .unset] [(.long x0)]))
  refine own_fs (X0.ldc2Long hx hown (mvT hZ (hw _ (List.mem_of_getElem? (i := 0) rfl))) (g := (mkF m 1 #[.val (.long x0), .second, .val (.long y0), .second, .val (.long z0), .second, .val (.long w0), .second, .val (.int fl), .unset, .unset, .unset, .unset, .unset, .unset, .unset, .unset, .unset, .unset, .unset, .unset, .unset] [(.long x0)])) rfl (hb hby at_1) _ (Steps.refl _)) ?_
  show own_G p.tables e below _ (s₁.setTop (mkF m 4 #[.val (.long x0), .second, .val (.long y0), .second, .val (.long z0), .second, .val (.long w0), .second, .val (.int fl), .unset, .unset, .unset, .unset, .unset, .unset, .unset, .unset, .unset, .unset, .unset, .unset, .unset] [(.long (9223372036854775807 : Int64)), (.long x0)]))
  refine own_fs (XS.land X0.here hx rfl (hb hby at_4) rfl (Steps.refl _)) ?_
  show own_G p.tables e below _ (s₁.setTop (mkF m 5 #[.val (.long x0), .second, .val (.long y0), .second, .val (.long z0), .second, .val (.long w0), .second, .val (.int fl), .unset, .unset, .unset, .unset, .unset, .unset, .unset, .unset, .unset, .unset, .unset, .unset, .unset] [(.long (x0 &&& (9223372036854775807 : Int64)))]))
  refine own_fs (XS.lstore X0.here hx rfl (hb hby at_5) rfl (l' := #[.val (.long x0), .second, .val (.long y0), .second, .val (.long z0), .second, .val (.long w0), .second, .val (.int fl), .val (.long (x0 &&& (9223372036854775807 : Int64))), .second, .unset, .unset, .unset, .unset, .unset, .unset, .unset, .unset, .unset, .unset, .unset]) rfl (Steps.refl _)) ?_
  show own_G p.tables e below _ (s₁.setTop (mkF m 7 #[.val (.long x0), .second, .val (.long y0), .second, .val (.long z0), .second, .val (.long w0), .second, .val (.int fl), .val (.long (x0 &&& (9223372036854775807 : Int64))), .second, .unset, .unset, .unset, .unset, .unset, .unset, .unset, .unset, .unset, .unset, .unset] []))
  refine own_fs (XS.lload X0.here hx rfl (hb hby at_7) rfl (Steps.refl _)) ?_
  show own_G p.tables e below _ (s₁.setTop (mkF m 9 #[.val (.long x0), .second, .val (.long y0), .second, .val (.long z0), .second, .val (.long w0), .second, .val (.int fl), .val (.long (x0 &&& (9223372036854775807 : Int64))), .second, .unset, .unset, .unset, .unset, .unset, .unset, .unset, .unset, .unset, .unset, .unset] [(.long (x0 &&& (9223372036854775807 : Int64)))]))
  refine own_fs (XS.lconst X0.here hx rfl (hb hby at_9) (Steps.refl _)) ?_
  show own_G p.tables e below _ (s₁.setTop (mkF m 10 #[.val (.long x0), .second, .val (.long y0), .second, .val (.long z0), .second, .val (.long w0), .second, .val (.int fl), .val (.long (x0 &&& (9223372036854775807 : Int64))), .second, .unset, .unset, .unset, .unset, .unset, .unset, .unset, .unset, .unset, .unset, .unset] [(.long (0 : Int64)), (.long (x0 &&& (9223372036854775807 : Int64)))]))
  refine own_fs (XT.lcmp X0.here hx rfl (hb hby at_10) rfl (Steps.refl _)) ?_
  show own_G p.tables e below _ (s₁.setTop (mkF m 11 #[.val (.long x0), .second, .val (.long y0), .second, .val (.long z0), .second, .val (.long w0), .second, .val (.int fl), .val (.long (x0 &&& (9223372036854775807 : Int64))), .second, .unset, .unset, .unset, .unset, .unset, .unset, .unset, .unset, .unset, .unset, .unset] [(.int (XT.cmpL (x0 &&& (9223372036854775807 : Int64)) (0 : Int64)))]))
  by_cases hc11 : (x0 &&& (9223372036854775807 : Int64)) = (0 : Int64)
  · refine own_fs (XS.ifNo X0.here hx rfl (hb hby at_11) rfl (XT.ll_ne_f hc11) (Steps.refl _)) ?_
    show own_G p.tables e below _ (s₁.setTop (mkF m 14 #[.val (.long x0), .second, .val (.long y0), .second, .val (.long z0), .second, .val (.long w0), .second, .val (.int fl), .val (.long (x0 &&& (9223372036854775807 : Int64))), .second, .unset, .unset, .unset, .unset, .unset, .unset, .unset, .unset, .unset, .unset, .unset] []))
    refine own_fs (XS.lconst X0.here hx rfl (hb hby at_14) (Steps.refl _)) ?_
    show own_G p.tables e below _ (s₁.setTop (mkF m 15 #[.val (.long x0), .second, .val (.long y0), .second, .val (.long z0), .second, .val (.long w0), .second, .val (.int fl), .val (.long (x0 &&& (9223372036854775807 : Int64))), .second, .unset, .unset, .unset, .unset, .unset, .unset, .unset, .unset, .unset, .unset, .unset] [(.long (1 : Int64))]))
    refine own_fs (XS.lstore X0.here hx rfl (hb hby at_15) rfl (l' := #[.val (.long x0), .second, .val (.long y0), .second, .val (.long z0), .second, .val (.long w0), .second, .val (.int fl), .val (.long (1 : Int64)), .second, .unset, .unset, .unset, .unset, .unset, .unset, .unset, .unset, .unset, .unset, .unset]) rfl (Steps.refl _)) ?_
    exact J17 _ (by first | decide | exact own_pos hn_x hc11)
  · refine own_fs (XS.ifYes X0.here hx rfl (pc0 := 11) (pc' := 17) rfl (hb hby at_11) rfl (XT.ll_ne_t hc11) (by decide) (by decide) (Steps.refl _)) ?_
    exact J17 _ (by first | decide | exact own_pos hn_x hc11)
set_option maxRecDepth 65536 in
set_option maxHeartbeats 40000000 in
theorem comes_1 {Post : Tables → Env → Array Value → State → Outcome → State → Prop} (hpost : ∀ tb e args s v u, (limb_1_1.after args s (.returned v) u = true ∧ limb_1_2.after args s (.returned v) u = true ∧ True) → FrameEnd s (.returned v) u (Jvm.fieldLocs frame_1_writes args s ++ Jvm.arrayLocs frame_1_arrays args s ++ Jvm.staticLocs frame_1_statics s) 16 128 → Post tb e args s (.returned v) u) :
    ArmFor flags0 classFile x code maxLocals ret World_1 tables_1 room_1 Calls_1 rest_1 Pre_1 Post := by
  intro l hfl _ _ p e ha hc hk s m args below hf hA hF happ hP
  obtain ⟨hcalls, hrest, hpre⟩ := hP
  obtain ⟨-, -, -, hnamed, -, -, -, hat⟩ := (Spec.applies_iff hf).mp happ
  obtain ⟨hg, hn⟩ := and_e (Cond.before_iff.mp (show (Jvm.Cond.and given_1 narrow_1).before args s = true from hpre))
  obtain ⟨hcount, hg0⟩ := and_e hg
  obtain ⟨ga0, hg1⟩ := and_e hg0
  obtain ⟨ga1, hg2⟩ := and_e hg1
  obtain ⟨ga2, hg3⟩ := and_e hg2
  obtain ⟨ga3, hg4⟩ := and_e hg3
  obtain ⟨w0, w1, w2, w3, w4, rfl⟩ : ∃ w0 w1 w2 w3 w4 : Value, args = #[w0, w1, w2, w3, w4] := by
    have hs : args.size = 5 := by simpa [Cond.value, given_1] using hcount
    obtain ⟨L⟩ := args
    match L, hs with
    | [w0, w1, w2, w3, w4], _ => exact ⟨w0, w1, w2, w3, w4, rfl⟩
  have hw := fun d (hd : d ∈ tables_1) => atoms_spec (ws := Jvm.Cond.code x code maxLocals ret :: tables_1) hat d (List.mem_cons_of_mem _ hd)
  have hfit : Fit s := fun {y c} hc i hi => by
    obtain ⟨ha, rfl⟩ := Array.getElem?_eq_some_iff.mp hc
    have q := List.all_eq_true.mp ((Array.all_eq_true_iff_forall_mem.mp hF) _ (Array.getElem_mem ha)) i (List.mem_range.mpr hi)
    simpa [Array.getElem?_eq_getElem hi] using q
  obtain ⟨hsets, hown0⟩ := atoms_of _ (rest_1_c_eq ▸ (show rest_1_c.before _ s = true from hrest))
  have hr0 := Cond.before_iff.mp hown0
  obtain ⟨i0, ei0⟩ := isL_v ga0
  obtain rfl : w0 = (.long i0) := Option.some.inj ei0
  obtain ⟨i1, ei1⟩ := isL_v ga1
  obtain rfl : w1 = (.long i1) := Option.some.inj ei1
  obtain ⟨i2, ei2⟩ := isL_v ga2
  obtain rfl : w2 = (.long i2) := Option.some.inj ei2
  obtain ⟨i3, ei3⟩ := isL_v ga3
  obtain rfl : w3 = (.long i3) := Option.some.inj ei3
  obtain ⟨i4, ei4⟩ := is_v hg4
  obtain rfl : w4 = (.int i4) := Option.some.inj ei4
  obtain ⟨cb, eCb⟩ := arr_v (Cond.before_iff.mp (hsets _ (List.mem_of_getElem? (i := 2) rfl)))
  obtain ⟨cc, hAc⟩ := Arr.start eCb (Cond.before_iff.mp (hsets _ (List.mem_of_getElem? (i := 2) rfl)))
  have hSta : Sta s s.heap "java/lang/Long$LongCache" "cache" "[Ljava/lang/Long;" (.ref cb) := Sta.start eCb (Or.inl (hsets _ (List.mem_of_getElem? (i := 1) rfl)))
  have hLc := eqv_i (Term.int_eval 256) (Cond.before_iff.mp (hsets _ (List.mem_of_getElem? (i := 4) rfl)))
  obtain ⟨xc, cc', lc1, lc2, lc4⟩ := Term.length_spec hLc
  cases eCb.symm.trans lc1
  cases (hAc.fin (Vm.Alike.refl _)).symm.trans lc2
  have lc3 := own_len31 eCb (hAc.fin (Vm.Alike.refl _)) hLc
  have hBx : Bxs s cb cc "java/lang/Long" "J" (256 : Int32) own_bv := Bxs.start (fun _ => eCb) hAc lc3 (Value.int.inj lc4).symm (by decide) (Cond.before_iff.mp (hsets _ (List.mem_of_getElem? (i := 5) rfl))) (fun X j hj h => eqv_l (i2l_at (Term.sub_int (idx_at hj) (Term.int_eval 128))) h)
  obtain ⟨n, o, h1, h2, h3, _, L, rfl, ⟨rfl, N⟩, hq⟩ := own_law l s _ hw tables_1 i0 i1 i2 i3 i4 cb cc s.heap s.heap.size (Nat.le_refl _) hSta hBx (Old.start s) p e ha hc hk s m _ below hf ((Spec.applies_iff_loose hf).mp happ).1 ⟨rfl, State.Warmed39.refl s, rfl⟩ trivial
  refine ⟨n, _, h1, h2, h3, hpost _ _ _ _ _ _ ⟨Cond.after_iff.mpr rfl, Cond.after_iff.mpr (eq_i res_at (Term.int_eval (1)) rfl), trivial⟩ ⟨hq.1, hq.2.1, (hq.2.2.sift fun y hy => Or.inr (N y hy)).mono (by decide) (by decide)⟩⟩
theorem main_1_1 : Claimed_1_1 := comes_1 fun _ _ _ _ _ _ h hF => ⟨h.1, hF⟩
theorem main_1_2 : Claimed_1_2 := comes_1 fun _ _ _ _ _ _ h hF => ⟨h.2.1, hF⟩
end Jvm.Pilot.@@N@@
namespace Jvm.Pilot.@@N@@
open Jvm Jvm.ClassFile Sem Op Lib Jvm.Free Jvm.Stand Jvm.Pilot.@@N@@.Jvm.D
/-! MADE BY PROGRAM (witnessworld.py) out of the Statement's table words and the real class files: 16 classes; the members and pool entries that the words name. The judged class is class 1, her method 1. -/
namespace start1
open Jvm.ClassFile
def u (s : String) : CpInfo := .utf8 (stringToUtf16 s)
/-- a pool by its gaps: so many unusable entries, then the entry; so many at the end -/
def gap : Nat → List CpInfo → List CpInfo
  | 0, r => r
  | n + 1, r => .unusable :: gap n r
def poolList (es : List (Nat × CpInfo)) (last : Nat) : List CpInfo := es.foldr (fun e r => gap e.1 (e.2 :: r)) (gap last [])
def pool (es : List (Nat × CpInfo)) (last : Nat) : Array CpInfo := ⟨poolList es last⟩
def fileOf (pool : Array CpInfo) (this : Nat) (attrs : Array Attribute := #[]) (ms : Array MethodInfo := #[]) (fl : Nat := 33) (sup : Nat := 0) (ifs : Array Nat := #[]) (fds : Array FieldInfo := #[]) : ClassFile where
  minorVersion := 0
  majorVersion := 65
  constantPool := pool
  accessFlags := fl
  thisClass := this
  superClass := sup
  interfaces := ifs
  fields := fds
  methods := ms
  attributes := attrs
def plain (name : String) (sup : Option ClassId) : Class where
  name := name
  kind := .ordinary
  loader := none
  accessFlags := 33
  super := sup
  interfaces := #[]
  cf := none
  fields := #[]
  methods := #[]
  instanceTypes := #[]
  staticTypes := #[]
  resolved := #[]
  callSites := []
  init := .initialized
  statics := none
  mirror := none

def pool0 : Array CpInfo := pool [(5, u "<init>"), (0, u "()V"), (1, .class_ 10), (1, u "java/lang/Object")] 113

def k0c0 : Code := { maxStack := 0, maxLocals := 1, code := object_method_1_code, exceptionTable := #[], attributes := #[] }
def k0m0 : Method := { name := "<init>", desc := "()V", sig := { parameters := [], returnType := none }, accessFlags := 1, code := some k0c0 }
/-- java/lang/Object -/
def k0 : Class := { plain "java/lang/Object" none with
  accessFlags := 33
  interfaces := #[]
  cf := some (fileOf pool0 8 #[] #[{ accessFlags := 1, nameIndex := 5, descriptorIndex := 6, attributes := #[] }] 33 0 #[] #[])
  fields := #[]
  methods := #[k0m0]
  instanceTypes := #[]
  staticTypes := #[]
  resolved := Array.replicate 124 none
  statics := none }

def pool1 : Array CpInfo := pool [(2, .class_ 4), (1, u "java/lang/Object"), (0, u "<init>"), (0, u "()V"), (0, .class_ 8), (0, u "java/lang/Long"), (0, .long 9223372036854775807), (1, .class_ 12), (0, u "com/example/dibs/dibs/namespace/RequestId"), (0, .methodref 11 14), (0, .nameAndType 5 15), (0, u "(JJ)V"), (0, .methodref 11 17), (0, .nameAndType 18 19), (0, u "equals"), (0, u "(Ljava/lang/Object;)Z"), (0, .methodref 7 21), (0, .nameAndType 22 23), (0, u "valueOf"), (0, u "(J)Ljava/lang/Long;"), (0, .class_ 25), (0, u "com/example/dibs/dibs/namespace/RequestIdEqualsPinLaw"), (2, u "law"), (0, u "(JJJJI)Z")] 3

def k1m0 : Method := { name := "<init>", desc := "()V", sig := { parameters := [], returnType := none }, accessFlags := 1, code := none }
def k1c1 : Code := { maxStack := 6, maxLocals := 22, code := code, exceptionTable := #[], attributes := #[] }
def k1m1 : Method := { name := "law", desc := "(JJJJI)Z", sig := { parameters := [.long, .long, .long, .long, .int], returnType := some .boolean }, accessFlags := 9, code := some k1c1 }
/-- com/example/dibs/dibs/namespace/RequestIdEqualsPinLaw -/
def k1 : Class := { plain "com/example/dibs/dibs/namespace/RequestIdEqualsPinLaw" (some 0) with
  accessFlags := 49
  interfaces := #[]
  cf := some (fileOf pool1 24 #[] #[{ accessFlags := 1, nameIndex := 5, descriptorIndex := 6, attributes := #[] }, { accessFlags := 9, nameIndex := 28, descriptorIndex := 29, attributes := #[] }] 49 2 #[] #[])
  fields := #[]
  methods := #[k1m0, k1m1]
  instanceTypes := #[]
  staticTypes := #[]
  resolved := Array.replicate 33 none
  statics := none }

def pool2 : Array CpInfo := pool [(1, .methodref 2 3), (0, .class_ 4), (0, .nameAndType 5 6), (0, u "java/lang/Object"), (0, u "<init>"), (0, u "()V"), (9, .fieldref 17 18), (0, .class_ 19), (0, .nameAndType 20 21), (0, u "com/example/dibs/dibs/namespace/RequestId"), (0, u "client"), (0, u "J"), (0, .fieldref 17 23), (0, .nameAndType 24 21), (0, u "number"), (2, u "FORM"), (0, u "Ljava/util/regex/Pattern;"), (24, u "(JJ)V"), (36, u "equals"), (0, u "(Ljava/lang/Object;)Z")] 26

def k2c0 : Code := { maxStack := 6, maxLocals := 5, code := prog_44_method_1_code, exceptionTable := #[], attributes := #[] }
def k2m0 : Method := { name := "<init>", desc := "(JJ)V", sig := { parameters := [.long, .long], returnType := none }, accessFlags := 1, code := some k2c0 }
def k2c1 : Code := { maxStack := 4, maxLocals := 2, code := prog_44_method_5_code, exceptionTable := #[], attributes := #[] }
def k2m1 : Method := { name := "equals", desc := "(Ljava/lang/Object;)Z", sig := { parameters := [(.object "java/lang/Object")], returnType := some .boolean }, accessFlags := 1, code := some k2c1 }
/-- com/example/dibs/dibs/namespace/RequestId -/
def k2 : Class := { plain "com/example/dibs/dibs/namespace/RequestId" (some 0) with
  accessFlags := 49
  interfaces := #[]
  cf := some (fileOf pool2 17 #[] #[{ accessFlags := 1, nameIndex := 5, descriptorIndex := 53, attributes := #[] }, { accessFlags := 1, nameIndex := 90, descriptorIndex := 91, attributes := #[] }] 49 2 #[] #[{ accessFlags := 26, nameIndex := 27, descriptorIndex := 28, attributes := #[] }, { accessFlags := 18, nameIndex := 20, descriptorIndex := 21, attributes := #[] }, { accessFlags := 18, nameIndex := 24, descriptorIndex := 21, attributes := #[] }])
  fields := #[{ name := "FORM", type := (.object "java/util/regex/Pattern"), accessFlags := 26, slot := 0, constantValue := 0 }, { name := "client", type := .long, accessFlags := 18, slot := 0, constantValue := 0 }, { name := "number", type := .long, accessFlags := 18, slot := 1, constantValue := 0 }]
  methods := #[k2m0, k2m1]
  instanceTypes := #[.long, .long]
  staticTypes := #[(.object "java/util/regex/Pattern")]
  resolved := Array.replicate 118 none
  statics := none }

def pool3 : Array CpInfo := pool [(1, .class_ 2), (0, u "java/io/Serializable"), (0, .class_ 4), (0, u "java/lang/Object")] 2

/-- java/io/Serializable -/
def k3 : Class := { plain "java/io/Serializable" (some 0) with
  accessFlags := 1537
  interfaces := #[]
  cf := some (fileOf pool3 1 #[] #[] 1537 3 #[] #[])
  fields := #[]
  methods := #[]
  instanceTypes := #[]
  staticTypes := #[]
  resolved := Array.replicate 7 none
  statics := none }

def pool4 : Array CpInfo := pool [(1, .methodref 2 3), (0, .class_ 4), (0, .nameAndType 5 6), (0, u "java/lang/Object"), (0, u "<init>"), (0, u "()V"), (1, .class_ 10), (1, u "java/lang/Number"), (2, .class_ 14), (0, u "java/io/Serializable"), (0, u "serialVersionUID"), (0, u "J")] 20

def k4c0 : Code := { maxStack := 1, maxLocals := 1, code := jdk_18_method_1_code, exceptionTable := #[], attributes := #[] }
def k4m0 : Method := { name := "<init>", desc := "()V", sig := { parameters := [], returnType := none }, accessFlags := 1, code := some k4c0 }
/-- java/lang/Number -/
def k4 : Class := { plain "java/lang/Number" (some 0) with
  accessFlags := 1057
  interfaces := #[3]
  cf := some (fileOf pool4 8 #[] #[{ accessFlags := 1, nameIndex := 5, descriptorIndex := 6, attributes := #[] }] 1057 2 #[13] #[{ accessFlags := 26, nameIndex := 15, descriptorIndex := 16, attributes := #[] }])
  fields := #[{ name := "serialVersionUID", type := .long, accessFlags := 26, slot := 0, constantValue := 0 }]
  methods := #[k4m0]
  instanceTypes := #[]
  staticTypes := #[.long]
  resolved := Array.replicate 37 none
  statics := none }

def pool5 : Array CpInfo := pool [(1, .class_ 2), (0, u "java/lang/Comparable"), (0, .class_ 4), (0, u "java/lang/Object")] 7

/-- java/lang/Comparable -/
def k5 : Class := { plain "java/lang/Comparable" (some 0) with
  accessFlags := 1537
  interfaces := #[]
  cf := some (fileOf pool5 1 #[] #[] 1537 3 #[] #[])
  fields := #[]
  methods := #[]
  instanceTypes := #[]
  staticTypes := #[]
  resolved := Array.replicate 12 none
  statics := none }

def pool6 : Array CpInfo := pool [(1, .class_ 2), (0, u "java/lang/constant/Constable"), (0, .class_ 4), (0, u "java/lang/Object")] 6

/-- java/lang/constant/Constable -/
def k6 : Class := { plain "java/lang/constant/Constable" (some 0) with
  accessFlags := 1537
  interfaces := #[]
  cf := some (fileOf pool6 1 #[] #[] 1537 3 #[] #[])
  fields := #[]
  methods := #[]
  instanceTypes := #[]
  staticTypes := #[]
  resolved := Array.replicate 11 none
  statics := none }

def pool7 : Array CpInfo := pool [(1, .class_ 2), (0, u "java/lang/constant/ConstantDesc"), (0, .class_ 4), (0, u "java/lang/Object")] 32

/-- java/lang/constant/ConstantDesc -/
def k7 : Class := { plain "java/lang/constant/ConstantDesc" (some 0) with
  accessFlags := 1537
  interfaces := #[]
  cf := some (fileOf pool7 1 #[] #[] 1537 3 #[] #[])
  fields := #[]
  methods := #[]
  instanceTypes := #[]
  staticTypes := #[]
  resolved := Array.replicate 37 none
  statics := none }

def pool8 : Array CpInfo := pool [(1, .class_ 2), (0, u "java/lang/Long"), (55, .nameAndType 59 60), (0, u "<init>"), (0, u "()V"), (24, u "valueOf"), (143, u "(J)Ljava/lang/Long;"), (0, .long 18446744073709551488), (1, .long 127), (1, .fieldref 235 236), (0, .class_ 237), (0, .nameAndType 238 239), (0, u "java/lang/Long$LongCache"), (0, u "cache"), (0, u "[Ljava/lang/Long;"), (0, .methodref 1 241), (0, .nameAndType 59 242), (0, u "(J)V"), (27, .methodref 271 58), (0, .class_ 272), (0, u "java/lang/Number"), (0, .fieldref 1 274), (0, .nameAndType 275 276), (0, u "value"), (0, u "J"), (84, u "TYPE"), (0, u "Ljava/lang/Class;"), (0, .class_ 364), (0, u "java/lang/Comparable"), (0, .class_ 366), (0, u "java/lang/constant/Constable"), (0, .class_ 368), (0, u "java/lang/constant/ConstantDesc"), (0, u "MIN_VALUE"), (1, u "MAX_VALUE"), (4, u "SIZE"), (0, u "I"), (1, u "BYTES"), (1, u "serialVersionUID")] 142

def k8c0 : Code := { maxStack := 4, maxLocals := 3, code := jdk_35_method_24_code, exceptionTable := #[], attributes := #[] }
def k8m0 : Method := { name := "valueOf", desc := "(J)Ljava/lang/Long;", sig := { parameters := [.long], returnType := some (.object "java/lang/Long") }, accessFlags := 9, code := some k8c0 }
def k8c1 : Code := { maxStack := 3, maxLocals := 3, code := jdk_35_method_26_code, exceptionTable := #[], attributes := #[] }
def k8m1 : Method := { name := "<init>", desc := "(J)V", sig := { parameters := [.long], returnType := none }, accessFlags := 1, code := some k8c1 }
/-- java/lang/Long -/
def k8 : Class := { plain "java/lang/Long" (some 4) with
  accessFlags := 49
  interfaces := #[5, 6, 7]
  cf := some (fileOf pool8 1 #[.nestMembers #[235]] #[{ accessFlags := 9, nameIndex := 85, descriptorIndex := 229, attributes := #[] }, { accessFlags := 1, nameIndex := 59, descriptorIndex := 242, attributes := #[] }] 49 271 #[363, 365, 367] #[{ accessFlags := 25, nameIndex := 369, descriptorIndex := 276, attributes := #[] }, { accessFlags := 25, nameIndex := 371, descriptorIndex := 276, attributes := #[] }, { accessFlags := 25, nameIndex := 361, descriptorIndex := 362, attributes := #[] }, { accessFlags := 18, nameIndex := 275, descriptorIndex := 276, attributes := #[] }, { accessFlags := 25, nameIndex := 376, descriptorIndex := 377, attributes := #[] }, { accessFlags := 25, nameIndex := 379, descriptorIndex := 377, attributes := #[] }, { accessFlags := 26, nameIndex := 381, descriptorIndex := 276, attributes := #[] }])
  fields := #[{ name := "MIN_VALUE", type := .long, accessFlags := 25, slot := 0, constantValue := 0 }, { name := "MAX_VALUE", type := .long, accessFlags := 25, slot := 1, constantValue := 0 }, { name := "TYPE", type := (.object "java/lang/Class"), accessFlags := 25, slot := 2, constantValue := 0 }, { name := "value", type := .long, accessFlags := 18, slot := 0, constantValue := 0 }, { name := "SIZE", type := .int, accessFlags := 25, slot := 3, constantValue := 0 }, { name := "BYTES", type := .int, accessFlags := 25, slot := 4, constantValue := 0 }, { name := "serialVersionUID", type := .long, accessFlags := 26, slot := 5, constantValue := 0 }]
  methods := #[k8m0, k8m1]
  instanceTypes := #[.long]
  staticTypes := #[.long, .long, (.object "java/lang/Class"), .int, .int, .long]
  resolved := Array.replicate 524 none
  statics := none }

def pool9 : Array CpInfo := pool [(2, .class_ 4), (1, u "java/lang/Object"), (0, u "<init>"), (0, u "()V"), (0, .class_ 8), (0, u "java/lang/Long"), (7, .class_ 18), (1, u "java/lang/Long$LongCache"), (0, u "$assertionsDisabled"), (0, u "Z"), (8, u "archivedCache"), (0, u "[Ljava/lang/Long;"), (7, u "cache")] 24

def k9m0 : Method := { name := "<init>", desc := "()V", sig := { parameters := [], returnType := none }, accessFlags := 2, code := none }
/-- java/lang/Long$LongCache -/
def k9 : Class := { plain "java/lang/Long$LongCache" (some 0) with
  accessFlags := 48
  interfaces := #[]
  cf := some (fileOf pool9 16 #[.nestHost 7] #[{ accessFlags := 2, nameIndex := 5, descriptorIndex := 6, attributes := #[] }] 48 2 #[] #[{ accessFlags := 24, nameIndex := 38, descriptorIndex := 30, attributes := #[] }, { accessFlags := 8, nameIndex := 29, descriptorIndex := 30, attributes := #[] }, { accessFlags := 4120, nameIndex := 19, descriptorIndex := 20, attributes := #[] }])
  fields := #[{ name := "cache", type := (.array (.object "java/lang/Long")), accessFlags := 24, slot := 0, constantValue := 0 }, { name := "archivedCache", type := (.array (.object "java/lang/Long")), accessFlags := 8, slot := 1, constantValue := 0 }, { name := "$assertionsDisabled", type := .boolean, accessFlags := 4120, slot := 2, constantValue := 0 }]
  methods := #[k9m0]
  instanceTypes := #[]
  staticTypes := #[(.array (.object "java/lang/Long")), (.array (.object "java/lang/Long")), .boolean]
  resolved := Array.replicate 63 none
  statics := some 0 }

def pool10 : Array CpInfo := pool [(1, u "java/lang/Cloneable"), (0, .class_ 1), (0, u "java/lang/Object"), (0, .class_ 3)] 3

/-- java/lang/Cloneable -/
def k10 : Class := { plain "java/lang/Cloneable" (some 0) with
  accessFlags := 1537
  interfaces := #[]
  cf := some (fileOf pool10 2 #[] #[] 1537 4 #[] #[])
  fields := #[]
  methods := #[]
  instanceTypes := #[]
  staticTypes := #[]
  resolved := Array.replicate 8 none
  statics := none }

/-- the primitive byte -/
def k11 : Class := { plain "byte" none with kind := .primitive 'B', accessFlags := 0x411 }
/-- [B -/
def k12 : Class := { plain "[B" (some 0) with kind := .array 11 .byte, interfaces := #[10, 3], accessFlags := 1041 }

/-- the primitive int -/
def k13 : Class := { plain "int" none with kind := .primitive 'I', accessFlags := 0x411 }
/-- [I -/
def k14 : Class := { plain "[I" (some 0) with kind := .array 13 .int, interfaces := #[10, 3], accessFlags := 1041 }

/-- [Ljava/lang/Long; -/
def k15 : Class := { plain "[Ljava/lang/Long;" (some 0) with kind := .array 8 (.object "java/lang/Long"), interfaces := #[10, 3], accessFlags := 1041 }

def heap : Heap := #[{ cls := 9, slots := #[.ref 1, .null, .int 0], vm := .statics 9 },
  { cls := 15, slots := #[.ref 2, .ref 3, .ref 4, .ref 5, .ref 6, .ref 7, .ref 8, .ref 9, .ref 10, .ref 11, .ref 12, .ref 13, .ref 14, .ref 15, .ref 16, .ref 17, .ref 18, .ref 19, .ref 20, .ref 21, .ref 22, .ref 23, .ref 24, .ref 25, .ref 26, .ref 27, .ref 28, .ref 29, .ref 30, .ref 31, .ref 32, .ref 33, .ref 34, .ref 35, .ref 36, .ref 37, .ref 38, .ref 39, .ref 40, .ref 41, .ref 42, .ref 43, .ref 44, .ref 45, .ref 46, .ref 47, .ref 48, .ref 49, .ref 50, .ref 51, .ref 52, .ref 53, .ref 54, .ref 55, .ref 56, .ref 57, .ref 58, .ref 59, .ref 60, .ref 61, .ref 62, .ref 63, .ref 64, .ref 65, .ref 66, .ref 67, .ref 68, .ref 69, .ref 70, .ref 71, .ref 72, .ref 73, .ref 74, .ref 75, .ref 76, .ref 77, .ref 78, .ref 79, .ref 80, .ref 81, .ref 82, .ref 83, .ref 84, .ref 85, .ref 86, .ref 87, .ref 88, .ref 89, .ref 90, .ref 91, .ref 92, .ref 93, .ref 94, .ref 95, .ref 96, .ref 97, .ref 98, .ref 99, .ref 100, .ref 101, .ref 102, .ref 103, .ref 104, .ref 105, .ref 106, .ref 107, .ref 108, .ref 109, .ref 110, .ref 111, .ref 112, .ref 113, .ref 114, .ref 115, .ref 116, .ref 117, .ref 118, .ref 119, .ref 120, .ref 121, .ref 122, .ref 123, .ref 124, .ref 125, .ref 126, .ref 127, .ref 128, .ref 129, .ref 130, .ref 131, .ref 132, .ref 133, .ref 134, .ref 135, .ref 136, .ref 137, .ref 138, .ref 139, .ref 140, .ref 141, .ref 142, .ref 143, .ref 144, .ref 145, .ref 146, .ref 147, .ref 148, .ref 149, .ref 150, .ref 151, .ref 152, .ref 153, .ref 154, .ref 155, .ref 156, .ref 157, .ref 158, .ref 159, .ref 160, .ref 161, .ref 162, .ref 163, .ref 164, .ref 165, .ref 166, .ref 167, .ref 168, .ref 169, .ref 170, .ref 171, .ref 172, .ref 173, .ref 174, .ref 175, .ref 176, .ref 177, .ref 178, .ref 179, .ref 180, .ref 181, .ref 182, .ref 183, .ref 184, .ref 185, .ref 186, .ref 187, .ref 188, .ref 189, .ref 190, .ref 191, .ref 192, .ref 193, .ref 194, .ref 195, .ref 196, .ref 197, .ref 198, .ref 199, .ref 200, .ref 201, .ref 202, .ref 203, .ref 204, .ref 205, .ref 206, .ref 207, .ref 208, .ref 209, .ref 210, .ref 211, .ref 212, .ref 213, .ref 214, .ref 215, .ref 216, .ref 217, .ref 218, .ref 219, .ref 220, .ref 221, .ref 222, .ref 223, .ref 224, .ref 225, .ref 226, .ref 227, .ref 228, .ref 229, .ref 230, .ref 231, .ref 232, .ref 233, .ref 234, .ref 235, .ref 236, .ref 237, .ref 238, .ref 239, .ref 240, .ref 241, .ref 242, .ref 243, .ref 244, .ref 245, .ref 246, .ref 247, .ref 248, .ref 249, .ref 250, .ref 251, .ref 252, .ref 253, .ref 254, .ref 255, .ref 256, .ref 257], vm := .none },
  { cls := 8, slots := #[.long (-128)], vm := .none },
  { cls := 8, slots := #[.long (-127)], vm := .none },
  { cls := 8, slots := #[.long (-126)], vm := .none },
  { cls := 8, slots := #[.long (-125)], vm := .none },
  { cls := 8, slots := #[.long (-124)], vm := .none },
  { cls := 8, slots := #[.long (-123)], vm := .none },
  { cls := 8, slots := #[.long (-122)], vm := .none },
  { cls := 8, slots := #[.long (-121)], vm := .none },
  { cls := 8, slots := #[.long (-120)], vm := .none },
  { cls := 8, slots := #[.long (-119)], vm := .none },
  { cls := 8, slots := #[.long (-118)], vm := .none },
  { cls := 8, slots := #[.long (-117)], vm := .none },
  { cls := 8, slots := #[.long (-116)], vm := .none },
  { cls := 8, slots := #[.long (-115)], vm := .none },
  { cls := 8, slots := #[.long (-114)], vm := .none },
  { cls := 8, slots := #[.long (-113)], vm := .none },
  { cls := 8, slots := #[.long (-112)], vm := .none },
  { cls := 8, slots := #[.long (-111)], vm := .none },
  { cls := 8, slots := #[.long (-110)], vm := .none },
  { cls := 8, slots := #[.long (-109)], vm := .none },
  { cls := 8, slots := #[.long (-108)], vm := .none },
  { cls := 8, slots := #[.long (-107)], vm := .none },
  { cls := 8, slots := #[.long (-106)], vm := .none },
  { cls := 8, slots := #[.long (-105)], vm := .none },
  { cls := 8, slots := #[.long (-104)], vm := .none },
  { cls := 8, slots := #[.long (-103)], vm := .none },
  { cls := 8, slots := #[.long (-102)], vm := .none },
  { cls := 8, slots := #[.long (-101)], vm := .none },
  { cls := 8, slots := #[.long (-100)], vm := .none },
  { cls := 8, slots := #[.long (-99)], vm := .none },
  { cls := 8, slots := #[.long (-98)], vm := .none },
  { cls := 8, slots := #[.long (-97)], vm := .none },
  { cls := 8, slots := #[.long (-96)], vm := .none },
  { cls := 8, slots := #[.long (-95)], vm := .none },
  { cls := 8, slots := #[.long (-94)], vm := .none },
  { cls := 8, slots := #[.long (-93)], vm := .none },
  { cls := 8, slots := #[.long (-92)], vm := .none },
  { cls := 8, slots := #[.long (-91)], vm := .none },
  { cls := 8, slots := #[.long (-90)], vm := .none },
  { cls := 8, slots := #[.long (-89)], vm := .none },
  { cls := 8, slots := #[.long (-88)], vm := .none },
  { cls := 8, slots := #[.long (-87)], vm := .none },
  { cls := 8, slots := #[.long (-86)], vm := .none },
  { cls := 8, slots := #[.long (-85)], vm := .none },
  { cls := 8, slots := #[.long (-84)], vm := .none },
  { cls := 8, slots := #[.long (-83)], vm := .none },
  { cls := 8, slots := #[.long (-82)], vm := .none },
  { cls := 8, slots := #[.long (-81)], vm := .none },
  { cls := 8, slots := #[.long (-80)], vm := .none },
  { cls := 8, slots := #[.long (-79)], vm := .none },
  { cls := 8, slots := #[.long (-78)], vm := .none },
  { cls := 8, slots := #[.long (-77)], vm := .none },
  { cls := 8, slots := #[.long (-76)], vm := .none },
  { cls := 8, slots := #[.long (-75)], vm := .none },
  { cls := 8, slots := #[.long (-74)], vm := .none },
  { cls := 8, slots := #[.long (-73)], vm := .none },
  { cls := 8, slots := #[.long (-72)], vm := .none },
  { cls := 8, slots := #[.long (-71)], vm := .none },
  { cls := 8, slots := #[.long (-70)], vm := .none },
  { cls := 8, slots := #[.long (-69)], vm := .none },
  { cls := 8, slots := #[.long (-68)], vm := .none },
  { cls := 8, slots := #[.long (-67)], vm := .none },
  { cls := 8, slots := #[.long (-66)], vm := .none },
  { cls := 8, slots := #[.long (-65)], vm := .none },
  { cls := 8, slots := #[.long (-64)], vm := .none },
  { cls := 8, slots := #[.long (-63)], vm := .none },
  { cls := 8, slots := #[.long (-62)], vm := .none },
  { cls := 8, slots := #[.long (-61)], vm := .none },
  { cls := 8, slots := #[.long (-60)], vm := .none },
  { cls := 8, slots := #[.long (-59)], vm := .none },
  { cls := 8, slots := #[.long (-58)], vm := .none },
  { cls := 8, slots := #[.long (-57)], vm := .none },
  { cls := 8, slots := #[.long (-56)], vm := .none },
  { cls := 8, slots := #[.long (-55)], vm := .none },
  { cls := 8, slots := #[.long (-54)], vm := .none },
  { cls := 8, slots := #[.long (-53)], vm := .none },
  { cls := 8, slots := #[.long (-52)], vm := .none },
  { cls := 8, slots := #[.long (-51)], vm := .none },
  { cls := 8, slots := #[.long (-50)], vm := .none },
  { cls := 8, slots := #[.long (-49)], vm := .none },
  { cls := 8, slots := #[.long (-48)], vm := .none },
  { cls := 8, slots := #[.long (-47)], vm := .none },
  { cls := 8, slots := #[.long (-46)], vm := .none },
  { cls := 8, slots := #[.long (-45)], vm := .none },
  { cls := 8, slots := #[.long (-44)], vm := .none },
  { cls := 8, slots := #[.long (-43)], vm := .none },
  { cls := 8, slots := #[.long (-42)], vm := .none },
  { cls := 8, slots := #[.long (-41)], vm := .none },
  { cls := 8, slots := #[.long (-40)], vm := .none },
  { cls := 8, slots := #[.long (-39)], vm := .none },
  { cls := 8, slots := #[.long (-38)], vm := .none },
  { cls := 8, slots := #[.long (-37)], vm := .none },
  { cls := 8, slots := #[.long (-36)], vm := .none },
  { cls := 8, slots := #[.long (-35)], vm := .none },
  { cls := 8, slots := #[.long (-34)], vm := .none },
  { cls := 8, slots := #[.long (-33)], vm := .none },
  { cls := 8, slots := #[.long (-32)], vm := .none },
  { cls := 8, slots := #[.long (-31)], vm := .none },
  { cls := 8, slots := #[.long (-30)], vm := .none },
  { cls := 8, slots := #[.long (-29)], vm := .none },
  { cls := 8, slots := #[.long (-28)], vm := .none },
  { cls := 8, slots := #[.long (-27)], vm := .none },
  { cls := 8, slots := #[.long (-26)], vm := .none },
  { cls := 8, slots := #[.long (-25)], vm := .none },
  { cls := 8, slots := #[.long (-24)], vm := .none },
  { cls := 8, slots := #[.long (-23)], vm := .none },
  { cls := 8, slots := #[.long (-22)], vm := .none },
  { cls := 8, slots := #[.long (-21)], vm := .none },
  { cls := 8, slots := #[.long (-20)], vm := .none },
  { cls := 8, slots := #[.long (-19)], vm := .none },
  { cls := 8, slots := #[.long (-18)], vm := .none },
  { cls := 8, slots := #[.long (-17)], vm := .none },
  { cls := 8, slots := #[.long (-16)], vm := .none },
  { cls := 8, slots := #[.long (-15)], vm := .none },
  { cls := 8, slots := #[.long (-14)], vm := .none },
  { cls := 8, slots := #[.long (-13)], vm := .none },
  { cls := 8, slots := #[.long (-12)], vm := .none },
  { cls := 8, slots := #[.long (-11)], vm := .none },
  { cls := 8, slots := #[.long (-10)], vm := .none },
  { cls := 8, slots := #[.long (-9)], vm := .none },
  { cls := 8, slots := #[.long (-8)], vm := .none },
  { cls := 8, slots := #[.long (-7)], vm := .none },
  { cls := 8, slots := #[.long (-6)], vm := .none },
  { cls := 8, slots := #[.long (-5)], vm := .none },
  { cls := 8, slots := #[.long (-4)], vm := .none },
  { cls := 8, slots := #[.long (-3)], vm := .none },
  { cls := 8, slots := #[.long (-2)], vm := .none },
  { cls := 8, slots := #[.long (-1)], vm := .none },
  { cls := 8, slots := #[.long (0)], vm := .none },
  { cls := 8, slots := #[.long (1)], vm := .none },
  { cls := 8, slots := #[.long (2)], vm := .none },
  { cls := 8, slots := #[.long (3)], vm := .none },
  { cls := 8, slots := #[.long (4)], vm := .none },
  { cls := 8, slots := #[.long (5)], vm := .none },
  { cls := 8, slots := #[.long (6)], vm := .none },
  { cls := 8, slots := #[.long (7)], vm := .none },
  { cls := 8, slots := #[.long (8)], vm := .none },
  { cls := 8, slots := #[.long (9)], vm := .none },
  { cls := 8, slots := #[.long (10)], vm := .none },
  { cls := 8, slots := #[.long (11)], vm := .none },
  { cls := 8, slots := #[.long (12)], vm := .none },
  { cls := 8, slots := #[.long (13)], vm := .none },
  { cls := 8, slots := #[.long (14)], vm := .none },
  { cls := 8, slots := #[.long (15)], vm := .none },
  { cls := 8, slots := #[.long (16)], vm := .none },
  { cls := 8, slots := #[.long (17)], vm := .none },
  { cls := 8, slots := #[.long (18)], vm := .none },
  { cls := 8, slots := #[.long (19)], vm := .none },
  { cls := 8, slots := #[.long (20)], vm := .none },
  { cls := 8, slots := #[.long (21)], vm := .none },
  { cls := 8, slots := #[.long (22)], vm := .none },
  { cls := 8, slots := #[.long (23)], vm := .none },
  { cls := 8, slots := #[.long (24)], vm := .none },
  { cls := 8, slots := #[.long (25)], vm := .none },
  { cls := 8, slots := #[.long (26)], vm := .none },
  { cls := 8, slots := #[.long (27)], vm := .none },
  { cls := 8, slots := #[.long (28)], vm := .none },
  { cls := 8, slots := #[.long (29)], vm := .none },
  { cls := 8, slots := #[.long (30)], vm := .none },
  { cls := 8, slots := #[.long (31)], vm := .none },
  { cls := 8, slots := #[.long (32)], vm := .none },
  { cls := 8, slots := #[.long (33)], vm := .none },
  { cls := 8, slots := #[.long (34)], vm := .none },
  { cls := 8, slots := #[.long (35)], vm := .none },
  { cls := 8, slots := #[.long (36)], vm := .none },
  { cls := 8, slots := #[.long (37)], vm := .none },
  { cls := 8, slots := #[.long (38)], vm := .none },
  { cls := 8, slots := #[.long (39)], vm := .none },
  { cls := 8, slots := #[.long (40)], vm := .none },
  { cls := 8, slots := #[.long (41)], vm := .none },
  { cls := 8, slots := #[.long (42)], vm := .none },
  { cls := 8, slots := #[.long (43)], vm := .none },
  { cls := 8, slots := #[.long (44)], vm := .none },
  { cls := 8, slots := #[.long (45)], vm := .none },
  { cls := 8, slots := #[.long (46)], vm := .none },
  { cls := 8, slots := #[.long (47)], vm := .none },
  { cls := 8, slots := #[.long (48)], vm := .none },
  { cls := 8, slots := #[.long (49)], vm := .none },
  { cls := 8, slots := #[.long (50)], vm := .none },
  { cls := 8, slots := #[.long (51)], vm := .none },
  { cls := 8, slots := #[.long (52)], vm := .none },
  { cls := 8, slots := #[.long (53)], vm := .none },
  { cls := 8, slots := #[.long (54)], vm := .none },
  { cls := 8, slots := #[.long (55)], vm := .none },
  { cls := 8, slots := #[.long (56)], vm := .none },
  { cls := 8, slots := #[.long (57)], vm := .none },
  { cls := 8, slots := #[.long (58)], vm := .none },
  { cls := 8, slots := #[.long (59)], vm := .none },
  { cls := 8, slots := #[.long (60)], vm := .none },
  { cls := 8, slots := #[.long (61)], vm := .none },
  { cls := 8, slots := #[.long (62)], vm := .none },
  { cls := 8, slots := #[.long (63)], vm := .none },
  { cls := 8, slots := #[.long (64)], vm := .none },
  { cls := 8, slots := #[.long (65)], vm := .none },
  { cls := 8, slots := #[.long (66)], vm := .none },
  { cls := 8, slots := #[.long (67)], vm := .none },
  { cls := 8, slots := #[.long (68)], vm := .none },
  { cls := 8, slots := #[.long (69)], vm := .none },
  { cls := 8, slots := #[.long (70)], vm := .none },
  { cls := 8, slots := #[.long (71)], vm := .none },
  { cls := 8, slots := #[.long (72)], vm := .none },
  { cls := 8, slots := #[.long (73)], vm := .none },
  { cls := 8, slots := #[.long (74)], vm := .none },
  { cls := 8, slots := #[.long (75)], vm := .none },
  { cls := 8, slots := #[.long (76)], vm := .none },
  { cls := 8, slots := #[.long (77)], vm := .none },
  { cls := 8, slots := #[.long (78)], vm := .none },
  { cls := 8, slots := #[.long (79)], vm := .none },
  { cls := 8, slots := #[.long (80)], vm := .none },
  { cls := 8, slots := #[.long (81)], vm := .none },
  { cls := 8, slots := #[.long (82)], vm := .none },
  { cls := 8, slots := #[.long (83)], vm := .none },
  { cls := 8, slots := #[.long (84)], vm := .none },
  { cls := 8, slots := #[.long (85)], vm := .none },
  { cls := 8, slots := #[.long (86)], vm := .none },
  { cls := 8, slots := #[.long (87)], vm := .none },
  { cls := 8, slots := #[.long (88)], vm := .none },
  { cls := 8, slots := #[.long (89)], vm := .none },
  { cls := 8, slots := #[.long (90)], vm := .none },
  { cls := 8, slots := #[.long (91)], vm := .none },
  { cls := 8, slots := #[.long (92)], vm := .none },
  { cls := 8, slots := #[.long (93)], vm := .none },
  { cls := 8, slots := #[.long (94)], vm := .none },
  { cls := 8, slots := #[.long (95)], vm := .none },
  { cls := 8, slots := #[.long (96)], vm := .none },
  { cls := 8, slots := #[.long (97)], vm := .none },
  { cls := 8, slots := #[.long (98)], vm := .none },
  { cls := 8, slots := #[.long (99)], vm := .none },
  { cls := 8, slots := #[.long (100)], vm := .none },
  { cls := 8, slots := #[.long (101)], vm := .none },
  { cls := 8, slots := #[.long (102)], vm := .none },
  { cls := 8, slots := #[.long (103)], vm := .none },
  { cls := 8, slots := #[.long (104)], vm := .none },
  { cls := 8, slots := #[.long (105)], vm := .none },
  { cls := 8, slots := #[.long (106)], vm := .none },
  { cls := 8, slots := #[.long (107)], vm := .none },
  { cls := 8, slots := #[.long (108)], vm := .none },
  { cls := 8, slots := #[.long (109)], vm := .none },
  { cls := 8, slots := #[.long (110)], vm := .none },
  { cls := 8, slots := #[.long (111)], vm := .none },
  { cls := 8, slots := #[.long (112)], vm := .none },
  { cls := 8, slots := #[.long (113)], vm := .none },
  { cls := 8, slots := #[.long (114)], vm := .none },
  { cls := 8, slots := #[.long (115)], vm := .none },
  { cls := 8, slots := #[.long (116)], vm := .none },
  { cls := 8, slots := #[.long (117)], vm := .none },
  { cls := 8, slots := #[.long (118)], vm := .none },
  { cls := 8, slots := #[.long (119)], vm := .none },
  { cls := 8, slots := #[.long (120)], vm := .none },
  { cls := 8, slots := #[.long (121)], vm := .none },
  { cls := 8, slots := #[.long (122)], vm := .none },
  { cls := 8, slots := #[.long (123)], vm := .none },
  { cls := 8, slots := #[.long (124)], vm := .none },
  { cls := 8, slots := #[.long (125)], vm := .none },
  { cls := 8, slots := #[.long (126)], vm := .none },
  { cls := 8, slots := #[.long (127)], vm := .none }]
def classes : Array Class := #[k0, k1, k2, k3, k4, k5, k6, k7, k8, k9, k10, k11, k12, k13, k14, k15]
def interned : List (Array UInt16 × Addr) := []
def slotsUsed : Nat := 515
def theMethod : MethodId := ⟨1, 1⟩
def args0 : Array Value := #[.long 5, .long 6, .long 7, .long 8, .int 9]
def aboutOver (below : List Frame) : State where
  vm := { classes := classes, interned := interned.toArray }
  heap := heap
  slotsUsed := slotsUsed
  threads := #[{ frames := .invoking theMethod args0 :: below }]
def below0 : List Frame := [.native { method := ⟨0, 0⟩, args := #[] }]
def about1 : State := aboutOver below0
def p0 : Program := .bare "" "" ""
def e0 : Env := launch0.env 0 0 0
theorem w_frames : about1.frames = Frame.invoking theMethod args0 :: below0 := rfl
set_option maxRecDepth 65536 in
theorem w_args : argsFit about1.vm theMethod args0 = true := by decide +kernel
set_option maxRecDepth 65536 in
theorem w_heap : heapFits about1 = true := by decide +kernel
set_option maxRecDepth 65536 in
theorem w_runnable : about1.curStatus? = some .runnable := by decide +kernel
set_option maxRecDepth 65536 in
theorem w_alone : about1.alone = true := by decide +kernel
set_option maxRecDepth 65536 in
theorem w_named : about1.methodNamed? x = some theMethod := by decide +kernel
set_option maxRecDepth 65536 in
theorem w_hears : about1.hears theMethod below0 = true := by decide +kernel
set_option maxRecDepth 65536 in
theorem w_ripe : about1.ripe theMethod args0 below0 = true := by decide +kernel
theorem w_running : about1.status = .running := rfl
set_option maxRecDepth 65536 in
theorem w_room : about1.hasRoom e0.platform room_1 = true :=
  launch0.hasRoom_least _ room_1 (by decide +kernel) (by decide +kernel) (by decide +kernel) (by decide +kernel) (by decide +kernel) (by decide +kernel)
theorem allAtoms_all (ts : List Jvm.Cond) (a : Array Jvm.Value) (st : Jvm.State) : (allAtoms ts).before a st = ts.all (fun c => c.before a st) := by
  induction ts with
  | nil => rfl
  | cons c t ih =>
    show (Jvm.Cond.and c (allAtoms t)).before a st = _
    rw [Jvm.Cond.before_and, ih, List.all_cons]
def words1 : List Jvm.Cond := Jvm.Cond.code x code maxLocals ret :: tables_1
/-- a 'code' word, met by the world's own term for the bytes: nothing is compared byte by byte -/
theorem code_word {y : MethodName} {bytes : ByteArray} {mx : Nat} {rt : Option FieldType} {a : Array Value} {s : State} {m : MethodId} {meth : Method} {c : Code} (h1 : s.methodNamed? y = some m) (h2 : s.vm.method? m = some meth) (h3 : meth.code = some c) (h4 : c.code = bytes)
    (h5 : (c.maxLocals == mx && c.exceptionTable.isEmpty && decide (c.maxStack ≤ mostOperands) && decide (meth.sig.returnType = rt) && !meth.locks && decide (parseMethodDescriptor y.desc = some meth.sig)) = true) : (Jvm.Cond.code y bytes mx rt).before a s = true := by
  simp only [Bool.and_eq_true, beq_iff_eq, Bool.not_eq_true', decide_eq_true_eq] at h5
  obtain ⟨⟨⟨⟨⟨g1, g2⟩, g3⟩, g4⟩, g5⟩, g6⟩ := h5
  simp [Cond.before, Cond.holds, Cond.value, h1, h2, h3, h4, g1, g2, g3, g4, g5, g6]
def isCode : Jvm.Cond → Bool
  | .code _ _ _ _ => true
  | _ => false
theorem all_split {L : List Jvm.Cond} {P : Jvm.Cond → Bool} (h1 : L.all (fun c => isCode c || P c) = true) (h2 : ∀ c ∈ L.filter isCode, P c = true) : L.all P = true := by
  refine List.all_eq_true.mpr fun c hc => ?_
  have h := List.all_eq_true.mp h1 c hc
  rcases Bool.eq_false_or_eq_true (isCode c) with hi | hi
  · exact h2 c (List.mem_filter.mpr ⟨hc, hi⟩)
  · simpa [hi] using h
set_option maxRecDepth 65536 in
theorem w_c0 : (Jvm.Cond.code x code maxLocals ret).before args0 about1 = true := code_word (m := ⟨1, 1⟩) (meth := k1m1) (c := k1c1) (by decide +kernel) rfl rfl rfl (by decide +kernel)
set_option maxRecDepth 65536 in
theorem w_c1 : (Jvm.Cond.code ({ cls := "com/example/dibs/dibs/namespace/RequestId", name := "<init>", desc := "(JJ)V" } : Jvm.MethodName) prog_44_method_1_code (5 : Nat) (Option.none : Option Jvm.ClassFile.FieldType)).before args0 about1 = true := code_word (m := ⟨2, 0⟩) (meth := k2m0) (c := k2c0) (by decide +kernel) rfl rfl rfl (by decide +kernel)
set_option maxRecDepth 65536 in
theorem w_c2 : (Jvm.Cond.code ({ cls := "java/lang/Object", name := "<init>", desc := "()V" } : Jvm.MethodName) object_method_1_code (1 : Nat) (Option.none : Option Jvm.ClassFile.FieldType)).before args0 about1 = true := code_word (m := ⟨0, 0⟩) (meth := k0m0) (c := k0c0) (by decide +kernel) rfl rfl rfl (by decide +kernel)
set_option maxRecDepth 65536 in
theorem w_c3 : (Jvm.Cond.code ({ cls := "com/example/dibs/dibs/namespace/RequestId", name := "equals", desc := "(Ljava/lang/Object;)Z" } : Jvm.MethodName) prog_44_method_5_code (2 : Nat) (Option.some Jvm.ClassFile.FieldType.boolean)).before args0 about1 = true := code_word (m := ⟨2, 1⟩) (meth := k2m1) (c := k2c1) (by decide +kernel) rfl rfl rfl (by decide +kernel)
set_option maxRecDepth 65536 in
theorem w_c4 : (Jvm.Cond.code ({ cls := "java/lang/Long", name := "valueOf", desc := "(J)Ljava/lang/Long;" } : Jvm.MethodName) jdk_35_method_24_code (3 : Nat) (Option.some (Jvm.ClassFile.FieldType.object "java/lang/Long"))).before args0 about1 = true := code_word (m := ⟨8, 0⟩) (meth := k8m0) (c := k8c0) (by decide +kernel) rfl rfl rfl (by decide +kernel)
set_option maxRecDepth 65536 in
theorem w_c5 : (Jvm.Cond.code ({ cls := "java/lang/Long", name := "<init>", desc := "(J)V" } : Jvm.MethodName) jdk_35_method_26_code (3 : Nat) (Option.none : Option Jvm.ClassFile.FieldType)).before args0 about1 = true := code_word (m := ⟨8, 1⟩) (meth := k8m1) (c := k8c1) (by decide +kernel) rfl rfl rfl (by decide +kernel)
set_option maxRecDepth 65536 in
theorem w_c6 : (Jvm.Cond.code ({ cls := "java/lang/Number", name := "<init>", desc := "()V" } : Jvm.MethodName) jdk_18_method_1_code (1 : Nat) (Option.none : Option Jvm.ClassFile.FieldType)).before args0 about1 = true := code_word (m := ⟨4, 0⟩) (meth := k4m0) (c := k4c0) (by decide +kernel) rfl rfl rfl (by decide +kernel)
def codes1 : List Jvm.Cond := [Jvm.Cond.code x code maxLocals ret, Jvm.Cond.code ({ cls := "com/example/dibs/dibs/namespace/RequestId", name := "<init>", desc := "(JJ)V" } : Jvm.MethodName) prog_44_method_1_code (5 : Nat) (Option.none : Option Jvm.ClassFile.FieldType), Jvm.Cond.code ({ cls := "java/lang/Object", name := "<init>", desc := "()V" } : Jvm.MethodName) object_method_1_code (1 : Nat) (Option.none : Option Jvm.ClassFile.FieldType), Jvm.Cond.code ({ cls := "com/example/dibs/dibs/namespace/RequestId", name := "equals", desc := "(Ljava/lang/Object;)Z" } : Jvm.MethodName) prog_44_method_5_code (2 : Nat) (Option.some Jvm.ClassFile.FieldType.boolean), Jvm.Cond.code ({ cls := "java/lang/Long", name := "valueOf", desc := "(J)Ljava/lang/Long;" } : Jvm.MethodName) jdk_35_method_24_code (3 : Nat) (Option.some (Jvm.ClassFile.FieldType.object "java/lang/Long")), Jvm.Cond.code ({ cls := "java/lang/Long", name := "<init>", desc := "(J)V" } : Jvm.MethodName) jdk_35_method_26_code (3 : Nat) (Option.none : Option Jvm.ClassFile.FieldType), Jvm.Cond.code ({ cls := "java/lang/Number", name := "<init>", desc := "()V" } : Jvm.MethodName) jdk_18_method_1_code (1 : Nat) (Option.none : Option Jvm.ClassFile.FieldType)]
set_option maxRecDepth 65536 in
theorem codes_eq : words1.filter isCode = codes1 := rfl
theorem w_codes : ∀ c ∈ words1.filter isCode, c.before args0 about1 = true := by
  rw [codes_eq]
  intro c hc
  simp only [codes1, List.mem_cons, List.not_mem_nil, or_false] at hc
  rcases hc with rfl | rfl | rfl | rfl | rfl | rfl | rfl
  · exact w_c0
  · exact w_c1
  · exact w_c2
  · exact w_c3
  · exact w_c4
  · exact w_c5
  · exact w_c6
set_option maxRecDepth 65536 in
theorem w_t1 : (words1.take 24).all (fun c => isCode c || c.before args0 about1) = true := by decide +kernel
set_option maxRecDepth 65536 in
theorem w_t2 : (words1.drop 24).all (fun c => isCode c || c.before args0 about1) = true := by decide +kernel
theorem w_tables : (allAtoms (Jvm.Cond.code x code maxLocals ret :: tables_1)).before args0 about1 = true := by
  rw [allAtoms_all]
  show words1.all (fun c => c.before args0 about1) = true
  refine all_split ?_ w_codes
  rw [← List.take_append_drop 24 words1, List.all_append, w_t1, w_t2]
  rfl
set_option maxRecDepth 65536 in
theorem w_rest : rest_1_c.before args0 about1 = true := by decide +kernel
set_option maxRecDepth 65536 in
theorem w_case : (Jvm.Cond.and given_1 narrow_1).before args0 about1 = true := by decide +kernel
theorem w_applies : (headSpec (Jvm.Cond.code x code maxLocals ret :: tables_1) room_1).applies x e0.platform about1 = true :=
  (Spec.applies_iff w_frames).mpr ⟨w_running, w_runnable, w_alone, w_named, w_hears, w_ripe, w_room, w_tables⟩
theorem atStart : AtStart classFile x code maxLocals ret World_1 tables_1 room_1 Calls_1 rest_1 Pre_1 launch0 p0 e0 about1 theMethod args0 below0 :=
  ⟨lists_1, trivial, launch0.admits_env _ _ _, launch0.least_env, fairChoices_fair.cas, fairChoices_fair.clock, w_frames, w_args, w_heap, w_applies, trivial, w_rest, w_case⟩
end start1
theorem witness_1 : WitnessClaimed_1 := ⟨start1.p0, start1.e0, start1.about1, start1.theMethod, start1.args0, start1.below0, start1.atStart⟩
end Jvm.Pilot.@@N@@
