import JvmDerived
import JvmDerived.Pilot.@@N@@Statement
import JvmDerived.Pilot.@@N@@Code
set_option linter.unusedVariables false
set_option linter.unusedSimpArgs false
namespace Jvm.RoadKit
open Sem ClassFile Op Lib Bundle Jvm.Stand Jvm.Free Jvm.LawKit Jvm.Free.SB Jvm.Free.SBG
section New
variable {p : Program} {l : Launch} {e : Env} {R : Room} {s : State} {m : MethodId} {args : Array Value} {below : List Frame} {meth : Method} {c : Code} {T : State} {locs : List Loc} {cells slots : Nat}
theorem retI (X : Stand p l e R s m args below meth c T locs cells slots) (hx : p.tables.exec = Jvm.exec) {pc : Nat} {Ls : Array Slot} {z : Int32} {rest : List Value} (hret : meth.sig.returnType = some .int) (hd : decode c.code pc = .ok (.ireturn, 1)) {fs : List Frame}
    (hl : ∀ (f : JFrame) (acts : List Action), f.method = m → f.locked = none → f.entered = [] → (doReturn e (T.setTop f) acts (some (.int z))).1 = T.setFrames fs) : Steps p.tables e below (T.setTop (mkF m pc Ls (.int z :: rest))) (T.setFrames fs) := by
  have hm' : T.vm.method? m = some meth := X.method'
  have hn : narrow .int (.int z) = .int z := rfl
  show Steps p.tables e below (T.setTop { method := m, pc := pc, locals := Ls, stack := _ :: rest, locked := none }) _
  jvm_step X.here [X.here.top, hx, hd, hm', hret, hn]
  first | (intro acts; rw [hl _ acts rfl rfl rfl]) | rw [hl _ _ rfl rfl rfl]
  exact Steps.refl _
/-- from the state A the body comes to its end, and Q holds there -/
def own_G (tb : Tables) (e : Env) (below : List Frame) (Q : Outcome → State → Prop) (A : State) : Prop := ∃ s₂ o, Steps tb e below A s₂ ∧ s₂.status = .running ∧ Ended s₂ below o ∧ Q o s₂
theorem own_fs {tb : Tables} {Q : Outcome → State → Prop} {A B : State} (h : Steps tb e below A B) (g : own_G tb e below Q B) : own_G tb e below Q A := by
  obtain ⟨s₂, o, h1, r⟩ := g
  exact ⟨s₂, o, h.trans h1, r⟩
/-- what a body's contract says of its end -/
def own_P (s : State) (QQ : Option Value → Heap → List Loc → Prop) (rc rs : Nat) (o : Outcome) (U : State) : Prop := ∃ v L, o = .returned v ∧ QQ v U.heap L ∧ FrameEnd s o U L rc rs
variable {QQ : Option Value → Heap → List Loc → Prop} {rc rs : Nat} {h : Heap}
theorem own_start {tb : Tables} {g g' : JFrame} (q : g = g') (k : own_G tb e below (own_P s QQ rc rs) (T.setTop g')) : ∃ s₂ o, Steps tb e below (T.setTop g) s₂ ∧ s₂.status = .running ∧ Ended s₂ below o ∧ ∃ v L, o = .returned v ∧ QQ v s₂.heap L ∧ FrameEnd s o s₂ L rc rs := q ▸ k
theorem own_retI (X : Stand p l e R s m args below meth c T locs cells slots) (hx : p.tables.exec = Jvm.exec) {pc : Nat} {Ls : Array Slot} {z : Int32} {rest : List Value} (hret : meth.sig.returnType = some .int) (hlk : meth.locks = false) (hd : decode c.code pc = .ok (.ireturn, 1)) (hc : cells ≤ rc) (hs : slots ≤ rs) (eT : T.heap = h) (hQ : QQ (some (.int z)) h locs) :
    own_G p.tables e below (own_P s QQ rc rs) (T.setTop (mkF m pc Ls (.int z :: rest))) := by
  obtain ⟨fs, hr, hrun, hended, hW, hsame⟩ := X.leave (v := some (.int z)) (fun h => by rw [hret] at h; cases h) hlk
  exact ⟨_, _, retI X hx hret hd hr, hrun, hended, _, _, rfl, (by show QQ _ T.heap _; rw [eT]; exact hQ), ⟨_, rfl⟩, hW, hsame.mono hc hs⟩
theorem own_retN (X : Stand p l e R s m args below meth c T locs cells slots) (hx : p.tables.exec = Jvm.exec) {pc : Nat} {Ls : Array Slot} {z : Int32} {t : FieldType} {rest : List Value} (hret : meth.sig.returnType = some t) (hlk : meth.locks = false) (ht : t = .boolean ∨ t = .byte ∨ t = .char ∨ t = .short) (hd : decode c.code pc = .ok (.ireturn, 1)) (hc : cells ≤ rc) (hs : slots ≤ rs) (eT : T.heap = h) (hQ : QQ (some (.int (nar t z))) h locs) :
    own_G p.tables e below (own_P s QQ rc rs) (T.setTop (mkF m pc Ls (.int z :: rest))) := by
  obtain ⟨fs, hr, hrun, hended, hW, hsame⟩ := X.leave (v := some (.int (nar t z))) (fun h => by rw [hret] at h; cases h) hlk
  exact ⟨_, _, retN X hx hret ht hd hr, hrun, hended, _, _, rfl, (by show QQ _ T.heap _; rw [eT]; exact hQ), ⟨_, rfl⟩, hW, hsame.mono hc hs⟩
theorem own_retJ (X : Stand p l e R s m args below meth c T locs cells slots) (hx : p.tables.exec = Jvm.exec) {pc : Nat} {Ls : Array Slot} {z : Int64} {rest : List Value} (hret : meth.sig.returnType = some .long) (hlk : meth.locks = false) (hd : decode c.code pc = .ok (.lreturn, 1)) (hc : cells ≤ rc) (hs : slots ≤ rs) (eT : T.heap = h) (hQ : QQ (some (.long z)) h locs) :
    own_G p.tables e below (own_P s QQ rc rs) (T.setTop (mkF m pc Ls (.long z :: rest))) := by
  obtain ⟨fs, hr, hrun, hended, hW, hsame⟩ := X.leave (v := some (.long z)) (fun h => by rw [hret] at h; cases h) hlk
  exact ⟨_, _, retOut X hx hret rfl (Or.inr (Or.inl ⟨rfl, rfl, z, rfl⟩)) hd hr, hrun, hended, _, _, rfl, (by show QQ _ T.heap _; rw [eT]; exact hQ), ⟨_, rfl⟩, hW, hsame.mono hc hs⟩
theorem own_narR {t : FieldType} {w : Value} (hw : w.isRef = true) : narrow t w = w := by rcases ref_cases hw with rfl | ⟨a, rfl⟩ <;> cases t <;> rfl
theorem own_fitR {t : FieldType} {w : Value} (hw : w.isRef = true) (ht : t.isReference = true := by rfl) : fits t w = true := by rcases ref_cases hw with rfl | ⟨a, rfl⟩ <;> cases t <;> first | rfl | cases ht
theorem own_retA (X : Stand p l e R s m args below meth c T locs cells slots) (hx : p.tables.exec = Jvm.exec) {pc : Nat} {Ls : Array Slot} {w : Value} {t : FieldType} {rest : List Value} (hret : meth.sig.returnType = some t) (hlk : meth.locks = false) (ht : t.isReference = true) (hw : w.isRef = true) (hd : decode c.code pc = .ok (.areturn, 1)) (hc : cells ≤ rc) (hs : slots ≤ rs) (eT : T.heap = h) (hQ : QQ (some w) h locs) :
    own_G p.tables e below (own_P s QQ rc rs) (T.setTop (mkF m pc Ls (w :: rest))) := by
  obtain ⟨fs, hr, hrun, hended, hW, hsame⟩ := X.leave (v := some w) (fun h => by rw [hret] at h; cases h) hlk
  exact ⟨_, _, retOut X hx hret (own_narR hw) (Or.inr (Or.inr (Or.inr (Or.inr ⟨rfl, ht, hw⟩)))) hd hr, hrun, hended, _, _, rfl, (by show QQ _ T.heap _; rw [eT]; exact hQ), ⟨_, rfl⟩, hW, hsame.mono hc hs⟩
theorem own_retV (X : Stand p l e R s m args below meth c T locs cells slots) (hx : p.tables.exec = Jvm.exec) {pc : Nat} {Ls : Array Slot} (hret : meth.sig.returnType = none) (hlk : meth.locks = false) (hd : decode c.code pc = .ok (.return_, 1)) (hc : cells ≤ rc) (hs : slots ≤ rs) (eT : T.heap = h) (hQ : QQ none h locs) :
    own_G p.tables e below (own_P s QQ rc rs) (T.setTop (mkF m pc Ls [])) := by
  obtain ⟨fs, hr, hrun, hended, hW, hsame⟩ := X.leave (v := none) (fun _ => rfl) hlk
  exact ⟨_, _, X.returnOut hx hret hd hr, hrun, hended, _, _, rfl, (by show QQ _ T.heap _; rw [eT]; exact hQ), ⟨_, rfl⟩, hW, hsame.mono hc hs⟩
/-- the same for a body that may load String constants -/
def own_PW (Z : State) (EL : List (String × Nat)) (s : State) (QQ : Option Value → Heap → List Loc → Prop) (rc rs : Nat) (o : Outcome) (U : State) : Prop := ∃ v L, o = .returned v ∧ QQ v U.heap L ∧ CHr Z EL s.vm s.heap U.vm U.heap ∧ ReturnedEndW s o U L rc rs
variable {Z : State} {EL : List (String × Nat)} {vm0 : Vm} {h0 : Heap}
theorem own_startW {tb : Tables} {g g' : JFrame} (hh : s.heap = h0) (q : g = g') (k : own_G tb e below (own_PW Z EL s QQ rc rs) (T.setTop g')) : ∃ s₂ o, Steps tb e below (T.setTop g) s₂ ∧ s₂.status = .running ∧ Ended s₂ below o ∧ ∃ v L, o = .returned v ∧ QQ v s₂.heap L ∧ CHr Z EL s.vm s.heap s₂.vm s₂.heap ∧ ReturnedEndW s o s₂ L rc rs := q ▸ k
theorem own_monoW {o : Outcome} {U : State} {L : List Loc} {k n k' n' : Nat} (h : ReturnedEndW s o U L k n) (hk : k ≤ k') (hn : n ≤ n') : ReturnedEndW s o U L k' n' := ⟨h.1, h.2.1, h.2.2.1, h.2.2.2.mono hk hn⟩
theorem own_retVW (X : Stand p l e R (s.setVm vm0) m args below meth c T locs cells slots) (hx : p.tables.exec = Jvm.exec) {pc : Nat} {Ls : Array Slot} (hret : meth.sig.returnType = none) (hlk : meth.locks = false) (hd : decode c.code pc = .ok (.return_, 1)) (hc : cells ≤ rc) (hs : slots ≤ rs) (eT : T.heap = h) {n : Nat} (hS : s.Since vm0 n) (hn : n ≤ h.size) (hR : CHr Z EL s.vm s.heap T.vm h) (hQ : QQ none h locs) :
    own_G p.tables e below (own_PW Z EL s QQ rc rs) (T.setTop (mkF m pc Ls [])) := by
  obtain ⟨fs, hr, hrun, hended, hW⟩ := X.leaveW hS (by rw [eT]; exact hn) (v := none) (fun _ => rfl) hlk
  exact ⟨_, _, X.returnOut hx hret hd hr, hrun, hended, _, _, rfl, (by show QQ _ T.heap _; rw [eT]; exact hQ), (by show CHr Z EL s.vm s.heap T.vm T.heap; rw [eT]; exact hR), own_monoW hW hc hs⟩
theorem own_retNW (X : Stand p l e R (s.setVm vm0) m args below meth c T locs cells slots) (hx : p.tables.exec = Jvm.exec) {pc : Nat} {Ls : Array Slot} {z : Int32} {t : FieldType} {rest : List Value} (hret : meth.sig.returnType = some t) (hlk : meth.locks = false) (ht : t = .boolean ∨ t = .byte ∨ t = .char ∨ t = .short) (hd : decode c.code pc = .ok (.ireturn, 1)) (hc : cells ≤ rc) (hs : slots ≤ rs) (eT : T.heap = h) {n : Nat} (hS : s.Since vm0 n) (hn : n ≤ h.size) (hR : CHr Z EL s.vm s.heap T.vm h) (hQ : QQ (some (.int (nar t z))) h locs) :
    own_G p.tables e below (own_PW Z EL s QQ rc rs) (T.setTop (mkF m pc Ls (.int z :: rest))) := by
  obtain ⟨fs, hr, hrun, hended, hW⟩ := X.leaveW hS (by rw [eT]; exact hn) (v := some (.int (nar t z))) (fun h => by rw [hret] at h; cases h) hlk
  exact ⟨_, _, retN X hx hret ht hd hr, hrun, hended, _, _, rfl, (by show QQ _ T.heap _; rw [eT]; exact hQ), (by show CHr Z EL s.vm s.heap T.vm T.heap; rw [eT]; exact hR), own_monoW hW hc hs⟩
theorem own_retAW (X : Stand p l e R (s.setVm vm0) m args below meth c T locs cells slots) (hx : p.tables.exec = Jvm.exec) {pc : Nat} {Ls : Array Slot} {w : Value} {t : FieldType} {rest : List Value} (hret : meth.sig.returnType = some t) (hlk : meth.locks = false) (ht : t.isReference = true) (hw : w.isRef = true) (hd : decode c.code pc = .ok (.areturn, 1)) (hc : cells ≤ rc) (hs : slots ≤ rs) (eT : T.heap = h) {n : Nat} (hS : s.Since vm0 n) (hn : n ≤ h.size) (hR : CHr Z EL s.vm s.heap T.vm h) (hQ : QQ (some w) h locs) :
    own_G p.tables e below (own_PW Z EL s QQ rc rs) (T.setTop (mkF m pc Ls (w :: rest))) := by
  obtain ⟨fs, hr, hrun, hended, hW⟩ := X.leaveW hS (by rw [eT]; exact hn) (v := some w) (fun h => by rw [hret] at h; cases h) hlk
  exact ⟨_, _, retOut X hx hret (own_narR hw) (Or.inr (Or.inr (Or.inr (Or.inr ⟨rfl, ht, hw⟩)))) hd hr, hrun, hended, _, _, rfl, (by show QQ _ T.heap _; rw [eT]; exact hQ), (by show CHr Z EL s.vm s.heap T.vm T.heap; rw [eT]; exact hR), own_monoW hW hc hs⟩
theorem own_safe0 {Z : State} {EL : List (String × Nat)} {vm : Vm} {h : Heap} {x : Addr} (hal : Z.vm.Alike vm) (E : Exa Z h x "java/lang/String") (F0 : Fld Z h x "java/lang/String" "value" "[B" .null) : Safe Z EL vm h x := fun B => by
  obtain ⟨p, hp, u, a, hb, q, hqa, F, rfl | rfl⟩ := B
  · obtain ⟨cS, ⟨⟨s1, s2, s3, ⟨cv, kv, iv, s4, s4'⟩, -, s6, -, s8, -⟩, -, -⟩, -⟩ := F
    obtain ⟨kv', z4⟩ := ff_back (U := Wst Z vm h) hal s4
    have G : Fld Z h q.sa "java/lang/String" "value" "[B" (.ref q.sd) := ⟨q.sC, cv, kv', iv, q.fSV, s1, z4, s6, s2, s3, by rw [← hal.assignable]; exact s4', s8⟩
    exact Fld.ne F0 G nofun rfl
  · obtain ⟨cell, k, e1, e2, e3, -, -⟩ := E
    have e4 : h[q.sd]? = some q.SA := F.hd
    cases e4.symm.trans e1
    obtain ⟨cS, -, -, f, -⟩ := F
    have f : vm.findClass "[B" = some q.SA.cls := f
    rw [hal.findClass] at f
    obtain ⟨k1, q1, q2⟩ := Vm.findClass_spec f
    obtain ⟨k2, q3, q4⟩ := Vm.findClass_spec e2
    cases q1.symm.trans q3
    have := q2.symm.trans q4
    exact absurd this (by decide)
theorem own_nar0 : nar .boolean (0 : Int32) = (0 : Int32) := rfl
theorem own_nar1 : nar .boolean (1 : Int32) = (1 : Int32) := rfl
theorem own_nar1s : some (Value.int (nar .boolean (1 : Int32))) = some (Value.int (1 : Int32)) := rfl
end New
end Jvm.RoadKit
namespace Jvm.Pilot.@@N@@
open Jvm Jvm.ClassFile Sem Op Lib Jvm.Free Jvm.Stand Jvm.LawKit Jvm.RoadKit Bundle Jvm.Pilot.@@N@@.Jvm.D
theorem own_pn0 : plainName "convoke/model/TokensIsTokenPinLaw" = true := by first | (simp [plainName, overriddenIn]; done) | decide +kernel
theorem own_d3_0 : decode method_2_code 0 = .ok (.iload_n 0, 1) := by decide +kernel
theorem own_d3_1 : decode method_2_code 1 = .ok (.bipush 65, 2) := by decide +kernel
theorem own_d3_3 : decode method_2_code 3 = .ok (.if_icmp .lt 9, 3) := by decide +kernel
theorem own_d3_12 : decode method_2_code 12 = .ok (.iload_n 0, 1) := by decide +kernel
theorem own_d3_13 : decode method_2_code 13 = .ok (.bipush 97, 2) := by decide +kernel
theorem own_d3_15 : decode method_2_code 15 = .ok (.if_icmp .lt 9, 3) := by decide +kernel
theorem own_d3_24 : decode method_2_code 24 = .ok (.iload_n 0, 1) := by decide +kernel
theorem own_d3_25 : decode method_2_code 25 = .ok (.bipush 48, 2) := by decide +kernel
theorem own_d3_27 : decode method_2_code 27 = .ok (.if_icmp .lt 9, 3) := by decide +kernel
theorem own_d3_36 : decode method_2_code 36 = .ok (.iload_n 0, 1) := by decide +kernel
theorem own_d3_37 : decode method_2_code 37 = .ok (.bipush 46, 2) := by decide +kernel
theorem own_d3_39 : decode method_2_code 39 = .ok (.if_icmp .eq 15, 3) := by decide +kernel
theorem own_d3_54 : decode method_2_code 54 = .ok (.iconst 1, 1) := by decide +kernel
theorem own_d3_55 : decode method_2_code 55 = .ok (.goto 4, 3) := by decide +kernel
theorem own_d3_59 : decode method_2_code 59 = .ok (.ireturn, 1) := by decide +kernel
theorem own_d3_42 : decode method_2_code 42 = .ok (.iload_n 0, 1) := by decide +kernel
theorem own_d3_43 : decode method_2_code 43 = .ok (.bipush 95, 2) := by decide +kernel
theorem own_d3_45 : decode method_2_code 45 = .ok (.if_icmp .eq 9, 3) := by decide +kernel
theorem own_d3_48 : decode method_2_code 48 = .ok (.iload_n 0, 1) := by decide +kernel
theorem own_d3_49 : decode method_2_code 49 = .ok (.bipush 45, 2) := by decide +kernel
theorem own_d3_51 : decode method_2_code 51 = .ok (.if_icmp .ne 7, 3) := by decide +kernel
theorem own_d3_58 : decode method_2_code 58 = .ok (.iconst 0, 1) := by decide +kernel
theorem own_d3_30 : decode method_2_code 30 = .ok (.iload_n 0, 1) := by decide +kernel
theorem own_d3_31 : decode method_2_code 31 = .ok (.bipush 57, 2) := by decide +kernel
theorem own_d3_33 : decode method_2_code 33 = .ok (.if_icmp .le 21, 3) := by decide +kernel
theorem own_d3_18 : decode method_2_code 18 = .ok (.iload_n 0, 1) := by decide +kernel
theorem own_d3_19 : decode method_2_code 19 = .ok (.bipush 122, 2) := by decide +kernel
theorem own_d3_21 : decode method_2_code 21 = .ok (.if_icmp .le 33, 3) := by decide +kernel
theorem own_d3_6 : decode method_2_code 6 = .ok (.iload_n 0, 1) := by decide +kernel
theorem own_d3_7 : decode method_2_code 7 = .ok (.bipush 90, 2) := by decide +kernel
theorem own_d3_9 : decode method_2_code 9 = .ok (.if_icmp .le 45, 3) := by decide +kernel
theorem own_d2_0 : decode method_3_code 0 = .ok (.iload_n 0, 1) := by decide +kernel
theorem own_d2_1 : decode method_3_code 1 = .ok (.iload_n 1, 1) := by decide +kernel
theorem own_d2_2 : decode method_3_code 2 = .ok (.if_icmp .lt 14, 3) := by decide +kernel
theorem own_d2_16 : decode method_3_code 16 = .ok (.iconst 0, 1) := by decide +kernel
theorem own_d2_17 : decode method_3_code 17 = .ok (.ireturn, 1) := by decide +kernel
theorem own_d2_5 : decode method_3_code 5 = .ok (.iload_n 0, 1) := by decide +kernel
theorem own_d2_6 : decode method_3_code 6 = .ok (.iload_n 1, 1) := by decide +kernel
theorem own_d2_7 : decode method_3_code 7 = .ok (.iload_n 2, 1) := by decide +kernel
theorem own_d2_8 : decode method_3_code 8 = .ok (.iadd, 1) := by decide +kernel
theorem own_d2_9 : decode method_3_code 9 = .ok (.if_icmp .ge 7, 3) := by decide +kernel
theorem own_d2_12 : decode method_3_code 12 = .ok (.iconst 1, 1) := by decide +kernel
theorem own_d2_13 : decode method_3_code 13 = .ok (.goto 4, 3) := by decide +kernel
theorem own_pn1 : plainName "convoke/model/Tokens" = true := by first | (simp [plainName, overriddenIn]; done) | decide +kernel
theorem own_d1_0 : decode prog_27_method_3_code 0 = .ok (.iload_n 2, 1) := by decide +kernel
theorem own_d1_1 : decode prog_27_method_3_code 1 = .ok (.iconst 1, 1) := by decide +kernel
theorem own_d1_2 : decode prog_27_method_3_code 2 = .ok (.if_icmp .lt 9, 3) := by decide +kernel
theorem own_d1_11 : decode prog_27_method_3_code 11 = .ok (.iconst 0, 1) := by decide +kernel
theorem own_d1_12 : decode prog_27_method_3_code 12 = .ok (.ireturn, 1) := by decide +kernel
theorem own_d1_5 : decode prog_27_method_3_code 5 = .ok (.iload_n 2, 1) := by decide +kernel
theorem own_d1_6 : decode prog_27_method_3_code 6 = .ok (.bipush 64, 2) := by decide +kernel
theorem own_d1_8 : decode prog_27_method_3_code 8 = .ok (.if_icmp .le 5, 3) := by decide +kernel
theorem own_d1_13 : decode prog_27_method_3_code 13 = .ok (.iload_n 1, 1) := by decide +kernel
theorem own_d1_14 : decode prog_27_method_3_code 14 = .ok (.istore_n 3, 1) := by decide +kernel
theorem own_d1_15 : decode prog_27_method_3_code 15 = .ok (.iload_n 3, 1) := by decide +kernel
theorem own_d1_16 : decode prog_27_method_3_code 16 = .ok (.iload_n 1, 1) := by decide +kernel
theorem own_d1_17 : decode prog_27_method_3_code 17 = .ok (.iload_n 2, 1) := by decide +kernel
theorem own_d1_18 : decode prog_27_method_3_code 18 = .ok (.iadd, 1) := by decide +kernel
theorem own_d1_19 : decode prog_27_method_3_code 19 = .ok (.if_icmp .ge 30, 3) := by decide +kernel
theorem own_d1_49 : decode prog_27_method_3_code 49 = .ok (.iconst 1, 1) := by decide +kernel
theorem own_d1_50 : decode prog_27_method_3_code 50 = .ok (.ireturn, 1) := by decide +kernel
theorem own_d1_22 : decode prog_27_method_3_code 22 = .ok (.aload_n 0, 1) := by decide +kernel
theorem own_d1_23 : decode prog_27_method_3_code 23 = .ok (.iload_n 3, 1) := by decide +kernel
theorem own_d1_24 : decode prog_27_method_3_code 24 = .ok (.baload, 1) := by decide +kernel
theorem own_d1_25 : decode prog_27_method_3_code 25 = .ok (.istore 4, 2) := by decide +kernel
theorem own_d1_27 : decode prog_27_method_3_code 27 = .ok (.iload 4, 2) := by decide +kernel
theorem own_d1_29 : decode prog_27_method_3_code 29 = .ok (.ifCond .lt 12, 3) := by decide +kernel
theorem own_d1_41 : decode prog_27_method_3_code 41 = .ok (.iconst 0, 1) := by decide +kernel
theorem own_d1_42 : decode prog_27_method_3_code 42 = .ok (.ireturn, 1) := by decide +kernel
theorem own_d1_32 : decode prog_27_method_3_code 32 = .ok (.getstatic 28, 3) := by decide +kernel
theorem own_d1_35 : decode prog_27_method_3_code 35 = .ok (.iload 4, 2) := by decide +kernel
theorem own_d1_37 : decode prog_27_method_3_code 37 = .ok (.baload, 1) := by decide +kernel
theorem own_d1_38 : decode prog_27_method_3_code 38 = .ok (.ifCond .ne 5, 3) := by decide +kernel
theorem own_d1_43 : decode prog_27_method_3_code 43 = .ok (.iinc 3 1, 3) := by decide +kernel
theorem own_d1_46 : decode prog_27_method_3_code 46 = .ok (.goto (-31), 3) := by decide +kernel
theorem own_pd0 : parseMethodDescriptor "([BII)Z" = some ⟨[(.array .byte), .int, .int], some .boolean⟩ := by decide +kernel
theorem own_pd1 : parseMethodDescriptor "(III)Z" = some ⟨[.int, .int, .int], some .boolean⟩ := by decide +kernel
theorem own_pd2 : parseMethodDescriptor "(B)Z" = some ⟨[.byte], some .boolean⟩ := by decide +kernel
theorem own_len31 {args : Array Value} {first s : State} {o : Option Outcome} {idx : List Nat} {t : Term} {v : Value} {a : Addr} {cell : Cell} (ht : t.eval args first o idx s = some (.ref a)) (hc : s.arrayAt? a = some cell) (h : (Term.length t).eval args first o idx s = some v) : cell.slots.size < 2 ^ 31 := by
  by_cases q : cell.slots.size < 2147483648
  · exact q
  · exfalso
    simp [Term.eval, ht, hc, q] at h

def own_fill (k : Nat) : List Value := List.replicate k (.int (97 : Int32)) ++ List.replicate (68 - k) (.int (0 : Int32))
theorem own_fill_len (k : Nat) (h : k ≤ 68) : (own_fill k).length = 68 := by simp [own_fill]; omega
theorem own_fill0 (i : Nat) : (own_fill 0).getD i (.int (0 : Int32)) = ([] : List Value).getD i (.int (0 : Int32)) := by
  have := pad_rep [] (.int (0 : Int32)) 68 i
  exact this
theorem own_fillS (k : Nat) (h : k < 68) : (own_fill k).set k (.int (97 : Int32)) = own_fill (k + 1) := by
  unfold own_fill
  apply List.ext_getElem?
  intro i
  rw [List.getElem?_set]
  simp only [List.getElem?_append, List.length_replicate, List.getElem?_replicate, List.length_append]
  by_cases a : i < k
  · have : ¬ k = i := by omega
    have b : i < k + 1 := by omega
    simp [a, this, b]
  · by_cases e : k = i
    · subst e
      have : k < k + (68 - k) := by omega
      simp [this]
    · have b : ¬ i < k + 1 := by omega
      have c : (i - k < 68 - k) ↔ (i - (k + 1) < 68 - (k + 1)) := by omega
      simp only [a, b, e, if_false]
      by_cases d : i - k < 68 - k
      · rw [if_pos d, if_pos (c.mp d)]
      · rw [if_neg d, if_neg (fun x => d (c.mpr x))]
theorem own_fill68 (i : Nat) (h : i < 68) : (own_fill 68).getD i (.int (0 : Int32)) = .int (97 : Int32) := by
  unfold own_fill
  rw [List.getD_eq_getElem?_getD, List.getElem?_append_left (by simpa using h), List.getElem?_replicate, if_pos h]; rfl
/-- what the array holds -/
def own_g (q0 b0 q1 b1 : Int32) (i : Nat) : Int32 := if q1.toInt = (i : Int) then b1 else if q0.toInt = (i : Int) then b0 else (97 : Int32)
theorem own_getg (q0 b0 q1 b1 : Int32) (i : Nat) (h : i < 68) : getH [(q1, .int b1), (q0, .int b0)] (own_fill 68) (.int (0 : Int32)) i = .int (own_g q0 b0 q1 b1 i) := by
  show (if q1.toInt = (i : Int) then Value.int b1 else if q0.toInt = (i : Int) then Value.int b0 else (own_fill 68).getD i (.int (0 : Int32))) = _
  rw [own_fill68 i h]
  unfold own_g
  split
  · rfl
  · split <;> rfl
def own_valid (b : Int32) : Int32 :=
  if b < (65 : Int32) then (if b < (97 : Int32) then (if b < (48 : Int32) then (if b = (46 : Int32) then (1 : Int32) else if b = (95 : Int32) then (1 : Int32) else if b = (45 : Int32) then (1 : Int32) else (0 : Int32)) else if (57 : Int32) < b then (if b = (46 : Int32) then (1 : Int32) else if b = (95 : Int32) then (1 : Int32) else if b = (45 : Int32) then (1 : Int32) else (0 : Int32)) else (1 : Int32)) else if (122 : Int32) < b then (if b < (48 : Int32) then (if b = (46 : Int32) then (1 : Int32) else if b = (95 : Int32) then (1 : Int32) else if b = (45 : Int32) then (1 : Int32) else (0 : Int32)) else if (57 : Int32) < b then (if b = (46 : Int32) then (1 : Int32) else if b = (95 : Int32) then (1 : Int32) else if b = (45 : Int32) then (1 : Int32) else (0 : Int32)) else (1 : Int32)) else (1 : Int32))
  else if (90 : Int32) < b then (if b < (97 : Int32) then (if b < (48 : Int32) then (if b = (46 : Int32) then (1 : Int32) else if b = (95 : Int32) then (1 : Int32) else if b = (45 : Int32) then (1 : Int32) else (0 : Int32)) else if (57 : Int32) < b then (if b = (46 : Int32) then (1 : Int32) else if b = (95 : Int32) then (1 : Int32) else if b = (45 : Int32) then (1 : Int32) else (0 : Int32)) else (1 : Int32)) else if (122 : Int32) < b then (if b < (48 : Int32) then (if b = (46 : Int32) then (1 : Int32) else if b = (95 : Int32) then (1 : Int32) else if b = (45 : Int32) then (1 : Int32) else (0 : Int32)) else if (57 : Int32) < b then (if b = (46 : Int32) then (1 : Int32) else if b = (95 : Int32) then (1 : Int32) else if b = (45 : Int32) then (1 : Int32) else (0 : Int32)) else (1 : Int32)) else (1 : Int32))
  else (1 : Int32)
def own_inside (q o n : Int32) : Int32 := if q < o then (0 : Int32) else if q < (o + n) then (1 : Int32) else (0 : Int32)
/-- the table's entry at k -/
def own_tc (k : Nat) : Int32 := own_valid (Int32.ofInt (k : Int))
def own_scan (g : Nat → Int32) : Nat → Nat → Int32
  | _, 0 => (1 : Int32)
  | i, k + 1 => if g i < (0 : Int32) then (0 : Int32) else if own_tc (g i).toNatClampNeg = (0 : Int32) then (0 : Int32) else own_scan g (i + 1) k
def own_tok (g : Nat → Int32) (o n : Int32) : Int32 := if n < (1 : Int32) then (0 : Int32) else if (64 : Int32) < n then (0 : Int32) else own_scan g o.toNatClampNeg n.toNatClampNeg
theorem own_i0 : (0 : Int32).toInt = 0 := by decide
theorem own_i1 : (1 : Int32).toInt = 1 := by decide
theorem own_i64 : (64 : Int32).toInt = 64 := by decide
theorem own_nn {q : Int32} (h : 0 ≤ q.toInt) : ¬ q < 0 := by rw [Int32.lt_iff_toInt_lt, own_i0]; omega
theorem own_nn' {q : Int32} (h : ¬ q < 0) : 0 ≤ q.toInt := by rw [Int32.lt_iff_toInt_lt, own_i0] at h; omega
theorem own_tokS {g : Nat → Int32} {o n : Int32} (h1 : ¬ (n < (1 : Int32))) (h2 : ¬ ((64 : Int32) < n)) : own_tok g o n = own_scan g o.toNatClampNeg n.toNatClampNeg := by
  unfold own_tok; rw [if_neg h1, if_neg h2]
theorem own_end {o n i : Int32} {k : Nat} (ho : ¬ o < 0 ∧ o.toInt ≤ 4) (h1 : ¬ (n < (1 : Int32))) (h2 : ¬ ((64 : Int32) < n)) (hi : ¬ i < 0) (hk : i.toInt + (k : Int) = o.toInt + n.toInt) : (o + n).toInt = o.toInt + n.toInt ∧ (k = 0 → ¬ (i < (o + n))) ∧ (0 < k → i < (o + n) ∧ ¬ (i + (1 : Int32)) < 0 ∧ (i + (1 : Int32)).toInt = i.toInt + 1 ∧ (i + (1 : Int32)).toNatClampNeg = i.toNatClampNeg + 1 ∧ i.toNatClampNeg < 68) := by
  rw [Int32.lt_iff_toInt_lt] at h1 h2
  rw [own_i1] at h1
  rw [own_i64] at h2
  have a := own_nn' ho.1
  have b := own_nn' hi
  have c := c_iadd o n
  have r := rng32 (o + n)
  have e : (o + n).toInt = o.toInt + n.toInt := by omega
  have ni := nat_of hi
  refine ⟨e, fun z => ?_, fun z => ?_⟩
  · rw [Int32.lt_iff_toInt_lt]; omega
  · have d := c_iadd i 1
    rw [own_i1] at d
    have s := rng32 (i + 1)
    have e1 : (i + (1 : Int32)).toInt = i.toInt + 1 := by omega
    have n1 : ¬ (i + (1 : Int32)) < 0 := own_nn (by omega)
    have nn := nat_of n1
    refine ⟨by rw [Int32.lt_iff_toInt_lt]; omega, n1, e1, by omega, by omega⟩
theorem own_in68 {ac : Cell} {i : Int32} (hs : ac.slots.size = 68) (hi : ¬ i < 0) (h : i.toNatClampNeg < 68) : ¬ (i < 0 ∨ ac.slots.size ≤ i.toNatClampNeg) := fun q => q.elim hi (fun x => by omega)
theorem own_in128 {tc : Cell} {b : Int32} (hs : tc.slots.size = 128) (hb : ¬ (b < (0 : Int32))) (h : b.toInt < 128) : ¬ (b < 0 ∨ tc.slots.size ≤ b.toNatClampNeg) ∧ b.toNatClampNeg < 128 := by
  have a := nat_of hb
  exact ⟨fun q => q.elim hb (fun x => by omega), by omega⟩
/-- the answer over the whole span -/
theorem own_scan1 (g : Nat → Int32) : ∀ k i, (own_scan g i k = 1 ∧ ∀ j, i ≤ j → j < i + k → ¬ (g j < (0 : Int32)) ∧ ¬ (own_tc (g j).toNatClampNeg = (0 : Int32))) ∨ (own_scan g i k = 0 ∧ ∃ j, i ≤ j ∧ j < i + k ∧ (g j < (0 : Int32) ∨ own_tc (g j).toNatClampNeg = (0 : Int32))) := by
  intro k
  induction k with
  | zero => intro i; exact Or.inl ⟨rfl, fun j a b => absurd b (by omega)⟩
  | succ k ih =>
    intro i
    show (( if g i < (0 : Int32) then (0 : Int32) else if own_tc (g i).toNatClampNeg = (0 : Int32) then (0 : Int32) else own_scan g (i + 1) k) = 1 ∧ _) ∨ ((if g i < (0 : Int32) then (0 : Int32) else if own_tc (g i).toNatClampNeg = (0 : Int32) then (0 : Int32) else own_scan g (i + 1) k) = 0 ∧ _)
    by_cases a : g i < (0 : Int32)
    · rw [if_pos a]
      exact Or.inr ⟨rfl, i, Nat.le_refl _, by omega, Or.inl a⟩
    · rw [if_neg a]
      by_cases b : own_tc (g i).toNatClampNeg = (0 : Int32)
      · rw [if_pos b]
        exact Or.inr ⟨rfl, i, Nat.le_refl _, by omega, Or.inr b⟩
      · rw [if_neg b]
        rcases ih (i + 1) with ⟨h1, h2⟩ | ⟨h1, j, h2, h3, h4⟩
        · refine Or.inl ⟨h1, fun j x y => ?_⟩
          by_cases e : j = i
          · subst e; exact ⟨a, b⟩
          · exact h2 j (by omega) (by omega)
        · exact Or.inr ⟨h1, j, by omega, by omega, h4⟩
theorem own_v01 (b : Int32) : own_valid b = 0 ∨ own_valid b = 1 := by
  unfold own_valid
  repeat' split
  all_goals first | exact Or.inl rfl | exact Or.inr rfl
theorem own_vneg {b : Int32} (h : b < (0 : Int32)) : own_valid b = 0 := by
  have l : ∀ z : Int32, 0 ≤ z.toInt → b < z := fun z hz => by rw [Int32.lt_iff_toInt_lt, own_i0] at h; rw [Int32.lt_iff_toInt_lt]; omega
  have n : ∀ z : Int32, 0 ≤ z.toInt → ¬ b = z := fun z hz e => by rw [Int32.lt_iff_toInt_lt, own_i0, e] at h; omega
  unfold own_valid
  rw [if_pos (l 65 (by decide)), if_pos (l 97 (by decide)), if_pos (l 48 (by decide)), if_neg (n 46 (by decide)), if_neg (n 95 (by decide)), if_neg (n 45 (by decide))]
theorem own_tcv {b : Int32} (h : ¬ (b < (0 : Int32))) : own_tc b.toNatClampNeg = own_valid b := by
  unfold own_tc
  rw [← nat_of h]
  rw [Int32.ofInt_toInt]
theorem own_bad {b : Int32} : (b < (0 : Int32) ∨ own_tc b.toNatClampNeg = (0 : Int32)) ↔ own_valid b = 0 := by
  by_cases h : b < (0 : Int32)
  · exact ⟨fun _ => own_vneg h, fun _ => Or.inl h⟩
  · rw [own_tcv h]
    exact ⟨fun q => q.elim (fun x => absurd x h) id, Or.inr⟩
theorem own_97 : own_valid 97 = 1 := by decide
def own_exp (q0 b0 q1 b1 o n : Int32) : Int32 := if own_inside q0 o n = (0 : Int32) then (if own_inside q1 o n = (0 : Int32) then (1 : Int32) else if own_valid b1 = (0 : Int32) then (0 : Int32) else (1 : Int32)) else if own_valid b0 = (0 : Int32) then (0 : Int32) else (if own_inside q1 o n = (0 : Int32) then (1 : Int32) else if own_valid b1 = (0 : Int32) then (0 : Int32) else (1 : Int32))
theorem own_ins {q o n : Int32} (hq : ¬ q < 0) (ho : ¬ o < 0 ∧ o.toInt ≤ 4) (h1 : ¬ (n < (1 : Int32))) (h2 : ¬ ((64 : Int32) < n)) : own_inside q o n = 0 ↔ ¬ (o.toNatClampNeg ≤ q.toNatClampNeg ∧ q.toNatClampNeg < o.toNatClampNeg + n.toNatClampNeg) := by
  rw [Int32.lt_iff_toInt_lt] at h1 h2
  rw [own_i1] at h1
  rw [own_i64] at h2
  have a := own_nn' ho.1
  have c := c_iadd o n
  have r := rng32 (o + n)
  have nq := nat_of hq
  have no := nat_of ho.1
  have hn : ¬ n < 0 := own_nn (by omega)
  have n2 := nat_of hn
  unfold own_inside
  simp only [Int32.lt_iff_toInt_lt]
  by_cases x : q.toInt < o.toInt
  · rw [if_pos x]; simp; omega
  · rw [if_neg x]
    by_cases y : q.toInt < (o + n).toInt
    · rw [if_pos y]
      constructor
      · intro e; exact absurd e (by decide)
      · intro e; omega
    · rw [if_neg y]; simp; omega
theorem own_main {q0 b0 q1 b1 o n : Int32} (h0 : ¬ q0 < 0) (hq1 : ¬ q1 < 0) (hne : q0.toInt ≠ q1.toInt) (ho : ¬ o < 0 ∧ o.toInt ≤ 4) (h1 : ¬ (n < (1 : Int32))) (h2 : ¬ ((64 : Int32) < n)) : own_tok (own_g q0 b0 q1 b1) o n = own_exp q0 b0 q1 b1 o n := by
  rw [own_tokS h1 h2]
  have i0 := own_ins h0 ho h1 h2
  have i1 := own_ins hq1 ho h1 h2
  have n0 := nat_of h0
  have n1 := nat_of hq1
  have g0 : own_g q0 b0 q1 b1 q0.toNatClampNeg = b0 := by
    unfold own_g
    rw [if_neg (by omega), if_pos n0]
  have g1 : own_g q0 b0 q1 b1 q1.toNatClampNeg = b1 := by
    unfold own_g
    rw [if_pos n1]
  have g2 : ∀ j, j ≠ q0.toNatClampNeg → j ≠ q1.toNatClampNeg → own_g q0 b0 q1 b1 j = 97 := fun j a b => by
    unfold own_g
    rw [if_neg (by omega), if_neg (by omega)]
  unfold own_exp
  rcases own_scan1 (own_g q0 b0 q1 b1) n.toNatClampNeg o.toNatClampNeg with ⟨e, h⟩ | ⟨e, j, j1, j2, j3⟩
  · rw [e]
    have ok : ∀ j, o.toNatClampNeg ≤ j → j < o.toNatClampNeg + n.toNatClampNeg → ¬ own_valid (own_g q0 b0 q1 b1 j) = 0 := fun j a b => by
      rw [← own_bad]
      intro c
      exact c.elim (h j a b).1 (h j a b).2
    have k1 : ¬ own_inside q1 o n = 0 → ¬ own_valid b1 = 0 := fun a => by
      rw [i1, Classical.not_not] at a
      have := ok _ a.1 a.2
      rwa [g1] at this
    have k0 : ¬ own_inside q0 o n = 0 → ¬ own_valid b0 = 0 := fun a => by
      rw [i0, Classical.not_not] at a
      have := ok _ a.1 a.2
      rwa [g0] at this
    have t : (if own_inside q1 o n = (0 : Int32) then (1 : Int32) else if own_valid b1 = (0 : Int32) then (0 : Int32) else (1 : Int32)) = 1 := by
      by_cases a : own_inside q1 o n = 0
      · rw [if_pos a]
      · rw [if_neg a, if_neg (k1 a)]
    rw [t]
    by_cases a : own_inside q0 o n = 0
    · rw [if_pos a]
    · rw [if_neg a, if_neg (k0 a)]
  · rw [e]
    rw [own_bad] at j3
    by_cases a : j = q0.toNatClampNeg
    · rw [a, g0] at j3
      have x : ¬ own_inside q0 o n = 0 := by rw [i0, Classical.not_not]; omega
      rw [if_neg x, if_pos j3]
    · by_cases b : j = q1.toNatClampNeg
      · rw [b, g1] at j3
        have x : ¬ own_inside q1 o n = 0 := by rw [i1, Classical.not_not]; omega
        rw [if_neg x, if_pos j3]
        split <;> (try split) <;> rfl
      · rw [g2 j a b, own_97] at j3
        exact absurd j3 (by decide)
theorem own_q0 (q : Int32) : ¬ ((q &&& (2147483647 : Int32)) % (68 : Int32)) < 0 ∧ ((q &&& (2147483647 : Int32)) % (68 : Int32)).toInt < 68 := by
  have h := c_mask q 2147483647 31 (by decide) (by decide)
  have e := (c_irem (q &&& (2147483647 : Int32)) 68 68 (by decide)).1 (by rw [h]; exact Int.emod_nonneg _ (by decide))
  simp only [show ((2 ^ 31 : Nat) : Int) = 2147483648 from by decide] at h
  exact ⟨own_nn (by omega), by omega⟩
theorem own_of (q : Int32) : ¬ ((q &&& (2147483647 : Int32)) % (5 : Int32)) < 0 ∧ ((q &&& (2147483647 : Int32)) % (5 : Int32)).toInt ≤ 4 := by
  have h := c_mask q 2147483647 31 (by decide) (by decide)
  have e := (c_irem (q &&& (2147483647 : Int32)) 5 5 (by decide)).1 (by rw [h]; exact Int.emod_nonneg _ (by decide))
  simp only [show ((2 ^ 31 : Nat) : Int) = 2147483648 from by decide] at h
  exact ⟨own_nn (by omega), by omega⟩
theorem own_q1 {q0 : Int32} (q : Int32) (h0 : ¬ q0 < 0 ∧ q0.toInt < 68) : (¬ (((q0 + (1 : Int32)) + ((q &&& (2147483647 : Int32)) % (67 : Int32))) % (68 : Int32)) < 0 ∧ (((q0 + (1 : Int32)) + ((q &&& (2147483647 : Int32)) % (67 : Int32))) % (68 : Int32)).toInt < 68) ∧ q0.toInt ≠ (((q0 + (1 : Int32)) + ((q &&& (2147483647 : Int32)) % (67 : Int32))) % (68 : Int32)).toInt := by
  have h := c_mask q 2147483647 31 (by decide) (by decide)
  have e := (c_irem (q &&& (2147483647 : Int32)) 67 67 (by decide)).1 (by rw [h]; exact Int.emod_nonneg _ (by decide))
  simp only [show ((2 ^ 31 : Nat) : Int) = 2147483648 from by decide] at h
  generalize (q &&& (2147483647 : Int32)) % (67 : Int32) = y at *
  have a := own_nn' h0.1
  have c := c_iadd q0 1
  rw [own_i1] at c
  have r := rng32 (q0 + 1)
  have d := c_iadd (q0 + 1) y
  have s := rng32 (q0 + 1 + y)
  have by1 : 0 ≤ y.toInt ∧ y.toInt < 67 := by omega
  clear e h
  have e1 : (q0 + 1).toInt = q0.toInt + 1 := by omega
  have e2 : (q0 + 1 + y).toInt = q0.toInt + 1 + y.toInt := by omega
  clear c d r s e1
  have f := (c_irem (q0 + 1 + y) 68 68 (by decide)).1 (by omega)
  rw [e2] at f
  generalize ((q0 + 1 + y) % 68) = w at *
  clear e2
  exact ⟨⟨own_nn (by omega), by omega⟩, by omega⟩
theorem own_gb {q0 b0 q1 b1 : Int32} (h0 : b0.toInt < 128) (h1 : b1.toInt < 128) (i : Nat) : (own_g q0 b0 q1 b1 i).toInt < 128 := by
  unfold own_g
  split
  · exact h1
  · split
    · exact h0
    · decide
theorem own_narb (b : Int32) : nar .byte (b.toInt8.toInt32) = b.toInt8.toInt32 := by
  show b.toInt8.toInt32.toInt8.toInt32 = b.toInt8.toInt32
  apply Int32.toInt_inj.mp
  have h1 := c_i2b b
  have h2 := c_i2b b.toInt8.toInt32
  omega
/-! the table -/
theorem own_tab3 {s : State} {args : Array Value} {t : Term} {tb : Addr} {tc : Cell} {lo hi v : Int32} (hf : Fit s) (et : ∀ idx, t.eval args s none idx s = some (.ref tb)) (A : Arr s s.heap tb tc .boolean) (hs : tc.slots.size = 128)
    (h : (Jvm.Cond.all t (.or (.lt (.index 0) (.int lo)) (.or (.le (.int hi) (.index 0)) (.eq (.elem t (.index 0)) (.int v))))).value args s none s [] = some true) (k : Nat) (hk : k < 128) (h1 : lo.toInt ≤ (k : Int)) (h2 : (k : Int) < hi.toInt) : tc.slots[k]? = some (.int v) := by
  have hj : ¬ ((k.toInt32 < 0) ∨ tc.slots.size ≤ k.toInt32.toNatClampNeg) := by rw [hs]; exact idx_in hk (by decide)
  have kk : k.toInt32.toNatClampNeg = k ∧ k.toInt32.toInt = (k : Int) := by
    have e := len_toInt (n := k) (by omega)
    refine ⟨?_, e⟩
    have := nat_of (j := k.toInt32) (fun q => hj (Or.inl q))
    omega
  obtain ⟨w, e1, e2⟩ := elem_fit hf A hj
  obtain ⟨x, rfl⟩ := fit_I e2 (Or.inr (Or.inl rfl))
  have u := Cond.all_elim (et []) (A.fin (Vm.Alike.refl _)) h k (by omega)
  have ix : (Term.index 0).eval args s none [k] s = some (.int k.toInt32) := Term.index_eval _
  have q := or3 u (Cond.lt_ints ix (Term.int_eval lo)) (Cond.le_ints (Term.int_eval hi) ix) (Cond.eq_ints ((elem_f (et _) ix (A.fin (Vm.Alike.refl _)) (fun q => hj (Or.inl q))).trans e1) (Term.int_eval v))
  rw [kk.1] at e1
  rcases q with q | q | q
  · rw [Int32.lt_iff_toInt_lt] at q; omega
  · rw [Int32.lt_iff_toInt_lt] at q; omega
  · rw [e1, q]
theorem own_tabL {s : State} {args : Array Value} {t : Term} {tb : Addr} {tc : Cell} {hi v : Int32} (hf : Fit s) (et : ∀ idx, t.eval args s none idx s = some (.ref tb)) (A : Arr s s.heap tb tc .boolean) (hs : tc.slots.size = 128)
    (h : (Jvm.Cond.all t (.or (.le (.int hi) (.index 0)) (.eq (.elem t (.index 0)) (.int v)))).value args s none s [] = some true) (k : Nat) (hk : k < 128) (h2 : (k : Int) < hi.toInt) : tc.slots[k]? = some (.int v) := by
  have hj : ¬ ((k.toInt32 < 0) ∨ tc.slots.size ≤ k.toInt32.toNatClampNeg) := by rw [hs]; exact idx_in hk (by decide)
  have kk : k.toInt32.toNatClampNeg = k ∧ k.toInt32.toInt = (k : Int) := by
    have e := len_toInt (n := k) (by omega)
    refine ⟨?_, e⟩
    have := nat_of (j := k.toInt32) (fun q => hj (Or.inl q))
    omega
  obtain ⟨w, e1, e2⟩ := elem_fit hf A hj
  obtain ⟨x, rfl⟩ := fit_I e2 (Or.inr (Or.inl rfl))
  have u := Cond.all_elim (et []) (A.fin (Vm.Alike.refl _)) h k (by omega)
  have ix : (Term.index 0).eval args s none [k] s = some (.int k.toInt32) := Term.index_eval _
  have q := or_e2 (Cond.le_ints (Term.int_eval hi) ix) (Cond.eq_ints ((elem_f (et _) ix (A.fin (Vm.Alike.refl _)) (fun q => hj (Or.inl q))).trans e1) (Term.int_eval v)) u
  rw [kk.1] at e1
  rcases q with q | q
  · rw [Int32.le_iff_toInt_le] at q; omega
  · rw [e1, q]
theorem own_tabH {s : State} {args : Array Value} {t : Term} {tb : Addr} {tc : Cell} {lo v : Int32} (hf : Fit s) (et : ∀ idx, t.eval args s none idx s = some (.ref tb)) (A : Arr s s.heap tb tc .boolean) (hs : tc.slots.size = 128)
    (h : (Jvm.Cond.all t (.or (.lt (.index 0) (.int lo)) (.eq (.elem t (.index 0)) (.int v)))).value args s none s [] = some true) (k : Nat) (hk : k < 128) (h1 : lo.toInt ≤ (k : Int)) : tc.slots[k]? = some (.int v) := by
  have hj : ¬ ((k.toInt32 < 0) ∨ tc.slots.size ≤ k.toInt32.toNatClampNeg) := by rw [hs]; exact idx_in hk (by decide)
  have kk : k.toInt32.toNatClampNeg = k ∧ k.toInt32.toInt = (k : Int) := by
    have e := len_toInt (n := k) (by omega)
    refine ⟨?_, e⟩
    have := nat_of (j := k.toInt32) (fun q => hj (Or.inl q))
    omega
  obtain ⟨w, e1, e2⟩ := elem_fit hf A hj
  obtain ⟨x, rfl⟩ := fit_I e2 (Or.inr (Or.inl rfl))
  have u := Cond.all_elim (et []) (A.fin (Vm.Alike.refl _)) h k (by omega)
  have ix : (Term.index 0).eval args s none [k] s = some (.int k.toInt32) := Term.index_eval _
  have q := or_e2 (Cond.lt_ints ix (Term.int_eval lo)) (Cond.eq_ints ((elem_f (et _) ix (A.fin (Vm.Alike.refl _)) (fun q => hj (Or.inl q))).trans e1) (Term.int_eval v)) u
  rw [kk.1] at e1
  rcases q with q | q
  · rw [Int32.lt_iff_toInt_lt] at q; omega
  · rw [e1, q]
theorem own_tab1 {s : State} {args : Array Value} {t : Term} {tb : Addr} {tc : Cell} {j v : Int32} (et : t.eval args s none [] s = some (.ref tb)) (A : Arr s s.heap tb tc .boolean)
    (h : (Jvm.Cond.eq (.elem t (.int j)) (.int v)).value args s none s [] = some true) : tc.slots[j.toNatClampNeg]? = some (.int v) := by
  have e := eqv_i (Term.int_eval v) h
  exact (elem_in e et (Term.int_eval j) A.1).2
def own_T (tc : Cell) : Prop := tc.slots.size = 128 ∧ ∀ k, k < 128 → tc.slots[k]? = some (.int (own_tc k))
theorem own_tct : ∀ k : Fin 128, own_tc k.1 = (if 48 ≤ k.1 ∧ k.1 < 58 ∨ 65 ≤ k.1 ∧ k.1 < 91 ∨ 97 ≤ k.1 ∧ k.1 < 123 ∨ k.1 = 45 ∨ k.1 = 46 ∨ k.1 = 95 then (1 : Int32) else (0 : Int32)) := by decide +kernel

theorem own_rvalid_ef (m : MethodId) (x0 : Int32) : entryFrame m #[(.int x0)] 1 = mkF m 0 #[.val (.int x0)] [] := by first | (simp [entryFrame, mkF, argsToLocals, Value.category]; done) | rfl
def own_rvalid_Q (Z : State) (p1 : Int32) (h0 : Heap) (n0 : Nat) (v : Option Value) (h : Heap) (L : List Loc) : Prop := (v = some (.int (own_valid p1)) ∧ Fr n0 L ∧ h = h0)
set_option maxRecDepth 65536 in
set_option maxHeartbeats 40000000 in
theorem own_rvalid (l : Launch) (Z : State) (a0 : Array Value) (hw : ∀ d ∈ tables_1, d.before a0 Z = true) (ws : List Jvm.Cond) (p1 : Int32) (h0 : Heap) (n0 : Nat) (Z0 : n0 ≤ h0.size)  :
    MetFree l (⟨"convoke/model/TokensIsTokenPinLaw", "valid", "(B)Z"⟩ : MethodName) (head1 (Jvm.Cond.code (⟨"convoke/model/TokensIsTokenPinLaw", "valid", "(B)Z"⟩ : MethodName) method_2_code 1 (some .boolean) :: ws) ({ frames := 0, cells := 0, slots := 0, locals := 0 } : Room)) (fun a U => a = #[(.int p1)] ∧ Z.Warmed39 U.vm ∧ U.heap = h0) (fun _ _ _ _ _ => True) (fun _ U o U' => ∃ v L, o = .returned v ∧ own_rvalid_Q Z p1 h0 n0 v U'.heap L ∧ FrameEnd U o U' L ({ frames := 0, cells := 0, slots := 0, locals := 0 } : Room).cells ({ frames := 0, cells := 0, slots := 0, locals := 0 } : Room).slots) := by
  refine MetFree.of_bodySF (plainFor_of_name own_pn0) hisR ?_
  intro p e s m args below meth c s₁ Bd hml0 hP hK
  obtain ⟨rfl, hZ, hh⟩ := hP
  have hx := Bd.exec
  have hby := Bd.bytes
  have hlk : meth.locks = false := BodyLoose.notSynchronized Bd
  have hml : c.maxLocals = 1 := hml0
  have hown : s.vm.findClass "convoke/model/TokensIsTokenPinLaw" = some m.cls := findClass_of_methodNamed Bd.named
  have hnm := (name_of_methodNamed Bd.named Bd.method).1
  have X0 : Stand p l e ({ frames := 0, cells := 0, slots := 0, locals := 0 } : Room) s m #[(.int p1)] below meth c s₁ [] 0 0 := Stand.of_body Bd
  have e0 : s₁.heap = h0 := by rw [← hh, Bd.state]; rfl
  have N0 := Fr.nil n0
  refine own_start (QQ := own_rvalid_Q Z p1 h0 n0) (rc := ({ frames := 0, cells := 0, slots := 0, locals := 0 } : Room).cells) (rs := ({ frames := 0, cells := 0, slots := 0, locals := 0 } : Room).slots) (own_rvalid_ef m p1 ) ?_
  show own_G p.tables e below _ (s₁.setTop (mkF m 0 #[.val (.int p1)] []))
  refine own_fs (XS.iloadN X0.here hx rfl (hb hby own_d3_0) rfl (Steps.refl _)) ?_
  show own_G p.tables e below _ (s₁.setTop (mkF m 1 #[.val (.int p1)] [(.int p1)]))
  refine own_fs (XS.bipush X0.here hx rfl (hb hby own_d3_1) (Steps.refl _)) ?_
  show own_G p.tables e below _ (s₁.setTop (mkF m 3 #[.val (.int p1)] [(.int (65 : Int32)), (.int p1)]))
  by_cases hc3 : p1 < (65 : Int32)
  · refine own_fs (XS.icmpYes X0.here hx rfl (pc0 := 3) (pc' := 12) rfl (hb hby own_d3_3) rfl (XT.ii_lt_t hc3) (by decide) (by decide) (Steps.refl _)) ?_
    show own_G p.tables e below _ (s₁.setTop (mkF m 12 #[.val (.int p1)] []))
    refine own_fs (XS.iloadN X0.here hx rfl (hb hby own_d3_12) rfl (Steps.refl _)) ?_
    show own_G p.tables e below _ (s₁.setTop (mkF m 13 #[.val (.int p1)] [(.int p1)]))
    refine own_fs (XS.bipush X0.here hx rfl (hb hby own_d3_13) (Steps.refl _)) ?_
    show own_G p.tables e below _ (s₁.setTop (mkF m 15 #[.val (.int p1)] [(.int (97 : Int32)), (.int p1)]))
    by_cases hc15 : p1 < (97 : Int32)
    · refine own_fs (XS.icmpYes X0.here hx rfl (pc0 := 15) (pc' := 24) rfl (hb hby own_d3_15) rfl (XT.ii_lt_t hc15) (by decide) (by decide) (Steps.refl _)) ?_
      show own_G p.tables e below _ (s₁.setTop (mkF m 24 #[.val (.int p1)] []))
      refine own_fs (XS.iloadN X0.here hx rfl (hb hby own_d3_24) rfl (Steps.refl _)) ?_
      show own_G p.tables e below _ (s₁.setTop (mkF m 25 #[.val (.int p1)] [(.int p1)]))
      refine own_fs (XS.bipush X0.here hx rfl (hb hby own_d3_25) (Steps.refl _)) ?_
      show own_G p.tables e below _ (s₁.setTop (mkF m 27 #[.val (.int p1)] [(.int (48 : Int32)), (.int p1)]))
      by_cases hc27 : p1 < (48 : Int32)
      · refine own_fs (XS.icmpYes X0.here hx rfl (pc0 := 27) (pc' := 36) rfl (hb hby own_d3_27) rfl (XT.ii_lt_t hc27) (by decide) (by decide) (Steps.refl _)) ?_
        show own_G p.tables e below _ (s₁.setTop (mkF m 36 #[.val (.int p1)] []))
        refine own_fs (XS.iloadN X0.here hx rfl (hb hby own_d3_36) rfl (Steps.refl _)) ?_
        show own_G p.tables e below _ (s₁.setTop (mkF m 37 #[.val (.int p1)] [(.int p1)]))
        refine own_fs (XS.bipush X0.here hx rfl (hb hby own_d3_37) (Steps.refl _)) ?_
        show own_G p.tables e below _ (s₁.setTop (mkF m 39 #[.val (.int p1)] [(.int (46 : Int32)), (.int p1)]))
        by_cases hc39 : p1 = (46 : Int32)
        · refine own_fs (XS.icmpYes X0.here hx rfl (pc0 := 39) (pc' := 54) rfl (hb hby own_d3_39) rfl (XT.ii_eq_t hc39) (by decide) (by decide) (Steps.refl _)) ?_
          show own_G p.tables e below _ (s₁.setTop (mkF m 54 #[.val (.int p1)] []))
          refine own_fs (XS.iconst X0.here hx rfl (hb hby own_d3_54) (Steps.refl _)) ?_
          show own_G p.tables e below _ (s₁.setTop (mkF m 55 #[.val (.int p1)] [(.int (1 : Int32))]))
          refine own_fs (XS.goto X0.here hx rfl (pc0 := 55) (pc' := 59) rfl (hb hby own_d3_55) (by decide) (by decide) (Steps.refl _)) ?_
          show own_G p.tables e below _ (s₁.setTop (mkF m 59 #[.val (.int p1)] [(.int (1 : Int32))]))
          exact own_retN X0 hx (t := .boolean) Bd.returns hlk (by simp) (hb hby own_d3_59) (by decide) (by decide) e0 ⟨(by simp only [own_valid, own_nar0, own_nar1, if_pos hc15, if_pos hc27, if_pos hc3, if_pos hc39]), N0, rfl⟩
        · refine own_fs (XS.icmpNo X0.here hx rfl (hb hby own_d3_39) rfl (XT.ii_eq_f hc39) (Steps.refl _)) ?_
          show own_G p.tables e below _ (s₁.setTop (mkF m 42 #[.val (.int p1)] []))
          refine own_fs (XS.iloadN X0.here hx rfl (hb hby own_d3_42) rfl (Steps.refl _)) ?_
          show own_G p.tables e below _ (s₁.setTop (mkF m 43 #[.val (.int p1)] [(.int p1)]))
          refine own_fs (XS.bipush X0.here hx rfl (hb hby own_d3_43) (Steps.refl _)) ?_
          show own_G p.tables e below _ (s₁.setTop (mkF m 45 #[.val (.int p1)] [(.int (95 : Int32)), (.int p1)]))
          by_cases hc45 : p1 = (95 : Int32)
          · refine own_fs (XS.icmpYes X0.here hx rfl (pc0 := 45) (pc' := 54) rfl (hb hby own_d3_45) rfl (XT.ii_eq_t hc45) (by decide) (by decide) (Steps.refl _)) ?_
            show own_G p.tables e below _ (s₁.setTop (mkF m 54 #[.val (.int p1)] []))
            refine own_fs (XS.iconst X0.here hx rfl (hb hby own_d3_54) (Steps.refl _)) ?_
            show own_G p.tables e below _ (s₁.setTop (mkF m 55 #[.val (.int p1)] [(.int (1 : Int32))]))
            refine own_fs (XS.goto X0.here hx rfl (pc0 := 55) (pc' := 59) rfl (hb hby own_d3_55) (by decide) (by decide) (Steps.refl _)) ?_
            show own_G p.tables e below _ (s₁.setTop (mkF m 59 #[.val (.int p1)] [(.int (1 : Int32))]))
            exact own_retN X0 hx (t := .boolean) Bd.returns hlk (by simp) (hb hby own_d3_59) (by decide) (by decide) e0 ⟨(by simp only [own_valid, own_nar0, own_nar1, if_neg hc39, if_pos hc15, if_pos hc27, if_pos hc3, if_pos hc45]), N0, rfl⟩
          · refine own_fs (XS.icmpNo X0.here hx rfl (hb hby own_d3_45) rfl (XT.ii_eq_f hc45) (Steps.refl _)) ?_
            show own_G p.tables e below _ (s₁.setTop (mkF m 48 #[.val (.int p1)] []))
            refine own_fs (XS.iloadN X0.here hx rfl (hb hby own_d3_48) rfl (Steps.refl _)) ?_
            show own_G p.tables e below _ (s₁.setTop (mkF m 49 #[.val (.int p1)] [(.int p1)]))
            refine own_fs (XS.bipush X0.here hx rfl (hb hby own_d3_49) (Steps.refl _)) ?_
            show own_G p.tables e below _ (s₁.setTop (mkF m 51 #[.val (.int p1)] [(.int (45 : Int32)), (.int p1)]))
            by_cases hc51 : p1 = (45 : Int32)
            · refine own_fs (XS.icmpNo X0.here hx rfl (hb hby own_d3_51) rfl (XT.ii_ne_f hc51) (Steps.refl _)) ?_
              show own_G p.tables e below _ (s₁.setTop (mkF m 54 #[.val (.int p1)] []))
              refine own_fs (XS.iconst X0.here hx rfl (hb hby own_d3_54) (Steps.refl _)) ?_
              show own_G p.tables e below _ (s₁.setTop (mkF m 55 #[.val (.int p1)] [(.int (1 : Int32))]))
              refine own_fs (XS.goto X0.here hx rfl (pc0 := 55) (pc' := 59) rfl (hb hby own_d3_55) (by decide) (by decide) (Steps.refl _)) ?_
              show own_G p.tables e below _ (s₁.setTop (mkF m 59 #[.val (.int p1)] [(.int (1 : Int32))]))
              exact own_retN X0 hx (t := .boolean) Bd.returns hlk (by simp) (hb hby own_d3_59) (by decide) (by decide) e0 ⟨(by simp only [own_valid, own_nar0, own_nar1, if_neg hc39, if_neg hc45, if_pos hc15, if_pos hc27, if_pos hc3, if_pos hc51]), N0, rfl⟩
            · refine own_fs (XS.icmpYes X0.here hx rfl (pc0 := 51) (pc' := 58) rfl (hb hby own_d3_51) rfl (XT.ii_ne_t hc51) (by decide) (by decide) (Steps.refl _)) ?_
              show own_G p.tables e below _ (s₁.setTop (mkF m 58 #[.val (.int p1)] []))
              refine own_fs (XS.iconst X0.here hx rfl (hb hby own_d3_58) (Steps.refl _)) ?_
              show own_G p.tables e below _ (s₁.setTop (mkF m 59 #[.val (.int p1)] [(.int (0 : Int32))]))
              exact own_retN X0 hx (t := .boolean) Bd.returns hlk (by simp) (hb hby own_d3_59) (by decide) (by decide) e0 ⟨(by simp only [own_valid, own_nar0, own_nar1, if_neg hc39, if_neg hc45, if_neg hc51, if_pos hc15, if_pos hc27, if_pos hc3]), N0, rfl⟩
      · refine own_fs (XS.icmpNo X0.here hx rfl (hb hby own_d3_27) rfl (XT.ii_lt_f hc27) (Steps.refl _)) ?_
        show own_G p.tables e below _ (s₁.setTop (mkF m 30 #[.val (.int p1)] []))
        refine own_fs (XS.iloadN X0.here hx rfl (hb hby own_d3_30) rfl (Steps.refl _)) ?_
        show own_G p.tables e below _ (s₁.setTop (mkF m 31 #[.val (.int p1)] [(.int p1)]))
        refine own_fs (XS.bipush X0.here hx rfl (hb hby own_d3_31) (Steps.refl _)) ?_
        show own_G p.tables e below _ (s₁.setTop (mkF m 33 #[.val (.int p1)] [(.int (57 : Int32)), (.int p1)]))
        by_cases hc33 : (57 : Int32) < p1
        · refine own_fs (XS.icmpNo X0.here hx rfl (hb hby own_d3_33) rfl (XT.ii_le_f hc33) (Steps.refl _)) ?_
          show own_G p.tables e below _ (s₁.setTop (mkF m 36 #[.val (.int p1)] []))
          refine own_fs (XS.iloadN X0.here hx rfl (hb hby own_d3_36) rfl (Steps.refl _)) ?_
          show own_G p.tables e below _ (s₁.setTop (mkF m 37 #[.val (.int p1)] [(.int p1)]))
          refine own_fs (XS.bipush X0.here hx rfl (hb hby own_d3_37) (Steps.refl _)) ?_
          show own_G p.tables e below _ (s₁.setTop (mkF m 39 #[.val (.int p1)] [(.int (46 : Int32)), (.int p1)]))
          by_cases hc39 : p1 = (46 : Int32)
          · refine own_fs (XS.icmpYes X0.here hx rfl (pc0 := 39) (pc' := 54) rfl (hb hby own_d3_39) rfl (XT.ii_eq_t hc39) (by decide) (by decide) (Steps.refl _)) ?_
            show own_G p.tables e below _ (s₁.setTop (mkF m 54 #[.val (.int p1)] []))
            refine own_fs (XS.iconst X0.here hx rfl (hb hby own_d3_54) (Steps.refl _)) ?_
            show own_G p.tables e below _ (s₁.setTop (mkF m 55 #[.val (.int p1)] [(.int (1 : Int32))]))
            refine own_fs (XS.goto X0.here hx rfl (pc0 := 55) (pc' := 59) rfl (hb hby own_d3_55) (by decide) (by decide) (Steps.refl _)) ?_
            show own_G p.tables e below _ (s₁.setTop (mkF m 59 #[.val (.int p1)] [(.int (1 : Int32))]))
            exact own_retN X0 hx (t := .boolean) Bd.returns hlk (by simp) (hb hby own_d3_59) (by decide) (by decide) e0 ⟨(by simp only [own_valid, own_nar0, own_nar1, if_neg hc27, if_pos hc15, if_pos hc3, if_pos hc33, if_pos hc39]), N0, rfl⟩
          · refine own_fs (XS.icmpNo X0.here hx rfl (hb hby own_d3_39) rfl (XT.ii_eq_f hc39) (Steps.refl _)) ?_
            show own_G p.tables e below _ (s₁.setTop (mkF m 42 #[.val (.int p1)] []))
            refine own_fs (XS.iloadN X0.here hx rfl (hb hby own_d3_42) rfl (Steps.refl _)) ?_
            show own_G p.tables e below _ (s₁.setTop (mkF m 43 #[.val (.int p1)] [(.int p1)]))
            refine own_fs (XS.bipush X0.here hx rfl (hb hby own_d3_43) (Steps.refl _)) ?_
            show own_G p.tables e below _ (s₁.setTop (mkF m 45 #[.val (.int p1)] [(.int (95 : Int32)), (.int p1)]))
            by_cases hc45 : p1 = (95 : Int32)
            · refine own_fs (XS.icmpYes X0.here hx rfl (pc0 := 45) (pc' := 54) rfl (hb hby own_d3_45) rfl (XT.ii_eq_t hc45) (by decide) (by decide) (Steps.refl _)) ?_
              show own_G p.tables e below _ (s₁.setTop (mkF m 54 #[.val (.int p1)] []))
              refine own_fs (XS.iconst X0.here hx rfl (hb hby own_d3_54) (Steps.refl _)) ?_
              show own_G p.tables e below _ (s₁.setTop (mkF m 55 #[.val (.int p1)] [(.int (1 : Int32))]))
              refine own_fs (XS.goto X0.here hx rfl (pc0 := 55) (pc' := 59) rfl (hb hby own_d3_55) (by decide) (by decide) (Steps.refl _)) ?_
              show own_G p.tables e below _ (s₁.setTop (mkF m 59 #[.val (.int p1)] [(.int (1 : Int32))]))
              exact own_retN X0 hx (t := .boolean) Bd.returns hlk (by simp) (hb hby own_d3_59) (by decide) (by decide) e0 ⟨(by simp only [own_valid, own_nar0, own_nar1, if_neg hc27, if_neg hc39, if_pos hc15, if_pos hc3, if_pos hc33, if_pos hc45]), N0, rfl⟩
            · refine own_fs (XS.icmpNo X0.here hx rfl (hb hby own_d3_45) rfl (XT.ii_eq_f hc45) (Steps.refl _)) ?_
              show own_G p.tables e below _ (s₁.setTop (mkF m 48 #[.val (.int p1)] []))
              refine own_fs (XS.iloadN X0.here hx rfl (hb hby own_d3_48) rfl (Steps.refl _)) ?_
              show own_G p.tables e below _ (s₁.setTop (mkF m 49 #[.val (.int p1)] [(.int p1)]))
              refine own_fs (XS.bipush X0.here hx rfl (hb hby own_d3_49) (Steps.refl _)) ?_
              show own_G p.tables e below _ (s₁.setTop (mkF m 51 #[.val (.int p1)] [(.int (45 : Int32)), (.int p1)]))
              by_cases hc51 : p1 = (45 : Int32)
              · refine own_fs (XS.icmpNo X0.here hx rfl (hb hby own_d3_51) rfl (XT.ii_ne_f hc51) (Steps.refl _)) ?_
                show own_G p.tables e below _ (s₁.setTop (mkF m 54 #[.val (.int p1)] []))
                refine own_fs (XS.iconst X0.here hx rfl (hb hby own_d3_54) (Steps.refl _)) ?_
                show own_G p.tables e below _ (s₁.setTop (mkF m 55 #[.val (.int p1)] [(.int (1 : Int32))]))
                refine own_fs (XS.goto X0.here hx rfl (pc0 := 55) (pc' := 59) rfl (hb hby own_d3_55) (by decide) (by decide) (Steps.refl _)) ?_
                show own_G p.tables e below _ (s₁.setTop (mkF m 59 #[.val (.int p1)] [(.int (1 : Int32))]))
                exact own_retN X0 hx (t := .boolean) Bd.returns hlk (by simp) (hb hby own_d3_59) (by decide) (by decide) e0 ⟨(by simp only [own_valid, own_nar0, own_nar1, if_neg hc27, if_neg hc39, if_neg hc45, if_pos hc15, if_pos hc3, if_pos hc33, if_pos hc51]), N0, rfl⟩
              · refine own_fs (XS.icmpYes X0.here hx rfl (pc0 := 51) (pc' := 58) rfl (hb hby own_d3_51) rfl (XT.ii_ne_t hc51) (by decide) (by decide) (Steps.refl _)) ?_
                show own_G p.tables e below _ (s₁.setTop (mkF m 58 #[.val (.int p1)] []))
                refine own_fs (XS.iconst X0.here hx rfl (hb hby own_d3_58) (Steps.refl _)) ?_
                show own_G p.tables e below _ (s₁.setTop (mkF m 59 #[.val (.int p1)] [(.int (0 : Int32))]))
                exact own_retN X0 hx (t := .boolean) Bd.returns hlk (by simp) (hb hby own_d3_59) (by decide) (by decide) e0 ⟨(by simp only [own_valid, own_nar0, own_nar1, if_neg hc27, if_neg hc39, if_neg hc45, if_neg hc51, if_pos hc15, if_pos hc3, if_pos hc33]), N0, rfl⟩
        · refine own_fs (XS.icmpYes X0.here hx rfl (pc0 := 33) (pc' := 54) rfl (hb hby own_d3_33) rfl (XT.ii_le_t hc33) (by decide) (by decide) (Steps.refl _)) ?_
          show own_G p.tables e below _ (s₁.setTop (mkF m 54 #[.val (.int p1)] []))
          refine own_fs (XS.iconst X0.here hx rfl (hb hby own_d3_54) (Steps.refl _)) ?_
          show own_G p.tables e below _ (s₁.setTop (mkF m 55 #[.val (.int p1)] [(.int (1 : Int32))]))
          refine own_fs (XS.goto X0.here hx rfl (pc0 := 55) (pc' := 59) rfl (hb hby own_d3_55) (by decide) (by decide) (Steps.refl _)) ?_
          show own_G p.tables e below _ (s₁.setTop (mkF m 59 #[.val (.int p1)] [(.int (1 : Int32))]))
          exact own_retN X0 hx (t := .boolean) Bd.returns hlk (by simp) (hb hby own_d3_59) (by decide) (by decide) e0 ⟨(by simp only [own_valid, own_nar0, own_nar1, if_neg hc27, if_neg hc33, if_pos hc15, if_pos hc3]), N0, rfl⟩
    · refine own_fs (XS.icmpNo X0.here hx rfl (hb hby own_d3_15) rfl (XT.ii_lt_f hc15) (Steps.refl _)) ?_
      show own_G p.tables e below _ (s₁.setTop (mkF m 18 #[.val (.int p1)] []))
      refine own_fs (XS.iloadN X0.here hx rfl (hb hby own_d3_18) rfl (Steps.refl _)) ?_
      show own_G p.tables e below _ (s₁.setTop (mkF m 19 #[.val (.int p1)] [(.int p1)]))
      refine own_fs (XS.bipush X0.here hx rfl (hb hby own_d3_19) (Steps.refl _)) ?_
      show own_G p.tables e below _ (s₁.setTop (mkF m 21 #[.val (.int p1)] [(.int (122 : Int32)), (.int p1)]))
      by_cases hc21 : (122 : Int32) < p1
      · refine own_fs (XS.icmpNo X0.here hx rfl (hb hby own_d3_21) rfl (XT.ii_le_f hc21) (Steps.refl _)) ?_
        show own_G p.tables e below _ (s₁.setTop (mkF m 24 #[.val (.int p1)] []))
        refine own_fs (XS.iloadN X0.here hx rfl (hb hby own_d3_24) rfl (Steps.refl _)) ?_
        show own_G p.tables e below _ (s₁.setTop (mkF m 25 #[.val (.int p1)] [(.int p1)]))
        refine own_fs (XS.bipush X0.here hx rfl (hb hby own_d3_25) (Steps.refl _)) ?_
        show own_G p.tables e below _ (s₁.setTop (mkF m 27 #[.val (.int p1)] [(.int (48 : Int32)), (.int p1)]))
        by_cases hc27 : p1 < (48 : Int32)
        · refine own_fs (XS.icmpYes X0.here hx rfl (pc0 := 27) (pc' := 36) rfl (hb hby own_d3_27) rfl (XT.ii_lt_t hc27) (by decide) (by decide) (Steps.refl _)) ?_
          show own_G p.tables e below _ (s₁.setTop (mkF m 36 #[.val (.int p1)] []))
          refine own_fs (XS.iloadN X0.here hx rfl (hb hby own_d3_36) rfl (Steps.refl _)) ?_
          show own_G p.tables e below _ (s₁.setTop (mkF m 37 #[.val (.int p1)] [(.int p1)]))
          refine own_fs (XS.bipush X0.here hx rfl (hb hby own_d3_37) (Steps.refl _)) ?_
          show own_G p.tables e below _ (s₁.setTop (mkF m 39 #[.val (.int p1)] [(.int (46 : Int32)), (.int p1)]))
          by_cases hc39 : p1 = (46 : Int32)
          · refine own_fs (XS.icmpYes X0.here hx rfl (pc0 := 39) (pc' := 54) rfl (hb hby own_d3_39) rfl (XT.ii_eq_t hc39) (by decide) (by decide) (Steps.refl _)) ?_
            show own_G p.tables e below _ (s₁.setTop (mkF m 54 #[.val (.int p1)] []))
            refine own_fs (XS.iconst X0.here hx rfl (hb hby own_d3_54) (Steps.refl _)) ?_
            show own_G p.tables e below _ (s₁.setTop (mkF m 55 #[.val (.int p1)] [(.int (1 : Int32))]))
            refine own_fs (XS.goto X0.here hx rfl (pc0 := 55) (pc' := 59) rfl (hb hby own_d3_55) (by decide) (by decide) (Steps.refl _)) ?_
            show own_G p.tables e below _ (s₁.setTop (mkF m 59 #[.val (.int p1)] [(.int (1 : Int32))]))
            exact own_retN X0 hx (t := .boolean) Bd.returns hlk (by simp) (hb hby own_d3_59) (by decide) (by decide) e0 ⟨(by simp only [own_valid, own_nar0, own_nar1, if_neg hc15, if_pos hc21, if_pos hc27, if_pos hc3, if_pos hc39]), N0, rfl⟩
          · refine own_fs (XS.icmpNo X0.here hx rfl (hb hby own_d3_39) rfl (XT.ii_eq_f hc39) (Steps.refl _)) ?_
            show own_G p.tables e below _ (s₁.setTop (mkF m 42 #[.val (.int p1)] []))
            refine own_fs (XS.iloadN X0.here hx rfl (hb hby own_d3_42) rfl (Steps.refl _)) ?_
            show own_G p.tables e below _ (s₁.setTop (mkF m 43 #[.val (.int p1)] [(.int p1)]))
            refine own_fs (XS.bipush X0.here hx rfl (hb hby own_d3_43) (Steps.refl _)) ?_
            show own_G p.tables e below _ (s₁.setTop (mkF m 45 #[.val (.int p1)] [(.int (95 : Int32)), (.int p1)]))
            by_cases hc45 : p1 = (95 : Int32)
            · refine own_fs (XS.icmpYes X0.here hx rfl (pc0 := 45) (pc' := 54) rfl (hb hby own_d3_45) rfl (XT.ii_eq_t hc45) (by decide) (by decide) (Steps.refl _)) ?_
              show own_G p.tables e below _ (s₁.setTop (mkF m 54 #[.val (.int p1)] []))
              refine own_fs (XS.iconst X0.here hx rfl (hb hby own_d3_54) (Steps.refl _)) ?_
              show own_G p.tables e below _ (s₁.setTop (mkF m 55 #[.val (.int p1)] [(.int (1 : Int32))]))
              refine own_fs (XS.goto X0.here hx rfl (pc0 := 55) (pc' := 59) rfl (hb hby own_d3_55) (by decide) (by decide) (Steps.refl _)) ?_
              show own_G p.tables e below _ (s₁.setTop (mkF m 59 #[.val (.int p1)] [(.int (1 : Int32))]))
              exact own_retN X0 hx (t := .boolean) Bd.returns hlk (by simp) (hb hby own_d3_59) (by decide) (by decide) e0 ⟨(by simp only [own_valid, own_nar0, own_nar1, if_neg hc15, if_neg hc39, if_pos hc21, if_pos hc27, if_pos hc3, if_pos hc45]), N0, rfl⟩
            · refine own_fs (XS.icmpNo X0.here hx rfl (hb hby own_d3_45) rfl (XT.ii_eq_f hc45) (Steps.refl _)) ?_
              show own_G p.tables e below _ (s₁.setTop (mkF m 48 #[.val (.int p1)] []))
              refine own_fs (XS.iloadN X0.here hx rfl (hb hby own_d3_48) rfl (Steps.refl _)) ?_
              show own_G p.tables e below _ (s₁.setTop (mkF m 49 #[.val (.int p1)] [(.int p1)]))
              refine own_fs (XS.bipush X0.here hx rfl (hb hby own_d3_49) (Steps.refl _)) ?_
              show own_G p.tables e below _ (s₁.setTop (mkF m 51 #[.val (.int p1)] [(.int (45 : Int32)), (.int p1)]))
              by_cases hc51 : p1 = (45 : Int32)
              · refine own_fs (XS.icmpNo X0.here hx rfl (hb hby own_d3_51) rfl (XT.ii_ne_f hc51) (Steps.refl _)) ?_
                show own_G p.tables e below _ (s₁.setTop (mkF m 54 #[.val (.int p1)] []))
                refine own_fs (XS.iconst X0.here hx rfl (hb hby own_d3_54) (Steps.refl _)) ?_
                show own_G p.tables e below _ (s₁.setTop (mkF m 55 #[.val (.int p1)] [(.int (1 : Int32))]))
                refine own_fs (XS.goto X0.here hx rfl (pc0 := 55) (pc' := 59) rfl (hb hby own_d3_55) (by decide) (by decide) (Steps.refl _)) ?_
                show own_G p.tables e below _ (s₁.setTop (mkF m 59 #[.val (.int p1)] [(.int (1 : Int32))]))
                exact own_retN X0 hx (t := .boolean) Bd.returns hlk (by simp) (hb hby own_d3_59) (by decide) (by decide) e0 ⟨(by simp only [own_valid, own_nar0, own_nar1, if_neg hc15, if_neg hc39, if_neg hc45, if_pos hc21, if_pos hc27, if_pos hc3, if_pos hc51]), N0, rfl⟩
              · refine own_fs (XS.icmpYes X0.here hx rfl (pc0 := 51) (pc' := 58) rfl (hb hby own_d3_51) rfl (XT.ii_ne_t hc51) (by decide) (by decide) (Steps.refl _)) ?_
                show own_G p.tables e below _ (s₁.setTop (mkF m 58 #[.val (.int p1)] []))
                refine own_fs (XS.iconst X0.here hx rfl (hb hby own_d3_58) (Steps.refl _)) ?_
                show own_G p.tables e below _ (s₁.setTop (mkF m 59 #[.val (.int p1)] [(.int (0 : Int32))]))
                exact own_retN X0 hx (t := .boolean) Bd.returns hlk (by simp) (hb hby own_d3_59) (by decide) (by decide) e0 ⟨(by simp only [own_valid, own_nar0, own_nar1, if_neg hc15, if_neg hc39, if_neg hc45, if_neg hc51, if_pos hc21, if_pos hc27, if_pos hc3]), N0, rfl⟩
        · refine own_fs (XS.icmpNo X0.here hx rfl (hb hby own_d3_27) rfl (XT.ii_lt_f hc27) (Steps.refl _)) ?_
          show own_G p.tables e below _ (s₁.setTop (mkF m 30 #[.val (.int p1)] []))
          refine own_fs (XS.iloadN X0.here hx rfl (hb hby own_d3_30) rfl (Steps.refl _)) ?_
          show own_G p.tables e below _ (s₁.setTop (mkF m 31 #[.val (.int p1)] [(.int p1)]))
          refine own_fs (XS.bipush X0.here hx rfl (hb hby own_d3_31) (Steps.refl _)) ?_
          show own_G p.tables e below _ (s₁.setTop (mkF m 33 #[.val (.int p1)] [(.int (57 : Int32)), (.int p1)]))
          by_cases hc33 : (57 : Int32) < p1
          · refine own_fs (XS.icmpNo X0.here hx rfl (hb hby own_d3_33) rfl (XT.ii_le_f hc33) (Steps.refl _)) ?_
            show own_G p.tables e below _ (s₁.setTop (mkF m 36 #[.val (.int p1)] []))
            refine own_fs (XS.iloadN X0.here hx rfl (hb hby own_d3_36) rfl (Steps.refl _)) ?_
            show own_G p.tables e below _ (s₁.setTop (mkF m 37 #[.val (.int p1)] [(.int p1)]))
            refine own_fs (XS.bipush X0.here hx rfl (hb hby own_d3_37) (Steps.refl _)) ?_
            show own_G p.tables e below _ (s₁.setTop (mkF m 39 #[.val (.int p1)] [(.int (46 : Int32)), (.int p1)]))
            by_cases hc39 : p1 = (46 : Int32)
            · refine own_fs (XS.icmpYes X0.here hx rfl (pc0 := 39) (pc' := 54) rfl (hb hby own_d3_39) rfl (XT.ii_eq_t hc39) (by decide) (by decide) (Steps.refl _)) ?_
              show own_G p.tables e below _ (s₁.setTop (mkF m 54 #[.val (.int p1)] []))
              refine own_fs (XS.iconst X0.here hx rfl (hb hby own_d3_54) (Steps.refl _)) ?_
              show own_G p.tables e below _ (s₁.setTop (mkF m 55 #[.val (.int p1)] [(.int (1 : Int32))]))
              refine own_fs (XS.goto X0.here hx rfl (pc0 := 55) (pc' := 59) rfl (hb hby own_d3_55) (by decide) (by decide) (Steps.refl _)) ?_
              show own_G p.tables e below _ (s₁.setTop (mkF m 59 #[.val (.int p1)] [(.int (1 : Int32))]))
              exact own_retN X0 hx (t := .boolean) Bd.returns hlk (by simp) (hb hby own_d3_59) (by decide) (by decide) e0 ⟨(by simp only [own_valid, own_nar0, own_nar1, if_neg hc15, if_neg hc27, if_pos hc21, if_pos hc3, if_pos hc33, if_pos hc39]), N0, rfl⟩
            · refine own_fs (XS.icmpNo X0.here hx rfl (hb hby own_d3_39) rfl (XT.ii_eq_f hc39) (Steps.refl _)) ?_
              show own_G p.tables e below _ (s₁.setTop (mkF m 42 #[.val (.int p1)] []))
              refine own_fs (XS.iloadN X0.here hx rfl (hb hby own_d3_42) rfl (Steps.refl _)) ?_
              show own_G p.tables e below _ (s₁.setTop (mkF m 43 #[.val (.int p1)] [(.int p1)]))
              refine own_fs (XS.bipush X0.here hx rfl (hb hby own_d3_43) (Steps.refl _)) ?_
              show own_G p.tables e below _ (s₁.setTop (mkF m 45 #[.val (.int p1)] [(.int (95 : Int32)), (.int p1)]))
              by_cases hc45 : p1 = (95 : Int32)
              · refine own_fs (XS.icmpYes X0.here hx rfl (pc0 := 45) (pc' := 54) rfl (hb hby own_d3_45) rfl (XT.ii_eq_t hc45) (by decide) (by decide) (Steps.refl _)) ?_
                show own_G p.tables e below _ (s₁.setTop (mkF m 54 #[.val (.int p1)] []))
                refine own_fs (XS.iconst X0.here hx rfl (hb hby own_d3_54) (Steps.refl _)) ?_
                show own_G p.tables e below _ (s₁.setTop (mkF m 55 #[.val (.int p1)] [(.int (1 : Int32))]))
                refine own_fs (XS.goto X0.here hx rfl (pc0 := 55) (pc' := 59) rfl (hb hby own_d3_55) (by decide) (by decide) (Steps.refl _)) ?_
                show own_G p.tables e below _ (s₁.setTop (mkF m 59 #[.val (.int p1)] [(.int (1 : Int32))]))
                exact own_retN X0 hx (t := .boolean) Bd.returns hlk (by simp) (hb hby own_d3_59) (by decide) (by decide) e0 ⟨(by simp only [own_valid, own_nar0, own_nar1, if_neg hc15, if_neg hc27, if_neg hc39, if_pos hc21, if_pos hc3, if_pos hc33, if_pos hc45]), N0, rfl⟩
              · refine own_fs (XS.icmpNo X0.here hx rfl (hb hby own_d3_45) rfl (XT.ii_eq_f hc45) (Steps.refl _)) ?_
                show own_G p.tables e below _ (s₁.setTop (mkF m 48 #[.val (.int p1)] []))
                refine own_fs (XS.iloadN X0.here hx rfl (hb hby own_d3_48) rfl (Steps.refl _)) ?_
                show own_G p.tables e below _ (s₁.setTop (mkF m 49 #[.val (.int p1)] [(.int p1)]))
                refine own_fs (XS.bipush X0.here hx rfl (hb hby own_d3_49) (Steps.refl _)) ?_
                show own_G p.tables e below _ (s₁.setTop (mkF m 51 #[.val (.int p1)] [(.int (45 : Int32)), (.int p1)]))
                by_cases hc51 : p1 = (45 : Int32)
                · refine own_fs (XS.icmpNo X0.here hx rfl (hb hby own_d3_51) rfl (XT.ii_ne_f hc51) (Steps.refl _)) ?_
                  show own_G p.tables e below _ (s₁.setTop (mkF m 54 #[.val (.int p1)] []))
                  refine own_fs (XS.iconst X0.here hx rfl (hb hby own_d3_54) (Steps.refl _)) ?_
                  show own_G p.tables e below _ (s₁.setTop (mkF m 55 #[.val (.int p1)] [(.int (1 : Int32))]))
                  refine own_fs (XS.goto X0.here hx rfl (pc0 := 55) (pc' := 59) rfl (hb hby own_d3_55) (by decide) (by decide) (Steps.refl _)) ?_
                  show own_G p.tables e below _ (s₁.setTop (mkF m 59 #[.val (.int p1)] [(.int (1 : Int32))]))
                  exact own_retN X0 hx (t := .boolean) Bd.returns hlk (by simp) (hb hby own_d3_59) (by decide) (by decide) e0 ⟨(by simp only [own_valid, own_nar0, own_nar1, if_neg hc15, if_neg hc27, if_neg hc39, if_neg hc45, if_pos hc21, if_pos hc3, if_pos hc33, if_pos hc51]), N0, rfl⟩
                · refine own_fs (XS.icmpYes X0.here hx rfl (pc0 := 51) (pc' := 58) rfl (hb hby own_d3_51) rfl (XT.ii_ne_t hc51) (by decide) (by decide) (Steps.refl _)) ?_
                  show own_G p.tables e below _ (s₁.setTop (mkF m 58 #[.val (.int p1)] []))
                  refine own_fs (XS.iconst X0.here hx rfl (hb hby own_d3_58) (Steps.refl _)) ?_
                  show own_G p.tables e below _ (s₁.setTop (mkF m 59 #[.val (.int p1)] [(.int (0 : Int32))]))
                  exact own_retN X0 hx (t := .boolean) Bd.returns hlk (by simp) (hb hby own_d3_59) (by decide) (by decide) e0 ⟨(by simp only [own_valid, own_nar0, own_nar1, if_neg hc15, if_neg hc27, if_neg hc39, if_neg hc45, if_neg hc51, if_pos hc21, if_pos hc3, if_pos hc33]), N0, rfl⟩
          · refine own_fs (XS.icmpYes X0.here hx rfl (pc0 := 33) (pc' := 54) rfl (hb hby own_d3_33) rfl (XT.ii_le_t hc33) (by decide) (by decide) (Steps.refl _)) ?_
            show own_G p.tables e below _ (s₁.setTop (mkF m 54 #[.val (.int p1)] []))
            refine own_fs (XS.iconst X0.here hx rfl (hb hby own_d3_54) (Steps.refl _)) ?_
            show own_G p.tables e below _ (s₁.setTop (mkF m 55 #[.val (.int p1)] [(.int (1 : Int32))]))
            refine own_fs (XS.goto X0.here hx rfl (pc0 := 55) (pc' := 59) rfl (hb hby own_d3_55) (by decide) (by decide) (Steps.refl _)) ?_
            show own_G p.tables e below _ (s₁.setTop (mkF m 59 #[.val (.int p1)] [(.int (1 : Int32))]))
            exact own_retN X0 hx (t := .boolean) Bd.returns hlk (by simp) (hb hby own_d3_59) (by decide) (by decide) e0 ⟨(by simp only [own_valid, own_nar0, own_nar1, if_neg hc15, if_neg hc27, if_neg hc33, if_pos hc21, if_pos hc3]), N0, rfl⟩
      · refine own_fs (XS.icmpYes X0.here hx rfl (pc0 := 21) (pc' := 54) rfl (hb hby own_d3_21) rfl (XT.ii_le_t hc21) (by decide) (by decide) (Steps.refl _)) ?_
        show own_G p.tables e below _ (s₁.setTop (mkF m 54 #[.val (.int p1)] []))
        refine own_fs (XS.iconst X0.here hx rfl (hb hby own_d3_54) (Steps.refl _)) ?_
        show own_G p.tables e below _ (s₁.setTop (mkF m 55 #[.val (.int p1)] [(.int (1 : Int32))]))
        refine own_fs (XS.goto X0.here hx rfl (pc0 := 55) (pc' := 59) rfl (hb hby own_d3_55) (by decide) (by decide) (Steps.refl _)) ?_
        show own_G p.tables e below _ (s₁.setTop (mkF m 59 #[.val (.int p1)] [(.int (1 : Int32))]))
        exact own_retN X0 hx (t := .boolean) Bd.returns hlk (by simp) (hb hby own_d3_59) (by decide) (by decide) e0 ⟨(by simp only [own_valid, own_nar0, own_nar1, if_neg hc15, if_neg hc21, if_pos hc3]), N0, rfl⟩
  · refine own_fs (XS.icmpNo X0.here hx rfl (hb hby own_d3_3) rfl (XT.ii_lt_f hc3) (Steps.refl _)) ?_
    show own_G p.tables e below _ (s₁.setTop (mkF m 6 #[.val (.int p1)] []))
    refine own_fs (XS.iloadN X0.here hx rfl (hb hby own_d3_6) rfl (Steps.refl _)) ?_
    show own_G p.tables e below _ (s₁.setTop (mkF m 7 #[.val (.int p1)] [(.int p1)]))
    refine own_fs (XS.bipush X0.here hx rfl (hb hby own_d3_7) (Steps.refl _)) ?_
    show own_G p.tables e below _ (s₁.setTop (mkF m 9 #[.val (.int p1)] [(.int (90 : Int32)), (.int p1)]))
    by_cases hc9 : (90 : Int32) < p1
    · refine own_fs (XS.icmpNo X0.here hx rfl (hb hby own_d3_9) rfl (XT.ii_le_f hc9) (Steps.refl _)) ?_
      show own_G p.tables e below _ (s₁.setTop (mkF m 12 #[.val (.int p1)] []))
      refine own_fs (XS.iloadN X0.here hx rfl (hb hby own_d3_12) rfl (Steps.refl _)) ?_
      show own_G p.tables e below _ (s₁.setTop (mkF m 13 #[.val (.int p1)] [(.int p1)]))
      refine own_fs (XS.bipush X0.here hx rfl (hb hby own_d3_13) (Steps.refl _)) ?_
      show own_G p.tables e below _ (s₁.setTop (mkF m 15 #[.val (.int p1)] [(.int (97 : Int32)), (.int p1)]))
      by_cases hc15 : p1 < (97 : Int32)
      · refine own_fs (XS.icmpYes X0.here hx rfl (pc0 := 15) (pc' := 24) rfl (hb hby own_d3_15) rfl (XT.ii_lt_t hc15) (by decide) (by decide) (Steps.refl _)) ?_
        show own_G p.tables e below _ (s₁.setTop (mkF m 24 #[.val (.int p1)] []))
        refine own_fs (XS.iloadN X0.here hx rfl (hb hby own_d3_24) rfl (Steps.refl _)) ?_
        show own_G p.tables e below _ (s₁.setTop (mkF m 25 #[.val (.int p1)] [(.int p1)]))
        refine own_fs (XS.bipush X0.here hx rfl (hb hby own_d3_25) (Steps.refl _)) ?_
        show own_G p.tables e below _ (s₁.setTop (mkF m 27 #[.val (.int p1)] [(.int (48 : Int32)), (.int p1)]))
        by_cases hc27 : p1 < (48 : Int32)
        · refine own_fs (XS.icmpYes X0.here hx rfl (pc0 := 27) (pc' := 36) rfl (hb hby own_d3_27) rfl (XT.ii_lt_t hc27) (by decide) (by decide) (Steps.refl _)) ?_
          show own_G p.tables e below _ (s₁.setTop (mkF m 36 #[.val (.int p1)] []))
          refine own_fs (XS.iloadN X0.here hx rfl (hb hby own_d3_36) rfl (Steps.refl _)) ?_
          show own_G p.tables e below _ (s₁.setTop (mkF m 37 #[.val (.int p1)] [(.int p1)]))
          refine own_fs (XS.bipush X0.here hx rfl (hb hby own_d3_37) (Steps.refl _)) ?_
          show own_G p.tables e below _ (s₁.setTop (mkF m 39 #[.val (.int p1)] [(.int (46 : Int32)), (.int p1)]))
          by_cases hc39 : p1 = (46 : Int32)
          · refine own_fs (XS.icmpYes X0.here hx rfl (pc0 := 39) (pc' := 54) rfl (hb hby own_d3_39) rfl (XT.ii_eq_t hc39) (by decide) (by decide) (Steps.refl _)) ?_
            show own_G p.tables e below _ (s₁.setTop (mkF m 54 #[.val (.int p1)] []))
            refine own_fs (XS.iconst X0.here hx rfl (hb hby own_d3_54) (Steps.refl _)) ?_
            show own_G p.tables e below _ (s₁.setTop (mkF m 55 #[.val (.int p1)] [(.int (1 : Int32))]))
            refine own_fs (XS.goto X0.here hx rfl (pc0 := 55) (pc' := 59) rfl (hb hby own_d3_55) (by decide) (by decide) (Steps.refl _)) ?_
            show own_G p.tables e below _ (s₁.setTop (mkF m 59 #[.val (.int p1)] [(.int (1 : Int32))]))
            exact own_retN X0 hx (t := .boolean) Bd.returns hlk (by simp) (hb hby own_d3_59) (by decide) (by decide) e0 ⟨(by simp only [own_valid, own_nar0, own_nar1, if_neg hc3, if_pos hc15, if_pos hc27, if_pos hc39, if_pos hc9]), N0, rfl⟩
          · refine own_fs (XS.icmpNo X0.here hx rfl (hb hby own_d3_39) rfl (XT.ii_eq_f hc39) (Steps.refl _)) ?_
            show own_G p.tables e below _ (s₁.setTop (mkF m 42 #[.val (.int p1)] []))
            refine own_fs (XS.iloadN X0.here hx rfl (hb hby own_d3_42) rfl (Steps.refl _)) ?_
            show own_G p.tables e below _ (s₁.setTop (mkF m 43 #[.val (.int p1)] [(.int p1)]))
            refine own_fs (XS.bipush X0.here hx rfl (hb hby own_d3_43) (Steps.refl _)) ?_
            show own_G p.tables e below _ (s₁.setTop (mkF m 45 #[.val (.int p1)] [(.int (95 : Int32)), (.int p1)]))
            by_cases hc45 : p1 = (95 : Int32)
            · refine own_fs (XS.icmpYes X0.here hx rfl (pc0 := 45) (pc' := 54) rfl (hb hby own_d3_45) rfl (XT.ii_eq_t hc45) (by decide) (by decide) (Steps.refl _)) ?_
              show own_G p.tables e below _ (s₁.setTop (mkF m 54 #[.val (.int p1)] []))
              refine own_fs (XS.iconst X0.here hx rfl (hb hby own_d3_54) (Steps.refl _)) ?_
              show own_G p.tables e below _ (s₁.setTop (mkF m 55 #[.val (.int p1)] [(.int (1 : Int32))]))
              refine own_fs (XS.goto X0.here hx rfl (pc0 := 55) (pc' := 59) rfl (hb hby own_d3_55) (by decide) (by decide) (Steps.refl _)) ?_
              show own_G p.tables e below _ (s₁.setTop (mkF m 59 #[.val (.int p1)] [(.int (1 : Int32))]))
              exact own_retN X0 hx (t := .boolean) Bd.returns hlk (by simp) (hb hby own_d3_59) (by decide) (by decide) e0 ⟨(by simp only [own_valid, own_nar0, own_nar1, if_neg hc3, if_neg hc39, if_pos hc15, if_pos hc27, if_pos hc45, if_pos hc9]), N0, rfl⟩
            · refine own_fs (XS.icmpNo X0.here hx rfl (hb hby own_d3_45) rfl (XT.ii_eq_f hc45) (Steps.refl _)) ?_
              show own_G p.tables e below _ (s₁.setTop (mkF m 48 #[.val (.int p1)] []))
              refine own_fs (XS.iloadN X0.here hx rfl (hb hby own_d3_48) rfl (Steps.refl _)) ?_
              show own_G p.tables e below _ (s₁.setTop (mkF m 49 #[.val (.int p1)] [(.int p1)]))
              refine own_fs (XS.bipush X0.here hx rfl (hb hby own_d3_49) (Steps.refl _)) ?_
              show own_G p.tables e below _ (s₁.setTop (mkF m 51 #[.val (.int p1)] [(.int (45 : Int32)), (.int p1)]))
              by_cases hc51 : p1 = (45 : Int32)
              · refine own_fs (XS.icmpNo X0.here hx rfl (hb hby own_d3_51) rfl (XT.ii_ne_f hc51) (Steps.refl _)) ?_
                show own_G p.tables e below _ (s₁.setTop (mkF m 54 #[.val (.int p1)] []))
                refine own_fs (XS.iconst X0.here hx rfl (hb hby own_d3_54) (Steps.refl _)) ?_
                show own_G p.tables e below _ (s₁.setTop (mkF m 55 #[.val (.int p1)] [(.int (1 : Int32))]))
                refine own_fs (XS.goto X0.here hx rfl (pc0 := 55) (pc' := 59) rfl (hb hby own_d3_55) (by decide) (by decide) (Steps.refl _)) ?_
                show own_G p.tables e below _ (s₁.setTop (mkF m 59 #[.val (.int p1)] [(.int (1 : Int32))]))
                exact own_retN X0 hx (t := .boolean) Bd.returns hlk (by simp) (hb hby own_d3_59) (by decide) (by decide) e0 ⟨(by simp only [own_valid, own_nar0, own_nar1, if_neg hc3, if_neg hc39, if_neg hc45, if_pos hc15, if_pos hc27, if_pos hc51, if_pos hc9]), N0, rfl⟩
              · refine own_fs (XS.icmpYes X0.here hx rfl (pc0 := 51) (pc' := 58) rfl (hb hby own_d3_51) rfl (XT.ii_ne_t hc51) (by decide) (by decide) (Steps.refl _)) ?_
                show own_G p.tables e below _ (s₁.setTop (mkF m 58 #[.val (.int p1)] []))
                refine own_fs (XS.iconst X0.here hx rfl (hb hby own_d3_58) (Steps.refl _)) ?_
                show own_G p.tables e below _ (s₁.setTop (mkF m 59 #[.val (.int p1)] [(.int (0 : Int32))]))
                exact own_retN X0 hx (t := .boolean) Bd.returns hlk (by simp) (hb hby own_d3_59) (by decide) (by decide) e0 ⟨(by simp only [own_valid, own_nar0, own_nar1, if_neg hc3, if_neg hc39, if_neg hc45, if_neg hc51, if_pos hc15, if_pos hc27, if_pos hc9]), N0, rfl⟩
        · refine own_fs (XS.icmpNo X0.here hx rfl (hb hby own_d3_27) rfl (XT.ii_lt_f hc27) (Steps.refl _)) ?_
          show own_G p.tables e below _ (s₁.setTop (mkF m 30 #[.val (.int p1)] []))
          refine own_fs (XS.iloadN X0.here hx rfl (hb hby own_d3_30) rfl (Steps.refl _)) ?_
          show own_G p.tables e below _ (s₁.setTop (mkF m 31 #[.val (.int p1)] [(.int p1)]))
          refine own_fs (XS.bipush X0.here hx rfl (hb hby own_d3_31) (Steps.refl _)) ?_
          show own_G p.tables e below _ (s₁.setTop (mkF m 33 #[.val (.int p1)] [(.int (57 : Int32)), (.int p1)]))
          by_cases hc33 : (57 : Int32) < p1
          · refine own_fs (XS.icmpNo X0.here hx rfl (hb hby own_d3_33) rfl (XT.ii_le_f hc33) (Steps.refl _)) ?_
            show own_G p.tables e below _ (s₁.setTop (mkF m 36 #[.val (.int p1)] []))
            refine own_fs (XS.iloadN X0.here hx rfl (hb hby own_d3_36) rfl (Steps.refl _)) ?_
            show own_G p.tables e below _ (s₁.setTop (mkF m 37 #[.val (.int p1)] [(.int p1)]))
            refine own_fs (XS.bipush X0.here hx rfl (hb hby own_d3_37) (Steps.refl _)) ?_
            show own_G p.tables e below _ (s₁.setTop (mkF m 39 #[.val (.int p1)] [(.int (46 : Int32)), (.int p1)]))
            by_cases hc39 : p1 = (46 : Int32)
            · refine own_fs (XS.icmpYes X0.here hx rfl (pc0 := 39) (pc' := 54) rfl (hb hby own_d3_39) rfl (XT.ii_eq_t hc39) (by decide) (by decide) (Steps.refl _)) ?_
              show own_G p.tables e below _ (s₁.setTop (mkF m 54 #[.val (.int p1)] []))
              refine own_fs (XS.iconst X0.here hx rfl (hb hby own_d3_54) (Steps.refl _)) ?_
              show own_G p.tables e below _ (s₁.setTop (mkF m 55 #[.val (.int p1)] [(.int (1 : Int32))]))
              refine own_fs (XS.goto X0.here hx rfl (pc0 := 55) (pc' := 59) rfl (hb hby own_d3_55) (by decide) (by decide) (Steps.refl _)) ?_
              show own_G p.tables e below _ (s₁.setTop (mkF m 59 #[.val (.int p1)] [(.int (1 : Int32))]))
              exact own_retN X0 hx (t := .boolean) Bd.returns hlk (by simp) (hb hby own_d3_59) (by decide) (by decide) e0 ⟨(by simp only [own_valid, own_nar0, own_nar1, if_neg hc27, if_neg hc3, if_pos hc15, if_pos hc33, if_pos hc39, if_pos hc9]), N0, rfl⟩
            · refine own_fs (XS.icmpNo X0.here hx rfl (hb hby own_d3_39) rfl (XT.ii_eq_f hc39) (Steps.refl _)) ?_
              show own_G p.tables e below _ (s₁.setTop (mkF m 42 #[.val (.int p1)] []))
              refine own_fs (XS.iloadN X0.here hx rfl (hb hby own_d3_42) rfl (Steps.refl _)) ?_
              show own_G p.tables e below _ (s₁.setTop (mkF m 43 #[.val (.int p1)] [(.int p1)]))
              refine own_fs (XS.bipush X0.here hx rfl (hb hby own_d3_43) (Steps.refl _)) ?_
              show own_G p.tables e below _ (s₁.setTop (mkF m 45 #[.val (.int p1)] [(.int (95 : Int32)), (.int p1)]))
              by_cases hc45 : p1 = (95 : Int32)
              · refine own_fs (XS.icmpYes X0.here hx rfl (pc0 := 45) (pc' := 54) rfl (hb hby own_d3_45) rfl (XT.ii_eq_t hc45) (by decide) (by decide) (Steps.refl _)) ?_
                show own_G p.tables e below _ (s₁.setTop (mkF m 54 #[.val (.int p1)] []))
                refine own_fs (XS.iconst X0.here hx rfl (hb hby own_d3_54) (Steps.refl _)) ?_
                show own_G p.tables e below _ (s₁.setTop (mkF m 55 #[.val (.int p1)] [(.int (1 : Int32))]))
                refine own_fs (XS.goto X0.here hx rfl (pc0 := 55) (pc' := 59) rfl (hb hby own_d3_55) (by decide) (by decide) (Steps.refl _)) ?_
                show own_G p.tables e below _ (s₁.setTop (mkF m 59 #[.val (.int p1)] [(.int (1 : Int32))]))
                exact own_retN X0 hx (t := .boolean) Bd.returns hlk (by simp) (hb hby own_d3_59) (by decide) (by decide) e0 ⟨(by simp only [own_valid, own_nar0, own_nar1, if_neg hc27, if_neg hc3, if_neg hc39, if_pos hc15, if_pos hc33, if_pos hc45, if_pos hc9]), N0, rfl⟩
              · refine own_fs (XS.icmpNo X0.here hx rfl (hb hby own_d3_45) rfl (XT.ii_eq_f hc45) (Steps.refl _)) ?_
                show own_G p.tables e below _ (s₁.setTop (mkF m 48 #[.val (.int p1)] []))
                refine own_fs (XS.iloadN X0.here hx rfl (hb hby own_d3_48) rfl (Steps.refl _)) ?_
                show own_G p.tables e below _ (s₁.setTop (mkF m 49 #[.val (.int p1)] [(.int p1)]))
                refine own_fs (XS.bipush X0.here hx rfl (hb hby own_d3_49) (Steps.refl _)) ?_
                show own_G p.tables e below _ (s₁.setTop (mkF m 51 #[.val (.int p1)] [(.int (45 : Int32)), (.int p1)]))
                by_cases hc51 : p1 = (45 : Int32)
                · refine own_fs (XS.icmpNo X0.here hx rfl (hb hby own_d3_51) rfl (XT.ii_ne_f hc51) (Steps.refl _)) ?_
                  show own_G p.tables e below _ (s₁.setTop (mkF m 54 #[.val (.int p1)] []))
                  refine own_fs (XS.iconst X0.here hx rfl (hb hby own_d3_54) (Steps.refl _)) ?_
                  show own_G p.tables e below _ (s₁.setTop (mkF m 55 #[.val (.int p1)] [(.int (1 : Int32))]))
                  refine own_fs (XS.goto X0.here hx rfl (pc0 := 55) (pc' := 59) rfl (hb hby own_d3_55) (by decide) (by decide) (Steps.refl _)) ?_
                  show own_G p.tables e below _ (s₁.setTop (mkF m 59 #[.val (.int p1)] [(.int (1 : Int32))]))
                  exact own_retN X0 hx (t := .boolean) Bd.returns hlk (by simp) (hb hby own_d3_59) (by decide) (by decide) e0 ⟨(by simp only [own_valid, own_nar0, own_nar1, if_neg hc27, if_neg hc3, if_neg hc39, if_neg hc45, if_pos hc15, if_pos hc33, if_pos hc51, if_pos hc9]), N0, rfl⟩
                · refine own_fs (XS.icmpYes X0.here hx rfl (pc0 := 51) (pc' := 58) rfl (hb hby own_d3_51) rfl (XT.ii_ne_t hc51) (by decide) (by decide) (Steps.refl _)) ?_
                  show own_G p.tables e below _ (s₁.setTop (mkF m 58 #[.val (.int p1)] []))
                  refine own_fs (XS.iconst X0.here hx rfl (hb hby own_d3_58) (Steps.refl _)) ?_
                  show own_G p.tables e below _ (s₁.setTop (mkF m 59 #[.val (.int p1)] [(.int (0 : Int32))]))
                  exact own_retN X0 hx (t := .boolean) Bd.returns hlk (by simp) (hb hby own_d3_59) (by decide) (by decide) e0 ⟨(by simp only [own_valid, own_nar0, own_nar1, if_neg hc27, if_neg hc3, if_neg hc39, if_neg hc45, if_neg hc51, if_pos hc15, if_pos hc33, if_pos hc9]), N0, rfl⟩
          · refine own_fs (XS.icmpYes X0.here hx rfl (pc0 := 33) (pc' := 54) rfl (hb hby own_d3_33) rfl (XT.ii_le_t hc33) (by decide) (by decide) (Steps.refl _)) ?_
            show own_G p.tables e below _ (s₁.setTop (mkF m 54 #[.val (.int p1)] []))
            refine own_fs (XS.iconst X0.here hx rfl (hb hby own_d3_54) (Steps.refl _)) ?_
            show own_G p.tables e below _ (s₁.setTop (mkF m 55 #[.val (.int p1)] [(.int (1 : Int32))]))
            refine own_fs (XS.goto X0.here hx rfl (pc0 := 55) (pc' := 59) rfl (hb hby own_d3_55) (by decide) (by decide) (Steps.refl _)) ?_
            show own_G p.tables e below _ (s₁.setTop (mkF m 59 #[.val (.int p1)] [(.int (1 : Int32))]))
            exact own_retN X0 hx (t := .boolean) Bd.returns hlk (by simp) (hb hby own_d3_59) (by decide) (by decide) e0 ⟨(by simp only [own_valid, own_nar0, own_nar1, if_neg hc27, if_neg hc3, if_neg hc33, if_pos hc15, if_pos hc9]), N0, rfl⟩
      · refine own_fs (XS.icmpNo X0.here hx rfl (hb hby own_d3_15) rfl (XT.ii_lt_f hc15) (Steps.refl _)) ?_
        show own_G p.tables e below _ (s₁.setTop (mkF m 18 #[.val (.int p1)] []))
        refine own_fs (XS.iloadN X0.here hx rfl (hb hby own_d3_18) rfl (Steps.refl _)) ?_
        show own_G p.tables e below _ (s₁.setTop (mkF m 19 #[.val (.int p1)] [(.int p1)]))
        refine own_fs (XS.bipush X0.here hx rfl (hb hby own_d3_19) (Steps.refl _)) ?_
        show own_G p.tables e below _ (s₁.setTop (mkF m 21 #[.val (.int p1)] [(.int (122 : Int32)), (.int p1)]))
        by_cases hc21 : (122 : Int32) < p1
        · refine own_fs (XS.icmpNo X0.here hx rfl (hb hby own_d3_21) rfl (XT.ii_le_f hc21) (Steps.refl _)) ?_
          show own_G p.tables e below _ (s₁.setTop (mkF m 24 #[.val (.int p1)] []))
          refine own_fs (XS.iloadN X0.here hx rfl (hb hby own_d3_24) rfl (Steps.refl _)) ?_
          show own_G p.tables e below _ (s₁.setTop (mkF m 25 #[.val (.int p1)] [(.int p1)]))
          refine own_fs (XS.bipush X0.here hx rfl (hb hby own_d3_25) (Steps.refl _)) ?_
          show own_G p.tables e below _ (s₁.setTop (mkF m 27 #[.val (.int p1)] [(.int (48 : Int32)), (.int p1)]))
          by_cases hc27 : p1 < (48 : Int32)
          · refine own_fs (XS.icmpYes X0.here hx rfl (pc0 := 27) (pc' := 36) rfl (hb hby own_d3_27) rfl (XT.ii_lt_t hc27) (by decide) (by decide) (Steps.refl _)) ?_
            show own_G p.tables e below _ (s₁.setTop (mkF m 36 #[.val (.int p1)] []))
            refine own_fs (XS.iloadN X0.here hx rfl (hb hby own_d3_36) rfl (Steps.refl _)) ?_
            show own_G p.tables e below _ (s₁.setTop (mkF m 37 #[.val (.int p1)] [(.int p1)]))
            refine own_fs (XS.bipush X0.here hx rfl (hb hby own_d3_37) (Steps.refl _)) ?_
            show own_G p.tables e below _ (s₁.setTop (mkF m 39 #[.val (.int p1)] [(.int (46 : Int32)), (.int p1)]))
            by_cases hc39 : p1 = (46 : Int32)
            · refine own_fs (XS.icmpYes X0.here hx rfl (pc0 := 39) (pc' := 54) rfl (hb hby own_d3_39) rfl (XT.ii_eq_t hc39) (by decide) (by decide) (Steps.refl _)) ?_
              show own_G p.tables e below _ (s₁.setTop (mkF m 54 #[.val (.int p1)] []))
              refine own_fs (XS.iconst X0.here hx rfl (hb hby own_d3_54) (Steps.refl _)) ?_
              show own_G p.tables e below _ (s₁.setTop (mkF m 55 #[.val (.int p1)] [(.int (1 : Int32))]))
              refine own_fs (XS.goto X0.here hx rfl (pc0 := 55) (pc' := 59) rfl (hb hby own_d3_55) (by decide) (by decide) (Steps.refl _)) ?_
              show own_G p.tables e below _ (s₁.setTop (mkF m 59 #[.val (.int p1)] [(.int (1 : Int32))]))
              exact own_retN X0 hx (t := .boolean) Bd.returns hlk (by simp) (hb hby own_d3_59) (by decide) (by decide) e0 ⟨(by simp only [own_valid, own_nar0, own_nar1, if_neg hc15, if_neg hc3, if_pos hc21, if_pos hc27, if_pos hc39, if_pos hc9]), N0, rfl⟩
            · refine own_fs (XS.icmpNo X0.here hx rfl (hb hby own_d3_39) rfl (XT.ii_eq_f hc39) (Steps.refl _)) ?_
              show own_G p.tables e below _ (s₁.setTop (mkF m 42 #[.val (.int p1)] []))
              refine own_fs (XS.iloadN X0.here hx rfl (hb hby own_d3_42) rfl (Steps.refl _)) ?_
              show own_G p.tables e below _ (s₁.setTop (mkF m 43 #[.val (.int p1)] [(.int p1)]))
              refine own_fs (XS.bipush X0.here hx rfl (hb hby own_d3_43) (Steps.refl _)) ?_
              show own_G p.tables e below _ (s₁.setTop (mkF m 45 #[.val (.int p1)] [(.int (95 : Int32)), (.int p1)]))
              by_cases hc45 : p1 = (95 : Int32)
              · refine own_fs (XS.icmpYes X0.here hx rfl (pc0 := 45) (pc' := 54) rfl (hb hby own_d3_45) rfl (XT.ii_eq_t hc45) (by decide) (by decide) (Steps.refl _)) ?_
                show own_G p.tables e below _ (s₁.setTop (mkF m 54 #[.val (.int p1)] []))
                refine own_fs (XS.iconst X0.here hx rfl (hb hby own_d3_54) (Steps.refl _)) ?_
                show own_G p.tables e below _ (s₁.setTop (mkF m 55 #[.val (.int p1)] [(.int (1 : Int32))]))
                refine own_fs (XS.goto X0.here hx rfl (pc0 := 55) (pc' := 59) rfl (hb hby own_d3_55) (by decide) (by decide) (Steps.refl _)) ?_
                show own_G p.tables e below _ (s₁.setTop (mkF m 59 #[.val (.int p1)] [(.int (1 : Int32))]))
                exact own_retN X0 hx (t := .boolean) Bd.returns hlk (by simp) (hb hby own_d3_59) (by decide) (by decide) e0 ⟨(by simp only [own_valid, own_nar0, own_nar1, if_neg hc15, if_neg hc3, if_neg hc39, if_pos hc21, if_pos hc27, if_pos hc45, if_pos hc9]), N0, rfl⟩
              · refine own_fs (XS.icmpNo X0.here hx rfl (hb hby own_d3_45) rfl (XT.ii_eq_f hc45) (Steps.refl _)) ?_
                show own_G p.tables e below _ (s₁.setTop (mkF m 48 #[.val (.int p1)] []))
                refine own_fs (XS.iloadN X0.here hx rfl (hb hby own_d3_48) rfl (Steps.refl _)) ?_
                show own_G p.tables e below _ (s₁.setTop (mkF m 49 #[.val (.int p1)] [(.int p1)]))
                refine own_fs (XS.bipush X0.here hx rfl (hb hby own_d3_49) (Steps.refl _)) ?_
                show own_G p.tables e below _ (s₁.setTop (mkF m 51 #[.val (.int p1)] [(.int (45 : Int32)), (.int p1)]))
                by_cases hc51 : p1 = (45 : Int32)
                · refine own_fs (XS.icmpNo X0.here hx rfl (hb hby own_d3_51) rfl (XT.ii_ne_f hc51) (Steps.refl _)) ?_
                  show own_G p.tables e below _ (s₁.setTop (mkF m 54 #[.val (.int p1)] []))
                  refine own_fs (XS.iconst X0.here hx rfl (hb hby own_d3_54) (Steps.refl _)) ?_
                  show own_G p.tables e below _ (s₁.setTop (mkF m 55 #[.val (.int p1)] [(.int (1 : Int32))]))
                  refine own_fs (XS.goto X0.here hx rfl (pc0 := 55) (pc' := 59) rfl (hb hby own_d3_55) (by decide) (by decide) (Steps.refl _)) ?_
                  show own_G p.tables e below _ (s₁.setTop (mkF m 59 #[.val (.int p1)] [(.int (1 : Int32))]))
                  exact own_retN X0 hx (t := .boolean) Bd.returns hlk (by simp) (hb hby own_d3_59) (by decide) (by decide) e0 ⟨(by simp only [own_valid, own_nar0, own_nar1, if_neg hc15, if_neg hc3, if_neg hc39, if_neg hc45, if_pos hc21, if_pos hc27, if_pos hc51, if_pos hc9]), N0, rfl⟩
                · refine own_fs (XS.icmpYes X0.here hx rfl (pc0 := 51) (pc' := 58) rfl (hb hby own_d3_51) rfl (XT.ii_ne_t hc51) (by decide) (by decide) (Steps.refl _)) ?_
                  show own_G p.tables e below _ (s₁.setTop (mkF m 58 #[.val (.int p1)] []))
                  refine own_fs (XS.iconst X0.here hx rfl (hb hby own_d3_58) (Steps.refl _)) ?_
                  show own_G p.tables e below _ (s₁.setTop (mkF m 59 #[.val (.int p1)] [(.int (0 : Int32))]))
                  exact own_retN X0 hx (t := .boolean) Bd.returns hlk (by simp) (hb hby own_d3_59) (by decide) (by decide) e0 ⟨(by simp only [own_valid, own_nar0, own_nar1, if_neg hc15, if_neg hc3, if_neg hc39, if_neg hc45, if_neg hc51, if_pos hc21, if_pos hc27, if_pos hc9]), N0, rfl⟩
          · refine own_fs (XS.icmpNo X0.here hx rfl (hb hby own_d3_27) rfl (XT.ii_lt_f hc27) (Steps.refl _)) ?_
            show own_G p.tables e below _ (s₁.setTop (mkF m 30 #[.val (.int p1)] []))
            refine own_fs (XS.iloadN X0.here hx rfl (hb hby own_d3_30) rfl (Steps.refl _)) ?_
            show own_G p.tables e below _ (s₁.setTop (mkF m 31 #[.val (.int p1)] [(.int p1)]))
            refine own_fs (XS.bipush X0.here hx rfl (hb hby own_d3_31) (Steps.refl _)) ?_
            show own_G p.tables e below _ (s₁.setTop (mkF m 33 #[.val (.int p1)] [(.int (57 : Int32)), (.int p1)]))
            by_cases hc33 : (57 : Int32) < p1
            · refine own_fs (XS.icmpNo X0.here hx rfl (hb hby own_d3_33) rfl (XT.ii_le_f hc33) (Steps.refl _)) ?_
              show own_G p.tables e below _ (s₁.setTop (mkF m 36 #[.val (.int p1)] []))
              refine own_fs (XS.iloadN X0.here hx rfl (hb hby own_d3_36) rfl (Steps.refl _)) ?_
              show own_G p.tables e below _ (s₁.setTop (mkF m 37 #[.val (.int p1)] [(.int p1)]))
              refine own_fs (XS.bipush X0.here hx rfl (hb hby own_d3_37) (Steps.refl _)) ?_
              show own_G p.tables e below _ (s₁.setTop (mkF m 39 #[.val (.int p1)] [(.int (46 : Int32)), (.int p1)]))
              by_cases hc39 : p1 = (46 : Int32)
              · refine own_fs (XS.icmpYes X0.here hx rfl (pc0 := 39) (pc' := 54) rfl (hb hby own_d3_39) rfl (XT.ii_eq_t hc39) (by decide) (by decide) (Steps.refl _)) ?_
                show own_G p.tables e below _ (s₁.setTop (mkF m 54 #[.val (.int p1)] []))
                refine own_fs (XS.iconst X0.here hx rfl (hb hby own_d3_54) (Steps.refl _)) ?_
                show own_G p.tables e below _ (s₁.setTop (mkF m 55 #[.val (.int p1)] [(.int (1 : Int32))]))
                refine own_fs (XS.goto X0.here hx rfl (pc0 := 55) (pc' := 59) rfl (hb hby own_d3_55) (by decide) (by decide) (Steps.refl _)) ?_
                show own_G p.tables e below _ (s₁.setTop (mkF m 59 #[.val (.int p1)] [(.int (1 : Int32))]))
                exact own_retN X0 hx (t := .boolean) Bd.returns hlk (by simp) (hb hby own_d3_59) (by decide) (by decide) e0 ⟨(by simp only [own_valid, own_nar0, own_nar1, if_neg hc15, if_neg hc27, if_neg hc3, if_pos hc21, if_pos hc33, if_pos hc39, if_pos hc9]), N0, rfl⟩
              · refine own_fs (XS.icmpNo X0.here hx rfl (hb hby own_d3_39) rfl (XT.ii_eq_f hc39) (Steps.refl _)) ?_
                show own_G p.tables e below _ (s₁.setTop (mkF m 42 #[.val (.int p1)] []))
                refine own_fs (XS.iloadN X0.here hx rfl (hb hby own_d3_42) rfl (Steps.refl _)) ?_
                show own_G p.tables e below _ (s₁.setTop (mkF m 43 #[.val (.int p1)] [(.int p1)]))
                refine own_fs (XS.bipush X0.here hx rfl (hb hby own_d3_43) (Steps.refl _)) ?_
                show own_G p.tables e below _ (s₁.setTop (mkF m 45 #[.val (.int p1)] [(.int (95 : Int32)), (.int p1)]))
                by_cases hc45 : p1 = (95 : Int32)
                · refine own_fs (XS.icmpYes X0.here hx rfl (pc0 := 45) (pc' := 54) rfl (hb hby own_d3_45) rfl (XT.ii_eq_t hc45) (by decide) (by decide) (Steps.refl _)) ?_
                  show own_G p.tables e below _ (s₁.setTop (mkF m 54 #[.val (.int p1)] []))
                  refine own_fs (XS.iconst X0.here hx rfl (hb hby own_d3_54) (Steps.refl _)) ?_
                  show own_G p.tables e below _ (s₁.setTop (mkF m 55 #[.val (.int p1)] [(.int (1 : Int32))]))
                  refine own_fs (XS.goto X0.here hx rfl (pc0 := 55) (pc' := 59) rfl (hb hby own_d3_55) (by decide) (by decide) (Steps.refl _)) ?_
                  show own_G p.tables e below _ (s₁.setTop (mkF m 59 #[.val (.int p1)] [(.int (1 : Int32))]))
                  exact own_retN X0 hx (t := .boolean) Bd.returns hlk (by simp) (hb hby own_d3_59) (by decide) (by decide) e0 ⟨(by simp only [own_valid, own_nar0, own_nar1, if_neg hc15, if_neg hc27, if_neg hc3, if_neg hc39, if_pos hc21, if_pos hc33, if_pos hc45, if_pos hc9]), N0, rfl⟩
                · refine own_fs (XS.icmpNo X0.here hx rfl (hb hby own_d3_45) rfl (XT.ii_eq_f hc45) (Steps.refl _)) ?_
                  show own_G p.tables e below _ (s₁.setTop (mkF m 48 #[.val (.int p1)] []))
                  refine own_fs (XS.iloadN X0.here hx rfl (hb hby own_d3_48) rfl (Steps.refl _)) ?_
                  show own_G p.tables e below _ (s₁.setTop (mkF m 49 #[.val (.int p1)] [(.int p1)]))
                  refine own_fs (XS.bipush X0.here hx rfl (hb hby own_d3_49) (Steps.refl _)) ?_
                  show own_G p.tables e below _ (s₁.setTop (mkF m 51 #[.val (.int p1)] [(.int (45 : Int32)), (.int p1)]))
                  by_cases hc51 : p1 = (45 : Int32)
                  · refine own_fs (XS.icmpNo X0.here hx rfl (hb hby own_d3_51) rfl (XT.ii_ne_f hc51) (Steps.refl _)) ?_
                    show own_G p.tables e below _ (s₁.setTop (mkF m 54 #[.val (.int p1)] []))
                    refine own_fs (XS.iconst X0.here hx rfl (hb hby own_d3_54) (Steps.refl _)) ?_
                    show own_G p.tables e below _ (s₁.setTop (mkF m 55 #[.val (.int p1)] [(.int (1 : Int32))]))
                    refine own_fs (XS.goto X0.here hx rfl (pc0 := 55) (pc' := 59) rfl (hb hby own_d3_55) (by decide) (by decide) (Steps.refl _)) ?_
                    show own_G p.tables e below _ (s₁.setTop (mkF m 59 #[.val (.int p1)] [(.int (1 : Int32))]))
                    exact own_retN X0 hx (t := .boolean) Bd.returns hlk (by simp) (hb hby own_d3_59) (by decide) (by decide) e0 ⟨(by simp only [own_valid, own_nar0, own_nar1, if_neg hc15, if_neg hc27, if_neg hc3, if_neg hc39, if_neg hc45, if_pos hc21, if_pos hc33, if_pos hc51, if_pos hc9]), N0, rfl⟩
                  · refine own_fs (XS.icmpYes X0.here hx rfl (pc0 := 51) (pc' := 58) rfl (hb hby own_d3_51) rfl (XT.ii_ne_t hc51) (by decide) (by decide) (Steps.refl _)) ?_
                    show own_G p.tables e below _ (s₁.setTop (mkF m 58 #[.val (.int p1)] []))
                    refine own_fs (XS.iconst X0.here hx rfl (hb hby own_d3_58) (Steps.refl _)) ?_
                    show own_G p.tables e below _ (s₁.setTop (mkF m 59 #[.val (.int p1)] [(.int (0 : Int32))]))
                    exact own_retN X0 hx (t := .boolean) Bd.returns hlk (by simp) (hb hby own_d3_59) (by decide) (by decide) e0 ⟨(by simp only [own_valid, own_nar0, own_nar1, if_neg hc15, if_neg hc27, if_neg hc3, if_neg hc39, if_neg hc45, if_neg hc51, if_pos hc21, if_pos hc33, if_pos hc9]), N0, rfl⟩
            · refine own_fs (XS.icmpYes X0.here hx rfl (pc0 := 33) (pc' := 54) rfl (hb hby own_d3_33) rfl (XT.ii_le_t hc33) (by decide) (by decide) (Steps.refl _)) ?_
              show own_G p.tables e below _ (s₁.setTop (mkF m 54 #[.val (.int p1)] []))
              refine own_fs (XS.iconst X0.here hx rfl (hb hby own_d3_54) (Steps.refl _)) ?_
              show own_G p.tables e below _ (s₁.setTop (mkF m 55 #[.val (.int p1)] [(.int (1 : Int32))]))
              refine own_fs (XS.goto X0.here hx rfl (pc0 := 55) (pc' := 59) rfl (hb hby own_d3_55) (by decide) (by decide) (Steps.refl _)) ?_
              show own_G p.tables e below _ (s₁.setTop (mkF m 59 #[.val (.int p1)] [(.int (1 : Int32))]))
              exact own_retN X0 hx (t := .boolean) Bd.returns hlk (by simp) (hb hby own_d3_59) (by decide) (by decide) e0 ⟨(by simp only [own_valid, own_nar0, own_nar1, if_neg hc15, if_neg hc27, if_neg hc3, if_neg hc33, if_pos hc21, if_pos hc9]), N0, rfl⟩
        · refine own_fs (XS.icmpYes X0.here hx rfl (pc0 := 21) (pc' := 54) rfl (hb hby own_d3_21) rfl (XT.ii_le_t hc21) (by decide) (by decide) (Steps.refl _)) ?_
          show own_G p.tables e below _ (s₁.setTop (mkF m 54 #[.val (.int p1)] []))
          refine own_fs (XS.iconst X0.here hx rfl (hb hby own_d3_54) (Steps.refl _)) ?_
          show own_G p.tables e below _ (s₁.setTop (mkF m 55 #[.val (.int p1)] [(.int (1 : Int32))]))
          refine own_fs (XS.goto X0.here hx rfl (pc0 := 55) (pc' := 59) rfl (hb hby own_d3_55) (by decide) (by decide) (Steps.refl _)) ?_
          show own_G p.tables e below _ (s₁.setTop (mkF m 59 #[.val (.int p1)] [(.int (1 : Int32))]))
          exact own_retN X0 hx (t := .boolean) Bd.returns hlk (by simp) (hb hby own_d3_59) (by decide) (by decide) e0 ⟨(by simp only [own_valid, own_nar0, own_nar1, if_neg hc15, if_neg hc21, if_neg hc3, if_pos hc9]), N0, rfl⟩
    · refine own_fs (XS.icmpYes X0.here hx rfl (pc0 := 9) (pc' := 54) rfl (hb hby own_d3_9) rfl (XT.ii_le_t hc9) (by decide) (by decide) (Steps.refl _)) ?_
      show own_G p.tables e below _ (s₁.setTop (mkF m 54 #[.val (.int p1)] []))
      refine own_fs (XS.iconst X0.here hx rfl (hb hby own_d3_54) (Steps.refl _)) ?_
      show own_G p.tables e below _ (s₁.setTop (mkF m 55 #[.val (.int p1)] [(.int (1 : Int32))]))
      refine own_fs (XS.goto X0.here hx rfl (pc0 := 55) (pc' := 59) rfl (hb hby own_d3_55) (by decide) (by decide) (Steps.refl _)) ?_
      show own_G p.tables e below _ (s₁.setTop (mkF m 59 #[.val (.int p1)] [(.int (1 : Int32))]))
      exact own_retN X0 hx (t := .boolean) Bd.returns hlk (by simp) (hb hby own_d3_59) (by decide) (by decide) e0 ⟨(by simp only [own_valid, own_nar0, own_nar1, if_neg hc3, if_neg hc9]), N0, rfl⟩
theorem own_rinside_ef (m : MethodId) (x0 : Int32) (x1 : Int32) (x2 : Int32) : entryFrame m #[(.int x0), (.int x1), (.int x2)] 3 = mkF m 0 #[.val (.int x0), .val (.int x1), .val (.int x2)] [] := by first | (simp [entryFrame, mkF, argsToLocals, Value.category]; done) | rfl
def own_rinside_Q (Z : State) (p1 : Int32) (p2 : Int32) (p3 : Int32) (h0 : Heap) (n0 : Nat) (v : Option Value) (h : Heap) (L : List Loc) : Prop := (v = some (.int (own_inside p1 p2 p3)) ∧ Fr n0 L ∧ h = h0)
set_option maxRecDepth 65536 in
set_option maxHeartbeats 40000000 in
theorem own_rinside (l : Launch) (Z : State) (a0 : Array Value) (hw : ∀ d ∈ tables_1, d.before a0 Z = true) (ws : List Jvm.Cond) (p1 : Int32) (p2 : Int32) (p3 : Int32) (h0 : Heap) (n0 : Nat) (Z0 : n0 ≤ h0.size)  :
    MetFree l (⟨"convoke/model/TokensIsTokenPinLaw", "inside", "(III)Z"⟩ : MethodName) (head1 (Jvm.Cond.code (⟨"convoke/model/TokensIsTokenPinLaw", "inside", "(III)Z"⟩ : MethodName) method_3_code 3 (some .boolean) :: ws) ({ frames := 0, cells := 0, slots := 0, locals := 0 } : Room)) (fun a U => a = #[(.int p1), (.int p2), (.int p3)] ∧ Z.Warmed39 U.vm ∧ U.heap = h0) (fun _ _ _ _ _ => True) (fun _ U o U' => ∃ v L, o = .returned v ∧ own_rinside_Q Z p1 p2 p3 h0 n0 v U'.heap L ∧ FrameEnd U o U' L ({ frames := 0, cells := 0, slots := 0, locals := 0 } : Room).cells ({ frames := 0, cells := 0, slots := 0, locals := 0 } : Room).slots) := by
  refine MetFree.of_bodySF (plainFor_of_name own_pn0) hisR ?_
  intro p e s m args below meth c s₁ Bd hml0 hP hK
  obtain ⟨rfl, hZ, hh⟩ := hP
  have hx := Bd.exec
  have hby := Bd.bytes
  have hlk : meth.locks = false := BodyLoose.notSynchronized Bd
  have hml : c.maxLocals = 3 := hml0
  have hown : s.vm.findClass "convoke/model/TokensIsTokenPinLaw" = some m.cls := findClass_of_methodNamed Bd.named
  have hnm := (name_of_methodNamed Bd.named Bd.method).1
  have X0 : Stand p l e ({ frames := 0, cells := 0, slots := 0, locals := 0 } : Room) s m #[(.int p1), (.int p2), (.int p3)] below meth c s₁ [] 0 0 := Stand.of_body Bd
  have e0 : s₁.heap = h0 := by rw [← hh, Bd.state]; rfl
  have N0 := Fr.nil n0
  refine own_start (QQ := own_rinside_Q Z p1 p2 p3 h0 n0) (rc := ({ frames := 0, cells := 0, slots := 0, locals := 0 } : Room).cells) (rs := ({ frames := 0, cells := 0, slots := 0, locals := 0 } : Room).slots) (own_rinside_ef m p1 p2 p3 ) ?_
  show own_G p.tables e below _ (s₁.setTop (mkF m 0 #[.val (.int p1), .val (.int p2), .val (.int p3)] []))
  refine own_fs (XS.iloadN X0.here hx rfl (hb hby own_d2_0) rfl (Steps.refl _)) ?_
  show own_G p.tables e below _ (s₁.setTop (mkF m 1 #[.val (.int p1), .val (.int p2), .val (.int p3)] [(.int p1)]))
  refine own_fs (XS.iloadN X0.here hx rfl (hb hby own_d2_1) rfl (Steps.refl _)) ?_
  show own_G p.tables e below _ (s₁.setTop (mkF m 2 #[.val (.int p1), .val (.int p2), .val (.int p3)] [(.int p2), (.int p1)]))
  by_cases hc2 : p1 < p2
  · refine own_fs (XS.icmpYes X0.here hx rfl (pc0 := 2) (pc' := 16) rfl (hb hby own_d2_2) rfl (XT.ii_lt_t hc2) (by decide) (by decide) (Steps.refl _)) ?_
    show own_G p.tables e below _ (s₁.setTop (mkF m 16 #[.val (.int p1), .val (.int p2), .val (.int p3)] []))
    refine own_fs (XS.iconst X0.here hx rfl (hb hby own_d2_16) (Steps.refl _)) ?_
    show own_G p.tables e below _ (s₁.setTop (mkF m 17 #[.val (.int p1), .val (.int p2), .val (.int p3)] [(.int (0 : Int32))]))
    exact own_retN X0 hx (t := .boolean) Bd.returns hlk (by simp) (hb hby own_d2_17) (by decide) (by decide) e0 ⟨(by simp only [own_inside, own_nar0, own_nar1, if_pos hc2]), N0, rfl⟩
  · refine own_fs (XS.icmpNo X0.here hx rfl (hb hby own_d2_2) rfl (XT.ii_lt_f hc2) (Steps.refl _)) ?_
    show own_G p.tables e below _ (s₁.setTop (mkF m 5 #[.val (.int p1), .val (.int p2), .val (.int p3)] []))
    refine own_fs (XS.iloadN X0.here hx rfl (hb hby own_d2_5) rfl (Steps.refl _)) ?_
    show own_G p.tables e below _ (s₁.setTop (mkF m 6 #[.val (.int p1), .val (.int p2), .val (.int p3)] [(.int p1)]))
    refine own_fs (XS.iloadN X0.here hx rfl (hb hby own_d2_6) rfl (Steps.refl _)) ?_
    show own_G p.tables e below _ (s₁.setTop (mkF m 7 #[.val (.int p1), .val (.int p2), .val (.int p3)] [(.int p2), (.int p1)]))
    refine own_fs (XS.iloadN X0.here hx rfl (hb hby own_d2_7) rfl (Steps.refl _)) ?_
    show own_G p.tables e below _ (s₁.setTop (mkF m 8 #[.val (.int p1), .val (.int p2), .val (.int p3)] [(.int p3), (.int p2), (.int p1)]))
    refine own_fs (XS.iadd X0.here hx rfl (hb hby own_d2_8) rfl (Steps.refl _)) ?_
    show own_G p.tables e below _ (s₁.setTop (mkF m 9 #[.val (.int p1), .val (.int p2), .val (.int p3)] [(.int (p2 + p3)), (.int p1)]))
    by_cases hc9 : p1 < (p2 + p3)
    · refine own_fs (XS.icmpNo X0.here hx rfl (hb hby own_d2_9) rfl (XT.ii_ge_f hc9) (Steps.refl _)) ?_
      show own_G p.tables e below _ (s₁.setTop (mkF m 12 #[.val (.int p1), .val (.int p2), .val (.int p3)] []))
      refine own_fs (XS.iconst X0.here hx rfl (hb hby own_d2_12) (Steps.refl _)) ?_
      show own_G p.tables e below _ (s₁.setTop (mkF m 13 #[.val (.int p1), .val (.int p2), .val (.int p3)] [(.int (1 : Int32))]))
      refine own_fs (XS.goto X0.here hx rfl (pc0 := 13) (pc' := 17) rfl (hb hby own_d2_13) (by decide) (by decide) (Steps.refl _)) ?_
      show own_G p.tables e below _ (s₁.setTop (mkF m 17 #[.val (.int p1), .val (.int p2), .val (.int p3)] [(.int (1 : Int32))]))
      exact own_retN X0 hx (t := .boolean) Bd.returns hlk (by simp) (hb hby own_d2_17) (by decide) (by decide) e0 ⟨(by simp only [own_inside, own_nar0, own_nar1, if_neg hc2, if_pos hc9]), N0, rfl⟩
    · refine own_fs (XS.icmpYes X0.here hx rfl (pc0 := 9) (pc' := 16) rfl (hb hby own_d2_9) rfl (XT.ii_ge_t hc9) (by decide) (by decide) (Steps.refl _)) ?_
      show own_G p.tables e below _ (s₁.setTop (mkF m 16 #[.val (.int p1), .val (.int p2), .val (.int p3)] []))
      refine own_fs (XS.iconst X0.here hx rfl (hb hby own_d2_16) (Steps.refl _)) ?_
      show own_G p.tables e below _ (s₁.setTop (mkF m 17 #[.val (.int p1), .val (.int p2), .val (.int p3)] [(.int (0 : Int32))]))
      exact own_retN X0 hx (t := .boolean) Bd.returns hlk (by simp) (hb hby own_d2_17) (by decide) (by decide) e0 ⟨(by simp only [own_inside, own_nar0, own_nar1, if_neg hc2, if_neg hc9]), N0, rfl⟩
theorem own_rtok_ef (m : MethodId) (x0 : Addr) (x1 : Int32) (x2 : Int32) : entryFrame m #[(.ref x0), (.int x1), (.int x2)] 5 = mkF m 0 #[.val (.ref x0), .val (.int x1), .val (.int x2), .unset, .unset] [] := by first | (simp [entryFrame, mkF, argsToLocals, Value.category]; done) | rfl
def own_rtok_Q (Z : State) (a1 : Addr) (p1 : Int32) (p2 : Int32) (ac : Cell) (gg : Nat → Int32) (tb : Addr) (tc : Cell) (h0 : Heap) (n0 : Nat) (v : Option Value) (h : Heap) (L : List Loc) : Prop := (v = some (.int (own_tok gg p1 p2)) ∧ Fr n0 L ∧ h = h0)
set_option maxRecDepth 65536 in
set_option maxHeartbeats 40000000 in
theorem own_rtok (l : Launch) (Z : State) (a0 : Array Value) (hw : ∀ d ∈ tables_1, d.before a0 Z = true) (ws : List Jvm.Cond) (a1 : Addr) (p1 : Int32) (p2 : Int32) (ac : Cell) (gg : Nat → Int32) (tb : Addr) (tc : Cell) (h0 : Heap) (n0 : Nat) (Z0 : n0 ≤ h0.size) (hA : Arr Z h0 a1 ac .byte) (hsz : ac.slots.size = 68) (hg : ∀ i, i < 68 → ac.slots[i]? = some (.int (gg i))) (hgb : ∀ i, (gg i).toInt < 128) (hS_TOKEN_CHARACTERS : Sta Z h0 "convoke/model/Tokens" "TOKEN_CHARACTERS" "[Z" (.ref tb)) (hTA : Arr Z h0 tb tc .boolean) (hT : own_T tc) (hoff : ¬ p1 < 0 ∧ p1.toInt ≤ 4) :
    MetFree l (⟨"convoke/model/Tokens", "isToken", "([BII)Z"⟩ : MethodName) (head1 (Jvm.Cond.code (⟨"convoke/model/Tokens", "isToken", "([BII)Z"⟩ : MethodName) prog_27_method_3_code 5 (some .boolean) :: ws) ({ frames := 0, cells := 0, slots := 0, locals := 0 } : Room)) (fun a U => a = #[(.ref a1), (.int p1), (.int p2)] ∧ Z.Warmed39 U.vm ∧ U.heap = h0) (fun _ _ _ _ _ => True) (fun _ U o U' => ∃ v L, o = .returned v ∧ own_rtok_Q Z a1 p1 p2 ac gg tb tc h0 n0 v U'.heap L ∧ FrameEnd U o U' L ({ frames := 0, cells := 0, slots := 0, locals := 0 } : Room).cells ({ frames := 0, cells := 0, slots := 0, locals := 0 } : Room).slots) := by
  refine MetFree.of_bodySF (plainFor_of_name own_pn1) hisR ?_
  intro p e s m args below meth c s₁ Bd hml0 hP hK
  obtain ⟨rfl, hZ, hh⟩ := hP
  have hx := Bd.exec
  have hby := Bd.bytes
  have hlk : meth.locks = false := BodyLoose.notSynchronized Bd
  have hml : c.maxLocals = 5 := hml0
  have hown : s.vm.findClass "convoke/model/Tokens" = some m.cls := findClass_of_methodNamed Bd.named
  have hnm := (name_of_methodNamed Bd.named Bd.method).1
  have X0 : Stand p l e ({ frames := 0, cells := 0, slots := 0, locals := 0 } : Room) s m #[(.ref a1), (.int p1), (.int p2)] below meth c s₁ [] 0 0 := Stand.of_body Bd
  have e0 : s₁.heap = h0 := by rw [← hh, Bd.state]; rfl
  have N0 := Fr.nil n0
  refine own_start (QQ := own_rtok_Q Z a1 p1 p2 ac gg tb tc h0 n0) (rc := ({ frames := 0, cells := 0, slots := 0, locals := 0 } : Room).cells) (rs := ({ frames := 0, cells := 0, slots := 0, locals := 0 } : Room).slots) (own_rtok_ef m a1 p1 p2 ) ?_
  show own_G p.tables e below _ (s₁.setTop (mkF m 0 #[.val (.ref a1), .val (.int p1), .val (.int p2), .unset, .unset] []))
  refine own_fs (XS.iloadN X0.here hx rfl (hb hby own_d1_0) rfl (Steps.refl _)) ?_
  show own_G p.tables e below _ (s₁.setTop (mkF m 1 #[.val (.ref a1), .val (.int p1), .val (.int p2), .unset, .unset] [(.int p2)]))
  refine own_fs (XS.iconst X0.here hx rfl (hb hby own_d1_1) (Steps.refl _)) ?_
  show own_G p.tables e below _ (s₁.setTop (mkF m 2 #[.val (.ref a1), .val (.int p1), .val (.int p2), .unset, .unset] [(.int (1 : Int32)), (.int p2)]))
  by_cases hc2 : p2 < (1 : Int32)
  · refine own_fs (XS.icmpYes X0.here hx rfl (pc0 := 2) (pc' := 11) rfl (hb hby own_d1_2) rfl (XT.ii_lt_t hc2) (by decide) (by decide) (Steps.refl _)) ?_
    show own_G p.tables e below _ (s₁.setTop (mkF m 11 #[.val (.ref a1), .val (.int p1), .val (.int p2), .unset, .unset] []))
    refine own_fs (XS.iconst X0.here hx rfl (hb hby own_d1_11) (Steps.refl _)) ?_
    show own_G p.tables e below _ (s₁.setTop (mkF m 12 #[.val (.ref a1), .val (.int p1), .val (.int p2), .unset, .unset] [(.int (0 : Int32))]))
    exact own_retN X0 hx (t := .boolean) Bd.returns hlk (by simp) (hb hby own_d1_12) (by decide) (by decide) e0 ⟨(by simp only [own_tok, own_nar0, own_nar1, hc2, ↓reduceIte]), N0, rfl⟩
  · refine own_fs (XS.icmpNo X0.here hx rfl (hb hby own_d1_2) rfl (XT.ii_lt_f hc2) (Steps.refl _)) ?_
    show own_G p.tables e below _ (s₁.setTop (mkF m 5 #[.val (.ref a1), .val (.int p1), .val (.int p2), .unset, .unset] []))
    refine own_fs (XS.iloadN X0.here hx rfl (hb hby own_d1_5) rfl (Steps.refl _)) ?_
    show own_G p.tables e below _ (s₁.setTop (mkF m 6 #[.val (.ref a1), .val (.int p1), .val (.int p2), .unset, .unset] [(.int p2)]))
    refine own_fs (XS.bipush X0.here hx rfl (hb hby own_d1_6) (Steps.refl _)) ?_
    show own_G p.tables e below _ (s₁.setTop (mkF m 8 #[.val (.ref a1), .val (.int p1), .val (.int p2), .unset, .unset] [(.int (64 : Int32)), (.int p2)]))
    by_cases hc8 : (64 : Int32) < p2
    · refine own_fs (XS.icmpNo X0.here hx rfl (hb hby own_d1_8) rfl (XT.ii_le_f hc8) (Steps.refl _)) ?_
      show own_G p.tables e below _ (s₁.setTop (mkF m 11 #[.val (.ref a1), .val (.int p1), .val (.int p2), .unset, .unset] []))
      refine own_fs (XS.iconst X0.here hx rfl (hb hby own_d1_11) (Steps.refl _)) ?_
      show own_G p.tables e below _ (s₁.setTop (mkF m 12 #[.val (.ref a1), .val (.int p1), .val (.int p2), .unset, .unset] [(.int (0 : Int32))]))
      exact own_retN X0 hx (t := .boolean) Bd.returns hlk (by simp) (hb hby own_d1_12) (by decide) (by decide) e0 ⟨(by simp only [own_tok, own_nar0, own_nar1, hc2, hc8, ↓reduceIte]), N0, rfl⟩
    · refine own_fs (XS.icmpYes X0.here hx rfl (pc0 := 8) (pc' := 13) rfl (hb hby own_d1_8) rfl (XT.ii_le_t hc8) (by decide) (by decide) (Steps.refl _)) ?_
      show own_G p.tables e below _ (s₁.setTop (mkF m 13 #[.val (.ref a1), .val (.int p1), .val (.int p2), .unset, .unset] []))
      refine own_fs (XS.iloadN X0.here hx rfl (hb hby own_d1_13) rfl (Steps.refl _)) ?_
      show own_G p.tables e below _ (s₁.setTop (mkF m 14 #[.val (.ref a1), .val (.int p1), .val (.int p2), .unset, .unset] [(.int p1)]))
      refine own_fs (XS.istoreN X0.here hx rfl (hb hby own_d1_14) rfl (l' := #[.val (.ref a1), .val (.int p1), .val (.int p2), .val (.int p1), .unset]) rfl (Steps.refl _)) ?_
      have loop : ∀ (k : Nat) (T : State) (i : Int32) (o4 : Slot), Stand p l e ({ frames := 0, cells := 0, slots := 0, locals := 0 } : Room) s m #[(.ref a1), (.int p1), (.int p2)] below meth c T [] 0 0 → T.heap = h0 → One o4 → i.toInt + (k : Int) = p1.toInt + p2.toInt → ¬ i < 0 → own_tok gg p1 p2 = own_scan gg i.toNatClampNeg k → own_G p.tables e below (own_P s (own_rtok_Q Z a1 p1 p2 ac gg tb tc h0 n0) ({ frames := 0, cells := 0, slots := 0, locals := 0 } : Room).cells ({ frames := 0, cells := 0, slots := 0, locals := 0 } : Room).slots) (T.setTop (mkF m 15 #[.val (.ref a1), .val (.int p1), .val (.int p2), .val (.int i), o4] [])) := by
        intro k
        induction k with
        | zero =>
          intro T i o4 XL eL ho4 hk hi hres
          have en := (own_end hoff hc2 hc8 hi hk).2.1 rfl
          show own_G p.tables e below _ (T.setTop (mkF m 15 #[.val (.ref a1), .val (.int p1), .val (.int p2), .val (.int i), o4] []))
          refine own_fs (XS.iloadN XL.here hx rfl (hb hby own_d1_15) rfl (Steps.refl _)) ?_
          show own_G p.tables e below _ (T.setTop (mkF m 16 #[.val (.ref a1), .val (.int p1), .val (.int p2), .val (.int i), o4] [(.int i)]))
          refine own_fs (XS.iloadN XL.here hx rfl (hb hby own_d1_16) rfl (Steps.refl _)) ?_
          show own_G p.tables e below _ (T.setTop (mkF m 17 #[.val (.ref a1), .val (.int p1), .val (.int p2), .val (.int i), o4] [(.int p1), (.int i)]))
          refine own_fs (XS.iloadN XL.here hx rfl (hb hby own_d1_17) rfl (Steps.refl _)) ?_
          show own_G p.tables e below _ (T.setTop (mkF m 18 #[.val (.ref a1), .val (.int p1), .val (.int p2), .val (.int i), o4] [(.int p2), (.int p1), (.int i)]))
          refine own_fs (XS.iadd XL.here hx rfl (hb hby own_d1_18) rfl (Steps.refl _)) ?_
          show own_G p.tables e below _ (T.setTop (mkF m 19 #[.val (.ref a1), .val (.int p1), .val (.int p2), .val (.int i), o4] [(.int (p1 + p2)), (.int i)]))
          refine own_fs (XS.icmpYes XL.here hx rfl (pc0 := 19) (pc' := 49) rfl (hb hby own_d1_19) rfl (XT.ii_ge_t en) (by decide) (by decide) (Steps.refl _)) ?_
          show own_G p.tables e below _ (T.setTop (mkF m 49 #[.val (.ref a1), .val (.int p1), .val (.int p2), .val (.int i), o4] []))
          refine own_fs (XS.iconst XL.here hx rfl (hb hby own_d1_49) (Steps.refl _)) ?_
          show own_G p.tables e below _ (T.setTop (mkF m 50 #[.val (.ref a1), .val (.int p1), .val (.int p2), .val (.int i), o4] [(.int (1 : Int32))]))
          exact own_retN XL hx (t := .boolean) Bd.returns hlk (by simp) (hb hby own_d1_50) (by decide) (by decide) eL ⟨(by rw [hres]; rfl), N0, rfl⟩
        | succ k ih =>
          intro T i o4 XL eL ho4 hk hi hres
          have en := (own_end hoff hc2 hc8 hi hk).2.2 (Nat.succ_pos k)
          show own_G p.tables e below _ (T.setTop (mkF m 15 #[.val (.ref a1), .val (.int p1), .val (.int p2), .val (.int i), o4] []))
          refine own_fs (XS.iloadN XL.here hx rfl (hb hby own_d1_15) rfl (Steps.refl _)) ?_
          show own_G p.tables e below _ (T.setTop (mkF m 16 #[.val (.ref a1), .val (.int p1), .val (.int p2), .val (.int i), o4] [(.int i)]))
          refine own_fs (XS.iloadN XL.here hx rfl (hb hby own_d1_16) rfl (Steps.refl _)) ?_
          show own_G p.tables e below _ (T.setTop (mkF m 17 #[.val (.ref a1), .val (.int p1), .val (.int p2), .val (.int i), o4] [(.int p1), (.int i)]))
          refine own_fs (XS.iloadN XL.here hx rfl (hb hby own_d1_17) rfl (Steps.refl _)) ?_
          show own_G p.tables e below _ (T.setTop (mkF m 18 #[.val (.ref a1), .val (.int p1), .val (.int p2), .val (.int i), o4] [(.int p2), (.int p1), (.int i)]))
          refine own_fs (XS.iadd XL.here hx rfl (hb hby own_d1_18) rfl (Steps.refl _)) ?_
          show own_G p.tables e below _ (T.setTop (mkF m 19 #[.val (.ref a1), .val (.int p1), .val (.int p2), .val (.int i), o4] [(.int (p1 + p2)), (.int i)]))
          refine own_fs (XS.icmpNo XL.here hx rfl (hb hby own_d1_19) rfl (XT.ii_ge_f en.1) (Steps.refl _)) ?_
          show own_G p.tables e below _ (T.setTop (mkF m 22 #[.val (.ref a1), .val (.int p1), .val (.int p2), .val (.int i), o4] []))
          refine own_fs (XS.aloadN XL.here hx rfl (hb hby own_d1_22) rfl rfl (Steps.refl _)) ?_
          show own_G p.tables e below _ (T.setTop (mkF m 23 #[.val (.ref a1), .val (.int p1), .val (.int p2), .val (.int i), o4] [(.ref a1)]))
          refine own_fs (XS.iloadN XL.here hx rfl (hb hby own_d1_23) rfl (Steps.refl _)) ?_
          show own_G p.tables e below _ (T.setTop (mkF m 24 #[.val (.ref a1), .val (.int p1), .val (.int p2), .val (.int i), o4] [(.int i), (.ref a1)]))
          have hin := own_in68 hsz hi en.2.2.2.2
          have hat := hg _ en.2.2.2.2
          show own_G p.tables e below _ (T.setTop (mkF m 24 #[.val (.ref a1), .val (.int p1), .val (.int p2), .val (.int i), o4] [(.int i), (.ref a1)]))
          refine own_fs (XL.baloadBytes hx (j := i) (v := (.int (gg (i).toNatClampNeg))) (by rw [eL]; exact hA.1) (State.isArrayOf_alike hZ.alike hA.2.1) hA.2.2 hin hat (g := (mkF m 24 #[.val (.ref a1), .val (.int p1), .val (.int p2), .val (.int i), o4] [(.int i), (.ref a1)])) rfl rfl (hb hby own_d1_24) _ (Steps.refl _)) ?_
          show own_G p.tables e below _ (T.setTop (mkF m 25 #[.val (.ref a1), .val (.int p1), .val (.int p2), .val (.int i), o4] [(.int (gg (i).toNatClampNeg))]))
          refine own_fs (XS.istoreS XL.here hx rfl (hb hby own_d1_25) rfl rfl ho4 (Steps.refl _)) ?_
          show own_G p.tables e below _ (T.setTop (mkF m 27 #[.val (.ref a1), .val (.int p1), .val (.int p2), .val (.int i), .val (.int (gg (i).toNatClampNeg))] []))
          refine own_fs (XS.iload XL.here hx rfl (hb hby own_d1_27) rfl (Steps.refl _)) ?_
          show own_G p.tables e below _ (T.setTop (mkF m 29 #[.val (.ref a1), .val (.int p1), .val (.int p2), .val (.int i), .val (.int (gg (i).toNatClampNeg))] [(.int (gg (i).toNatClampNeg))]))
          by_cases hc29 : (gg (i).toNatClampNeg) < (0 : Int32)
          · refine own_fs (XS.ifYes XL.here hx rfl (pc0 := 29) (pc' := 41) rfl (hb hby own_d1_29) rfl (XT.i0_lt_t hc29) (by decide) (by decide) (Steps.refl _)) ?_
            show own_G p.tables e below _ (T.setTop (mkF m 41 #[.val (.ref a1), .val (.int p1), .val (.int p2), .val (.int i), .val (.int (gg (i).toNatClampNeg))] []))
            refine own_fs (XS.iconst XL.here hx rfl (hb hby own_d1_41) (Steps.refl _)) ?_
            show own_G p.tables e below _ (T.setTop (mkF m 42 #[.val (.ref a1), .val (.int p1), .val (.int p2), .val (.int i), .val (.int (gg (i).toNatClampNeg))] [(.int (0 : Int32))]))
            exact own_retN XL hx (t := .boolean) Bd.returns hlk (by simp) (hb hby own_d1_42) (by decide) (by decide) eL ⟨(by rw [hres]; simp only [own_scan, own_nar0, own_nar1, hc2, hc29, hc8, ↓reduceIte]), N0, rfl⟩
          · refine own_fs (XS.ifNo XL.here hx rfl (hb hby own_d1_29) rfl (XT.i0_lt_f hc29) (Steps.refl _)) ?_
            show own_G p.tables e below _ (T.setTop (mkF m 32 #[.val (.ref a1), .val (.int p1), .val (.int p2), .val (.int i), .val (.int (gg (i).toNatClampNeg))] []))
            obtain ⟨T1, X1, e1, st1⟩ := getS2 XL hx hZ hown (host := "") (Or.inl (hw _ (List.mem_of_getElem? (i := 6) rfl))) Via.refl eL hS_TOKEN_CHARACTERS (g := (mkF m 32 #[.val (.ref a1), .val (.int p1), .val (.int p2), .val (.int i), .val (.int (gg (i).toNatClampNeg))] [])) rfl (hb hby own_d1_32)
            refine own_fs (st1 _ (Steps.refl _)) ?_
            show own_G p.tables e below _ (T1.setTop (mkF m 35 #[.val (.ref a1), .val (.int p1), .val (.int p2), .val (.int i), .val (.int (gg (i).toNatClampNeg))] [(.ref tb)]))
            refine own_fs (XS.iload X1.here hx rfl (hb hby own_d1_35) rfl (Steps.refl _)) ?_
            show own_G p.tables e below _ (T1.setTop (mkF m 37 #[.val (.ref a1), .val (.int p1), .val (.int p2), .val (.int i), .val (.int (gg (i).toNatClampNeg))] [(.int (gg (i).toNatClampNeg)), (.ref tb)]))
            have hin2 := own_in128 hT.1 hc29 (hgb _)
            have hat2 := hT.2 _ hin2.2
            refine own_fs (X1.baloadBooleans hx (j := (gg (i).toNatClampNeg)) (v := (.int (own_tc ((gg (i).toNatClampNeg)).toNatClampNeg))) (by rw [e1]; exact hTA.1) (State.isArrayOf_alike hZ.alike hTA.2.1) hTA.2.2 hin2.1 hat2 (g := (mkF m 37 #[.val (.ref a1), .val (.int p1), .val (.int p2), .val (.int i), .val (.int (gg (i).toNatClampNeg))] [(.int (gg (i).toNatClampNeg)), (.ref tb)])) rfl rfl (hb hby own_d1_37) _ (Steps.refl _)) ?_
            show own_G p.tables e below _ (T1.setTop (mkF m 38 #[.val (.ref a1), .val (.int p1), .val (.int p2), .val (.int i), .val (.int (gg (i).toNatClampNeg))] [(.int (own_tc ((gg (i).toNatClampNeg)).toNatClampNeg))]))
            by_cases hc38 : (own_tc ((gg (i).toNatClampNeg)).toNatClampNeg) = (0 : Int32)
            · refine own_fs (XS.ifNo X1.here hx rfl (hb hby own_d1_38) rfl (XT.i0_ne_f hc38) (Steps.refl _)) ?_
              show own_G p.tables e below _ (T1.setTop (mkF m 41 #[.val (.ref a1), .val (.int p1), .val (.int p2), .val (.int i), .val (.int (gg (i).toNatClampNeg))] []))
              refine own_fs (XS.iconst X1.here hx rfl (hb hby own_d1_41) (Steps.refl _)) ?_
              show own_G p.tables e below _ (T1.setTop (mkF m 42 #[.val (.ref a1), .val (.int p1), .val (.int p2), .val (.int i), .val (.int (gg (i).toNatClampNeg))] [(.int (0 : Int32))]))
              exact own_retN X1 hx (t := .boolean) Bd.returns hlk (by simp) (hb hby own_d1_42) (by decide) (by decide) e1 ⟨(by rw [hres]; simp only [own_scan, own_nar0, own_nar1, hc2, hc29, hc38, hc8, ↓reduceIte]), N0, rfl⟩
            · refine own_fs (XS.ifYes X1.here hx rfl (pc0 := 38) (pc' := 43) rfl (hb hby own_d1_38) rfl (XT.i0_ne_t hc38) (by decide) (by decide) (Steps.refl _)) ?_
              show own_G p.tables e below _ (T1.setTop (mkF m 43 #[.val (.ref a1), .val (.int p1), .val (.int p2), .val (.int i), .val (.int (gg (i).toNatClampNeg))] []))
              refine own_fs (XS.iinc X1.here hx rfl (hb hby own_d1_43) rfl (l' := #[.val (.ref a1), .val (.int p1), .val (.int p2), .val (.int (i + (1 : Int32))), .val (.int (gg (i).toNatClampNeg))]) rfl (Steps.refl _)) ?_
              show own_G p.tables e below _ (T1.setTop (mkF m 46 #[.val (.ref a1), .val (.int p1), .val (.int p2), .val (.int (i + (1 : Int32))), .val (.int (gg (i).toNatClampNeg))] []))
              refine own_fs (XS.goto X1.here hx rfl (pc0 := 46) (pc' := 15) rfl (hb hby own_d1_46) (by decide) (by decide) (Steps.refl _)) ?_
              exact ih T1 ((i + (1 : Int32))) _ X1 e1 (One.val rfl) (by rw [en.2.2.1]; push_cast at hk; omega) en.2.1 (by rw [hres, en.2.2.2.1]; simp only [own_scan, hc2, hc29, hc38, hc8, ↓reduceIte])
      exact loop p2.toNatClampNeg s₁ p1 .unset X0 e0 One.u (by have := nat_of (own_nn (q := p2) (by have h1 := hc2; rw [Int32.lt_iff_toInt_lt, own_i1] at h1; omega)); omega) hoff.1 (own_tokS hc2 hc8)
theorem own_law_ef (m : MethodId) (x0 : Int32) (x1 : Int32) (x2 : Int32) (x3 : Int32) (x4 : Int32) (x5 : Int32) : entryFrame m #[(.int x0), (.int x1), (.int x2), (.int x3), (.int x4), (.int x5)] maxLocals = mkF m 0 #[.val (.int x0), .val (.int x1), .val (.int x2), .val (.int x3), .val (.int x4), .val (.int x5), .unset, .unset, .unset, .unset, .unset, .unset, .unset, .unset, .unset] [] := by first | (simp [entryFrame, mkF, argsToLocals, Value.category, maxLocals]; done) | rfl
def own_law_Q (Z : State) (x0 : Int32) (x1 : Int32) (x2 : Int32) (x3 : Int32) (x4 : Int32) (x5 : Int32) (tb : Addr) (tc : Cell) (h0 : Heap) (n0 : Nat) (v : Option Value) (h : Heap) (L : List Loc) : Prop := (v = some (.int (1 : Int32)) ∧ Fr n0 L)
set_option maxRecDepth 65536 in
set_option maxHeartbeats 40000000 in
theorem own_law (l : Launch) (Z : State) (a0 : Array Value) (hw : ∀ d ∈ tables_1, d.before a0 Z = true) (ws : List Jvm.Cond) (x0 : Int32) (x1 : Int32) (x2 : Int32) (x3 : Int32) (x4 : Int32) (x5 : Int32) (tb : Addr) (tc : Cell) (h0 : Heap) (n0 : Nat) (Z0 : n0 ≤ h0.size) (hS_TOKEN_CHARACTERS : Sta Z h0 "convoke/model/Tokens" "TOKEN_CHARACTERS" "[Z" (.ref tb)) (hTA : Arr Z h0 tb tc .boolean) (hT : own_T tc) :
    MetFree l x (head1 (Jvm.Cond.code x code maxLocals ret :: ws) room_1) (fun a U => a = #[(.int x0), (.int x1), (.int x2), (.int x3), (.int x4), (.int x5)] ∧ Z.Warmed39 U.vm ∧ U.heap = h0) (fun _ _ _ _ _ => True) (fun _ U o U' => ∃ v L, o = .returned v ∧ own_law_Q Z x0 x1 x2 x3 x4 x5 tb tc h0 n0 v U'.heap L ∧ FrameEnd U o U' L room_1.cells room_1.slots) := by
  refine MetFree.of_bodySF (plainFor_of_name own_pn0) hisR ?_
  intro p e s m args below meth c s₁ Bd hml0 hP hK
  obtain ⟨rfl, hZ, hh⟩ := hP
  have hx := Bd.exec
  have hby := Bd.bytes
  have hlk : meth.locks = false := BodyLoose.notSynchronized Bd
  have hml : c.maxLocals = 15 := hml0
  have hown : s.vm.findClass "convoke/model/TokensIsTokenPinLaw" = some m.cls := findClass_of_methodNamed Bd.named
  have hnm := (name_of_methodNamed Bd.named Bd.method).1
  have X0 : Stand p l e room_1 s m #[(.int x0), (.int x1), (.int x2), (.int x3), (.int x4), (.int x5)] below meth c s₁ [] 0 0 := Stand.of_body Bd
  have e0 : s₁.heap = h0 := by rw [← hh, Bd.state]; rfl
  have N0 := Fr.nil n0
  refine own_start (QQ := own_law_Q Z x0 x1 x2 x3 x4 x5 tb tc h0 n0) (rc := room_1.cells) (rs := room_1.slots) (own_law_ef m x0 x1 x2 x3 x4 x5 ) ?_
  show own_G p.tables e below _ (s₁.setTop (mkF m 0 #[.val (.int x0), .val (.int x1), .val (.int x2), .val (.int x3), .val (.int x4), .val (.int x5), .unset, .unset, .unset, .unset, .unset, .unset, .unset, .unset, .unset] []))
  refine own_fs (XS.bipush X0.here hx rfl (hb hby at_0) (Steps.refl _)) ?_
  show own_G p.tables e below _ (s₁.setTop (mkF m 2 #[.val (.int x0), .val (.int x1), .val (.int x2), .val (.int x3), .val (.int x4), .val (.int x5), .unset, .unset, .unset, .unset, .unset, .unset, .unset, .unset, .unset] [(.int (68 : Int32))]))
  obtain ⟨T1, h1, k1, X1, e1, E1, A1, st1⟩ := newP X0 hx hZ (hw _ (List.mem_of_getElem? (i := 0) rfl)) e0 (g := (mkF m 2 #[.val (.int x0), .val (.int x1), .val (.int x2), .val (.int x3), .val (.int x4), .val (.int x5), .unset, .unset, .unset, .unset, .unset, .unset, .unset, .unset, .unset] [(.int (68 : Int32))])) rfl (hb hby at_2) rfl (by decide) (cap := 68) (by decide) (by decide) (by decide) (by decide)
  obtain ⟨b1, g1⟩ : ∃ z, z = h0.size := ⟨_, rfl⟩
  rw [← g1] at A1 st1
  have ge_b1 : n0 ≤ b1 := Nat.le_trans Z0 (Nat.le_of_eq g1.symm)
  have gz_b1 : h0.size ≤ b1 := Nat.le_trans (Nat.le_refl _) (Nat.le_of_eq g1.symm)
  have V_b1 : Arv Z h1 b1 k1 .byte (68 : Int32) (own_fill 0) (.int (0 : Int32)) := (Arv.new A1 (by decide)).pad own_fill0
  refine own_fs (st1 _ (Steps.refl _)) ?_
  have ne_tb : tb ≠ b1 := (Nat.ne_of_lt (Nat.lt_of_lt_of_le (Arr.lt hTA) (Nat.le_of_eq g1.symm)))
  have J406 : ∀ (TJ : State) (hJ : Heap) (LJ : List Loc) (XJ : Stand p l e room_1 s m #[(.int x0), (.int x1), (.int x2), (.int x3), (.int x4), (.int x5)] below meth c TJ LJ 1 68) (eJ : TJ.heap = hJ) (NJ : Fr n0 LJ) (VJ : Arv Z hJ b1 k1 .byte (68 : Int32) (own_fill 68) (.int (0 : Int32))) (SJ : Sta Z hJ "convoke/model/Tokens" "TOKEN_CHARACTERS" "[Z" (.ref tb)) (AJ : Arr Z hJ tb tc .boolean) (ZJ : n0 ≤ hJ.size), own_G p.tables e below (own_P s (own_law_Q Z x0 x1 x2 x3 x4 x5 tb tc h0 n0) room_1.cells room_1.slots) (TJ.setTop (mkF m 406 #[.val (.int x0), .val (.int x1), .val (.int x2), .val (.int x3), .val (.int x4), .val (.int x5), .unset, .unset, .unset, .unset, .unset, .unset, .unset, .unset, .unset] [(.ref b1)])) := by
    intro TJ hJ LJ XJ eJ NJ VJ SJ AJ ZJ
    show own_G p.tables e below _ (TJ.setTop (mkF m 406 #[.val (.int x0), .val (.int x1), .val (.int x2), .val (.int x3), .val (.int x4), .val (.int x5), .unset, .unset, .unset, .unset, .unset, .unset, .unset, .unset, .unset] [(.ref b1)]))
    refine own_fs (XS.astore XJ.here hx rfl (hb hby at_406) rfl rfl (l' := #[.val (.int x0), .val (.int x1), .val (.int x2), .val (.int x3), .val (.int x4), .val (.int x5), .val (.ref b1), .unset, .unset, .unset, .unset, .unset, .unset, .unset, .unset]) rfl (Steps.refl _)) ?_
    show own_G p.tables e below _ (TJ.setTop (mkF m 408 #[.val (.int x0), .val (.int x1), .val (.int x2), .val (.int x3), .val (.int x4), .val (.int x5), .val (.ref b1), .unset, .unset, .unset, .unset, .unset, .unset, .unset, .unset] []))
    refine own_fs (XS.iloadN XJ.here hx rfl (hb hby at_408) rfl (Steps.refl _)) ?_
    show own_G p.tables e below _ (TJ.setTop (mkF m 409 #[.val (.int x0), .val (.int x1), .val (.int x2), .val (.int x3), .val (.int x4), .val (.int x5), .val (.ref b1), .unset, .unset, .unset, .unset, .unset, .unset, .unset, .unset] [(.int x1)]))
    refine own_fs (XJ.ldcInt hx hown (mvT hZ (hw _ (List.mem_of_getElem? (i := 1) rfl))) (g := (mkF m 409 #[.val (.int x0), .val (.int x1), .val (.int x2), .val (.int x3), .val (.int x4), .val (.int x5), .val (.ref b1), .unset, .unset, .unset, .unset, .unset, .unset, .unset, .unset] [(.int x1)])) rfl (hb hby at_409) _ (Steps.refl _)) ?_
    show own_G p.tables e below _ (TJ.setTop (mkF m 411 #[.val (.int x0), .val (.int x1), .val (.int x2), .val (.int x3), .val (.int x4), .val (.int x5), .val (.ref b1), .unset, .unset, .unset, .unset, .unset, .unset, .unset, .unset] [(.int (2147483647 : Int32)), (.int x1)]))
    refine own_fs (XS.iand XJ.here hx rfl (hb hby at_411) rfl (Steps.refl _)) ?_
    show own_G p.tables e below _ (TJ.setTop (mkF m 412 #[.val (.int x0), .val (.int x1), .val (.int x2), .val (.int x3), .val (.int x4), .val (.int x5), .val (.ref b1), .unset, .unset, .unset, .unset, .unset, .unset, .unset, .unset] [(.int (x1 &&& (2147483647 : Int32)))]))
    refine own_fs (XS.iconst XJ.here hx rfl (hb hby at_412) (Steps.refl _)) ?_
    show own_G p.tables e below _ (TJ.setTop (mkF m 413 #[.val (.int x0), .val (.int x1), .val (.int x2), .val (.int x3), .val (.int x4), .val (.int x5), .val (.ref b1), .unset, .unset, .unset, .unset, .unset, .unset, .unset, .unset] [(.int (5 : Int32)), (.int (x1 &&& (2147483647 : Int32)))]))
    refine own_fs (iremM (g := (mkF m 413 #[.val (.int x0), .val (.int x1), .val (.int x2), .val (.int x3), .val (.int x4), .val (.int x5), .val (.ref b1), .unset, .unset, .unset, .unset, .unset, .unset, .unset, .unset] [(.int (5 : Int32)), (.int (x1 &&& (2147483647 : Int32)))])) XJ hx rfl (hb hby at_413) rfl (by decide) (Steps.refl _)) ?_
    show own_G p.tables e below _ (TJ.setTop (mkF m 414 #[.val (.int x0), .val (.int x1), .val (.int x2), .val (.int x3), .val (.int x4), .val (.int x5), .val (.ref b1), .unset, .unset, .unset, .unset, .unset, .unset, .unset, .unset] [(.int ((x1 &&& (2147483647 : Int32)) % (5 : Int32)))]))
    refine own_fs (XS.istore XJ.here hx rfl (hb hby at_414) rfl (l' := #[.val (.int x0), .val (.int x1), .val (.int x2), .val (.int x3), .val (.int x4), .val (.int x5), .val (.ref b1), .val (.int ((x1 &&& (2147483647 : Int32)) % (5 : Int32))), .unset, .unset, .unset, .unset, .unset, .unset, .unset]) rfl (Steps.refl _)) ?_
    have hof := own_of x1
    show own_G p.tables e below _ (TJ.setTop (mkF m 416 #[.val (.int x0), .val (.int x1), .val (.int x2), .val (.int x3), .val (.int x4), .val (.int x5), .val (.ref b1), .val (.int ((x1 &&& (2147483647 : Int32)) % (5 : Int32))), .unset, .unset, .unset, .unset, .unset, .unset, .unset] []))
    generalize hg_of : ((x1 &&& (2147483647 : Int32)) % (5 : Int32)) = of at hof ⊢
    have J431 : ∀ (ln : Int32), own_G p.tables e below (own_P s (own_law_Q Z x0 x1 x2 x3 x4 x5 tb tc h0 n0) room_1.cells room_1.slots) (TJ.setTop (mkF m 431 #[.val (.int x0), .val (.int x1), .val (.int x2), .val (.int x3), .val (.int x4), .val (.int x5), .val (.ref b1), .val (.int of), .unset, .unset, .unset, .unset, .unset, .unset, .unset] [(.int ln)])) := by
      intro ln
      show own_G p.tables e below _ (TJ.setTop (mkF m 431 #[.val (.int x0), .val (.int x1), .val (.int x2), .val (.int x3), .val (.int x4), .val (.int x5), .val (.ref b1), .val (.int of), .unset, .unset, .unset, .unset, .unset, .unset, .unset] [(.int ln)]))
      refine own_fs (XS.istore XJ.here hx rfl (hb hby at_431) rfl (l' := #[.val (.int x0), .val (.int x1), .val (.int x2), .val (.int x3), .val (.int x4), .val (.int x5), .val (.ref b1), .val (.int of), .val (.int ln), .unset, .unset, .unset, .unset, .unset, .unset]) rfl (Steps.refl _)) ?_
      show own_G p.tables e below _ (TJ.setTop (mkF m 433 #[.val (.int x0), .val (.int x1), .val (.int x2), .val (.int x3), .val (.int x4), .val (.int x5), .val (.ref b1), .val (.int of), .val (.int ln), .unset, .unset, .unset, .unset, .unset, .unset] []))
      refine own_fs (XS.iloadN XJ.here hx rfl (hb hby at_433) rfl (Steps.refl _)) ?_
      show own_G p.tables e below _ (TJ.setTop (mkF m 434 #[.val (.int x0), .val (.int x1), .val (.int x2), .val (.int x3), .val (.int x4), .val (.int x5), .val (.ref b1), .val (.int of), .val (.int ln), .unset, .unset, .unset, .unset, .unset, .unset] [(.int x2)]))
      refine own_fs (XJ.ldcInt hx hown (mvT hZ (hw _ (List.mem_of_getElem? (i := 1) rfl))) (g := (mkF m 434 #[.val (.int x0), .val (.int x1), .val (.int x2), .val (.int x3), .val (.int x4), .val (.int x5), .val (.ref b1), .val (.int of), .val (.int ln), .unset, .unset, .unset, .unset, .unset, .unset] [(.int x2)])) rfl (hb hby at_434) _ (Steps.refl _)) ?_
      show own_G p.tables e below _ (TJ.setTop (mkF m 436 #[.val (.int x0), .val (.int x1), .val (.int x2), .val (.int x3), .val (.int x4), .val (.int x5), .val (.ref b1), .val (.int of), .val (.int ln), .unset, .unset, .unset, .unset, .unset, .unset] [(.int (2147483647 : Int32)), (.int x2)]))
      refine own_fs (XS.iand XJ.here hx rfl (hb hby at_436) rfl (Steps.refl _)) ?_
      show own_G p.tables e below _ (TJ.setTop (mkF m 437 #[.val (.int x0), .val (.int x1), .val (.int x2), .val (.int x3), .val (.int x4), .val (.int x5), .val (.ref b1), .val (.int of), .val (.int ln), .unset, .unset, .unset, .unset, .unset, .unset] [(.int (x2 &&& (2147483647 : Int32)))]))
      refine own_fs (XS.bipush XJ.here hx rfl (hb hby at_437) (Steps.refl _)) ?_
      show own_G p.tables e below _ (TJ.setTop (mkF m 439 #[.val (.int x0), .val (.int x1), .val (.int x2), .val (.int x3), .val (.int x4), .val (.int x5), .val (.ref b1), .val (.int of), .val (.int ln), .unset, .unset, .unset, .unset, .unset, .unset] [(.int (68 : Int32)), (.int (x2 &&& (2147483647 : Int32)))]))
      refine own_fs (iremM (g := (mkF m 439 #[.val (.int x0), .val (.int x1), .val (.int x2), .val (.int x3), .val (.int x4), .val (.int x5), .val (.ref b1), .val (.int of), .val (.int ln), .unset, .unset, .unset, .unset, .unset, .unset] [(.int (68 : Int32)), (.int (x2 &&& (2147483647 : Int32)))])) XJ hx rfl (hb hby at_439) rfl (by decide) (Steps.refl _)) ?_
      show own_G p.tables e below _ (TJ.setTop (mkF m 440 #[.val (.int x0), .val (.int x1), .val (.int x2), .val (.int x3), .val (.int x4), .val (.int x5), .val (.ref b1), .val (.int of), .val (.int ln), .unset, .unset, .unset, .unset, .unset, .unset] [(.int ((x2 &&& (2147483647 : Int32)) % (68 : Int32)))]))
      refine own_fs (XS.istore XJ.here hx rfl (hb hby at_440) rfl (l' := #[.val (.int x0), .val (.int x1), .val (.int x2), .val (.int x3), .val (.int x4), .val (.int x5), .val (.ref b1), .val (.int of), .val (.int ln), .val (.int ((x2 &&& (2147483647 : Int32)) % (68 : Int32))), .unset, .unset, .unset, .unset, .unset]) rfl (Steps.refl _)) ?_
      have hq0 := own_q0 x2
      show own_G p.tables e below _ (TJ.setTop (mkF m 442 #[.val (.int x0), .val (.int x1), .val (.int x2), .val (.int x3), .val (.int x4), .val (.int x5), .val (.ref b1), .val (.int of), .val (.int ln), .val (.int ((x2 &&& (2147483647 : Int32)) % (68 : Int32))), .unset, .unset, .unset, .unset, .unset] []))
      generalize hg_q0 : ((x2 &&& (2147483647 : Int32)) % (68 : Int32)) = q0 at hq0 ⊢
      show own_G p.tables e below _ (TJ.setTop (mkF m 442 #[.val (.int x0), .val (.int x1), .val (.int x2), .val (.int x3), .val (.int x4), .val (.int x5), .val (.ref b1), .val (.int of), .val (.int ln), .val (.int q0), .unset, .unset, .unset, .unset, .unset] []))
      refine own_fs (XS.iload XJ.here hx rfl (hb hby at_442) rfl (Steps.refl _)) ?_
      show own_G p.tables e below _ (TJ.setTop (mkF m 444 #[.val (.int x0), .val (.int x1), .val (.int x2), .val (.int x3), .val (.int x4), .val (.int x5), .val (.ref b1), .val (.int of), .val (.int ln), .val (.int q0), .unset, .unset, .unset, .unset, .unset] [(.int q0)]))
      refine own_fs (XS.iconst XJ.here hx rfl (hb hby at_444) (Steps.refl _)) ?_
      show own_G p.tables e below _ (TJ.setTop (mkF m 445 #[.val (.int x0), .val (.int x1), .val (.int x2), .val (.int x3), .val (.int x4), .val (.int x5), .val (.ref b1), .val (.int of), .val (.int ln), .val (.int q0), .unset, .unset, .unset, .unset, .unset] [(.int (1 : Int32)), (.int q0)]))
      refine own_fs (XS.iadd XJ.here hx rfl (hb hby at_445) rfl (Steps.refl _)) ?_
      show own_G p.tables e below _ (TJ.setTop (mkF m 446 #[.val (.int x0), .val (.int x1), .val (.int x2), .val (.int x3), .val (.int x4), .val (.int x5), .val (.ref b1), .val (.int of), .val (.int ln), .val (.int q0), .unset, .unset, .unset, .unset, .unset] [(.int (q0 + (1 : Int32)))]))
      refine own_fs (XS.iloadN XJ.here hx rfl (hb hby at_446) rfl (Steps.refl _)) ?_
      show own_G p.tables e below _ (TJ.setTop (mkF m 447 #[.val (.int x0), .val (.int x1), .val (.int x2), .val (.int x3), .val (.int x4), .val (.int x5), .val (.ref b1), .val (.int of), .val (.int ln), .val (.int q0), .unset, .unset, .unset, .unset, .unset] [(.int x3), (.int (q0 + (1 : Int32)))]))
      refine own_fs (XJ.ldcInt hx hown (mvT hZ (hw _ (List.mem_of_getElem? (i := 1) rfl))) (g := (mkF m 447 #[.val (.int x0), .val (.int x1), .val (.int x2), .val (.int x3), .val (.int x4), .val (.int x5), .val (.ref b1), .val (.int of), .val (.int ln), .val (.int q0), .unset, .unset, .unset, .unset, .unset] [(.int x3), (.int (q0 + (1 : Int32)))])) rfl (hb hby at_447) _ (Steps.refl _)) ?_
      show own_G p.tables e below _ (TJ.setTop (mkF m 449 #[.val (.int x0), .val (.int x1), .val (.int x2), .val (.int x3), .val (.int x4), .val (.int x5), .val (.ref b1), .val (.int of), .val (.int ln), .val (.int q0), .unset, .unset, .unset, .unset, .unset] [(.int (2147483647 : Int32)), (.int x3), (.int (q0 + (1 : Int32)))]))
      refine own_fs (XS.iand XJ.here hx rfl (hb hby at_449) rfl (Steps.refl _)) ?_
      show own_G p.tables e below _ (TJ.setTop (mkF m 450 #[.val (.int x0), .val (.int x1), .val (.int x2), .val (.int x3), .val (.int x4), .val (.int x5), .val (.ref b1), .val (.int of), .val (.int ln), .val (.int q0), .unset, .unset, .unset, .unset, .unset] [(.int (x3 &&& (2147483647 : Int32))), (.int (q0 + (1 : Int32)))]))
      refine own_fs (XS.bipush XJ.here hx rfl (hb hby at_450) (Steps.refl _)) ?_
      show own_G p.tables e below _ (TJ.setTop (mkF m 452 #[.val (.int x0), .val (.int x1), .val (.int x2), .val (.int x3), .val (.int x4), .val (.int x5), .val (.ref b1), .val (.int of), .val (.int ln), .val (.int q0), .unset, .unset, .unset, .unset, .unset] [(.int (67 : Int32)), (.int (x3 &&& (2147483647 : Int32))), (.int (q0 + (1 : Int32)))]))
      refine own_fs (iremM (g := (mkF m 452 #[.val (.int x0), .val (.int x1), .val (.int x2), .val (.int x3), .val (.int x4), .val (.int x5), .val (.ref b1), .val (.int of), .val (.int ln), .val (.int q0), .unset, .unset, .unset, .unset, .unset] [(.int (67 : Int32)), (.int (x3 &&& (2147483647 : Int32))), (.int (q0 + (1 : Int32)))])) XJ hx rfl (hb hby at_452) rfl (by decide) (Steps.refl _)) ?_
      show own_G p.tables e below _ (TJ.setTop (mkF m 453 #[.val (.int x0), .val (.int x1), .val (.int x2), .val (.int x3), .val (.int x4), .val (.int x5), .val (.ref b1), .val (.int of), .val (.int ln), .val (.int q0), .unset, .unset, .unset, .unset, .unset] [(.int ((x3 &&& (2147483647 : Int32)) % (67 : Int32))), (.int (q0 + (1 : Int32)))]))
      refine own_fs (XS.iadd XJ.here hx rfl (hb hby at_453) rfl (Steps.refl _)) ?_
      show own_G p.tables e below _ (TJ.setTop (mkF m 454 #[.val (.int x0), .val (.int x1), .val (.int x2), .val (.int x3), .val (.int x4), .val (.int x5), .val (.ref b1), .val (.int of), .val (.int ln), .val (.int q0), .unset, .unset, .unset, .unset, .unset] [(.int ((q0 + (1 : Int32)) + ((x3 &&& (2147483647 : Int32)) % (67 : Int32))))]))
      refine own_fs (XS.bipush XJ.here hx rfl (hb hby at_454) (Steps.refl _)) ?_
      show own_G p.tables e below _ (TJ.setTop (mkF m 456 #[.val (.int x0), .val (.int x1), .val (.int x2), .val (.int x3), .val (.int x4), .val (.int x5), .val (.ref b1), .val (.int of), .val (.int ln), .val (.int q0), .unset, .unset, .unset, .unset, .unset] [(.int (68 : Int32)), (.int ((q0 + (1 : Int32)) + ((x3 &&& (2147483647 : Int32)) % (67 : Int32))))]))
      refine own_fs (iremM (g := (mkF m 456 #[.val (.int x0), .val (.int x1), .val (.int x2), .val (.int x3), .val (.int x4), .val (.int x5), .val (.ref b1), .val (.int of), .val (.int ln), .val (.int q0), .unset, .unset, .unset, .unset, .unset] [(.int (68 : Int32)), (.int ((q0 + (1 : Int32)) + ((x3 &&& (2147483647 : Int32)) % (67 : Int32))))])) XJ hx rfl (hb hby at_456) rfl (by decide) (Steps.refl _)) ?_
      show own_G p.tables e below _ (TJ.setTop (mkF m 457 #[.val (.int x0), .val (.int x1), .val (.int x2), .val (.int x3), .val (.int x4), .val (.int x5), .val (.ref b1), .val (.int of), .val (.int ln), .val (.int q0), .unset, .unset, .unset, .unset, .unset] [(.int (((q0 + (1 : Int32)) + ((x3 &&& (2147483647 : Int32)) % (67 : Int32))) % (68 : Int32)))]))
      refine own_fs (XS.istore XJ.here hx rfl (hb hby at_457) rfl (l' := #[.val (.int x0), .val (.int x1), .val (.int x2), .val (.int x3), .val (.int x4), .val (.int x5), .val (.ref b1), .val (.int of), .val (.int ln), .val (.int q0), .val (.int (((q0 + (1 : Int32)) + ((x3 &&& (2147483647 : Int32)) % (67 : Int32))) % (68 : Int32))), .unset, .unset, .unset, .unset]) rfl (Steps.refl _)) ?_
      have hq1 := own_q1 x3 hq0
      show own_G p.tables e below _ (TJ.setTop (mkF m 459 #[.val (.int x0), .val (.int x1), .val (.int x2), .val (.int x3), .val (.int x4), .val (.int x5), .val (.ref b1), .val (.int of), .val (.int ln), .val (.int q0), .val (.int (((q0 + (1 : Int32)) + ((x3 &&& (2147483647 : Int32)) % (67 : Int32))) % (68 : Int32))), .unset, .unset, .unset, .unset] []))
      generalize hg_q1 : (((q0 + (1 : Int32)) + ((x3 &&& (2147483647 : Int32)) % (67 : Int32))) % (68 : Int32)) = q1 at hq1 ⊢
      show own_G p.tables e below _ (TJ.setTop (mkF m 459 #[.val (.int x0), .val (.int x1), .val (.int x2), .val (.int x3), .val (.int x4), .val (.int x5), .val (.ref b1), .val (.int of), .val (.int ln), .val (.int q0), .val (.int q1), .unset, .unset, .unset, .unset] []))
      refine own_fs (XS.iload XJ.here hx rfl (hb hby at_459) rfl (Steps.refl _)) ?_
      show own_G p.tables e below _ (TJ.setTop (mkF m 461 #[.val (.int x0), .val (.int x1), .val (.int x2), .val (.int x3), .val (.int x4), .val (.int x5), .val (.ref b1), .val (.int of), .val (.int ln), .val (.int q0), .val (.int q1), .unset, .unset, .unset, .unset] [(.int x4)]))
      refine own_fs (XS.i2b XJ.here hx rfl (hb hby at_461) rfl (Steps.refl _)) ?_
      show own_G p.tables e below _ (TJ.setTop (mkF m 462 #[.val (.int x0), .val (.int x1), .val (.int x2), .val (.int x3), .val (.int x4), .val (.int x5), .val (.ref b1), .val (.int of), .val (.int ln), .val (.int q0), .val (.int q1), .unset, .unset, .unset, .unset] [(.int (x4.toInt8.toInt32))]))
      refine own_fs (XS.istore XJ.here hx rfl (hb hby at_462) rfl (l' := #[.val (.int x0), .val (.int x1), .val (.int x2), .val (.int x3), .val (.int x4), .val (.int x5), .val (.ref b1), .val (.int of), .val (.int ln), .val (.int q0), .val (.int q1), .val (.int (x4.toInt8.toInt32)), .unset, .unset, .unset]) rfl (Steps.refl _)) ?_
      have hbn0 := own_narb x4
      have hbf0 := fits_nar_byte x4
      have hbb0 := (c_i2b x4).2.2
      show own_G p.tables e below _ (TJ.setTop (mkF m 464 #[.val (.int x0), .val (.int x1), .val (.int x2), .val (.int x3), .val (.int x4), .val (.int x5), .val (.ref b1), .val (.int of), .val (.int ln), .val (.int q0), .val (.int q1), .val (.int (x4.toInt8.toInt32)), .unset, .unset, .unset] []))
      generalize hg_vb0 : (x4.toInt8.toInt32) = vb0 at hbn0 hbf0 hbb0 ⊢
      show own_G p.tables e below _ (TJ.setTop (mkF m 464 #[.val (.int x0), .val (.int x1), .val (.int x2), .val (.int x3), .val (.int x4), .val (.int x5), .val (.ref b1), .val (.int of), .val (.int ln), .val (.int q0), .val (.int q1), .val (.int vb0), .unset, .unset, .unset] []))
      refine own_fs (XS.iload XJ.here hx rfl (hb hby at_464) rfl (Steps.refl _)) ?_
      show own_G p.tables e below _ (TJ.setTop (mkF m 466 #[.val (.int x0), .val (.int x1), .val (.int x2), .val (.int x3), .val (.int x4), .val (.int x5), .val (.ref b1), .val (.int of), .val (.int ln), .val (.int q0), .val (.int q1), .val (.int vb0), .unset, .unset, .unset] [(.int x4)]))
      refine own_fs (XS.bipush XJ.here hx rfl (hb hby at_466) (Steps.refl _)) ?_
      show own_G p.tables e below _ (TJ.setTop (mkF m 468 #[.val (.int x0), .val (.int x1), .val (.int x2), .val (.int x3), .val (.int x4), .val (.int x5), .val (.ref b1), .val (.int of), .val (.int ln), .val (.int q0), .val (.int q1), .val (.int vb0), .unset, .unset, .unset] [(.int (8 : Int32)), (.int x4)]))
      refine own_fs (XS.ishr XJ.here hx rfl (hb hby at_468) rfl (Steps.refl _)) ?_
      show own_G p.tables e below _ (TJ.setTop (mkF m 469 #[.val (.int x0), .val (.int x1), .val (.int x2), .val (.int x3), .val (.int x4), .val (.int x5), .val (.ref b1), .val (.int of), .val (.int ln), .val (.int q0), .val (.int q1), .val (.int vb0), .unset, .unset, .unset] [(.int (x4 >>> ((8 : Int32) &&& 31)))]))
      refine own_fs (XS.i2b XJ.here hx rfl (hb hby at_469) rfl (Steps.refl _)) ?_
      show own_G p.tables e below _ (TJ.setTop (mkF m 470 #[.val (.int x0), .val (.int x1), .val (.int x2), .val (.int x3), .val (.int x4), .val (.int x5), .val (.ref b1), .val (.int of), .val (.int ln), .val (.int q0), .val (.int q1), .val (.int vb0), .unset, .unset, .unset] [(.int ((x4 >>> ((8 : Int32) &&& 31)).toInt8.toInt32))]))
      refine own_fs (XS.istore XJ.here hx rfl (hb hby at_470) rfl (l' := #[.val (.int x0), .val (.int x1), .val (.int x2), .val (.int x3), .val (.int x4), .val (.int x5), .val (.ref b1), .val (.int of), .val (.int ln), .val (.int q0), .val (.int q1), .val (.int vb0), .val (.int ((x4 >>> ((8 : Int32) &&& 31)).toInt8.toInt32)), .unset, .unset]) rfl (Steps.refl _)) ?_
      have hbn1 := own_narb (x4 >>> ((8 : Int32) &&& 31))
      have hbf1 := fits_nar_byte (x4 >>> ((8 : Int32) &&& 31))
      have hbb1 := (c_i2b (x4 >>> ((8 : Int32) &&& 31))).2.2
      show own_G p.tables e below _ (TJ.setTop (mkF m 472 #[.val (.int x0), .val (.int x1), .val (.int x2), .val (.int x3), .val (.int x4), .val (.int x5), .val (.ref b1), .val (.int of), .val (.int ln), .val (.int q0), .val (.int q1), .val (.int vb0), .val (.int ((x4 >>> ((8 : Int32) &&& 31)).toInt8.toInt32)), .unset, .unset] []))
      generalize hg_vb1 : ((x4 >>> ((8 : Int32) &&& 31)).toInt8.toInt32) = vb1 at hbn1 hbf1 hbb1 ⊢
      show own_G p.tables e below _ (TJ.setTop (mkF m 472 #[.val (.int x0), .val (.int x1), .val (.int x2), .val (.int x3), .val (.int x4), .val (.int x5), .val (.ref b1), .val (.int of), .val (.int ln), .val (.int q0), .val (.int q1), .val (.int vb0), .val (.int vb1), .unset, .unset] []))
      refine own_fs (XS.aload XJ.here hx rfl (hb hby at_472) rfl rfl (Steps.refl _)) ?_
      show own_G p.tables e below _ (TJ.setTop (mkF m 474 #[.val (.int x0), .val (.int x1), .val (.int x2), .val (.int x3), .val (.int x4), .val (.int x5), .val (.ref b1), .val (.int of), .val (.int ln), .val (.int q0), .val (.int q1), .val (.int vb0), .val (.int vb1), .unset, .unset] [(.ref b1)]))
      refine own_fs (XS.iload XJ.here hx rfl (hb hby at_474) rfl (Steps.refl _)) ?_
      show own_G p.tables e below _ (TJ.setTop (mkF m 476 #[.val (.int x0), .val (.int x1), .val (.int x2), .val (.int x3), .val (.int x4), .val (.int x5), .val (.ref b1), .val (.int of), .val (.int ln), .val (.int q0), .val (.int q1), .val (.int vb0), .val (.int vb1), .unset, .unset] [(.int q0), (.ref b1)]))
      refine own_fs (XS.iload XJ.here hx rfl (hb hby at_476) rfl (Steps.refl _)) ?_
      show own_G p.tables e below _ (TJ.setTop (mkF m 478 #[.val (.int x0), .val (.int x1), .val (.int x2), .val (.int x3), .val (.int x4), .val (.int x5), .val (.ref b1), .val (.int of), .val (.int ln), .val (.int q0), .val (.int q1), .val (.int vb0), .val (.int vb1), .unset, .unset] [(.int vb0), (.int q0), (.ref b1)]))
      obtain ⟨cl2, Ar2, q2, S2, O2, H2, G2⟩ := (VJ).arh
      have hin2 : ¬ (q0 < 0 ∨ cl2.slots.size ≤ (q0).toNatClampNeg) := inb_of S2 ⟨hq0.1, by rw [Int32.lt_iff_toInt_lt]; exact hq0.2⟩
      obtain ⟨T3, h3, X3, e3, W3, st3⟩ := stB XJ hx hZ eJ Ar2 (j := q0) hin2 (g := (mkF m 478 #[.val (.int x0), .val (.int x1), .val (.int x2), .val (.int x3), .val (.int x4), .val (.int x5), .val (.ref b1), .val (.int of), .val (.int ln), .val (.int q0), .val (.int q1), .val (.int vb0), .val (.int vb1), .unset, .unset] [(.int vb0), (.int q0), (.ref b1)])) rfl rfl (hb hby at_478)
      refine own_fs (st3 _ (Steps.refl _)) ?_
      rw [hbn0] at W3
      have V3 : Arh Z h3 b1 k1 .byte (68 : Int32) [(q0, .int vb0)] (own_fill 68) (.int (0 : Int32)) := Arh.push Ar2 q2 S2 O2 H2 G2 (v := .int vb0) hbf0 W3 hin2
      have N3 := Fr.snoc X3 NJ ge_b1
      have Zb4 : n0 ≤ h3.size := (Nat.le_trans ZJ (Keep.of_wr W3).1)
      have Sb4_1 := (Sta.wr W3 SJ)
      have Sb4_2 := (Arr.other W3 AJ ne_tb)
      show own_G p.tables e below _ (T3.setTop (mkF m 479 #[.val (.int x0), .val (.int x1), .val (.int x2), .val (.int x3), .val (.int x4), .val (.int x5), .val (.ref b1), .val (.int of), .val (.int ln), .val (.int q0), .val (.int q1), .val (.int vb0), .val (.int vb1), .unset, .unset] []))
      refine own_fs (XS.aload X3.here hx rfl (hb hby at_479) rfl rfl (Steps.refl _)) ?_
      show own_G p.tables e below _ (T3.setTop (mkF m 481 #[.val (.int x0), .val (.int x1), .val (.int x2), .val (.int x3), .val (.int x4), .val (.int x5), .val (.ref b1), .val (.int of), .val (.int ln), .val (.int q0), .val (.int q1), .val (.int vb0), .val (.int vb1), .unset, .unset] [(.ref b1)]))
      refine own_fs (XS.iload X3.here hx rfl (hb hby at_481) rfl (Steps.refl _)) ?_
      show own_G p.tables e below _ (T3.setTop (mkF m 483 #[.val (.int x0), .val (.int x1), .val (.int x2), .val (.int x3), .val (.int x4), .val (.int x5), .val (.ref b1), .val (.int of), .val (.int ln), .val (.int q0), .val (.int q1), .val (.int vb0), .val (.int vb1), .unset, .unset] [(.int q1), (.ref b1)]))
      refine own_fs (XS.iload X3.here hx rfl (hb hby at_483) rfl (Steps.refl _)) ?_
      show own_G p.tables e below _ (T3.setTop (mkF m 485 #[.val (.int x0), .val (.int x1), .val (.int x2), .val (.int x3), .val (.int x4), .val (.int x5), .val (.ref b1), .val (.int of), .val (.int ln), .val (.int q0), .val (.int q1), .val (.int vb0), .val (.int vb1), .unset, .unset] [(.int vb1), (.int q1), (.ref b1)]))
      obtain ⟨cl5, Ar5, q5, S5, O5, H5, G5⟩ := V3
      have hin5 : ¬ (q1 < 0 ∨ cl5.slots.size ≤ (q1).toNatClampNeg) := inb_of S5 ⟨hq1.1.1, by rw [Int32.lt_iff_toInt_lt]; exact hq1.1.2⟩
      obtain ⟨T6, h6, X6, e6, W6, st6⟩ := stB X3 hx hZ e3 Ar5 (j := q1) hin5 (g := (mkF m 485 #[.val (.int x0), .val (.int x1), .val (.int x2), .val (.int x3), .val (.int x4), .val (.int x5), .val (.ref b1), .val (.int of), .val (.int ln), .val (.int q0), .val (.int q1), .val (.int vb0), .val (.int vb1), .unset, .unset] [(.int vb1), (.int q1), (.ref b1)])) rfl rfl (hb hby at_485)
      refine own_fs (st6 _ (Steps.refl _)) ?_
      rw [hbn1] at W6
      have V6 : Arh Z h6 b1 k1 .byte (68 : Int32) [(q1, .int vb1), (q0, .int vb0)] (own_fill 68) (.int (0 : Int32)) := Arh.push Ar5 q5 S5 O5 H5 G5 (v := .int vb1) hbf1 W6 hin5
      have N6 := Fr.snoc X6 N3 ge_b1
      have Zb7 : n0 ≤ h6.size := (Nat.le_trans Zb4 (Keep.of_wr W6).1)
      have Sb7_1 := (Sta.wr W6 Sb4_1)
      have Sb7_2 := (Arr.other W6 Sb4_2 ne_tb)
      show own_G p.tables e below _ (T6.setTop (mkF m 486 #[.val (.int x0), .val (.int x1), .val (.int x2), .val (.int x3), .val (.int x4), .val (.int x5), .val (.ref b1), .val (.int of), .val (.int ln), .val (.int q0), .val (.int q1), .val (.int vb0), .val (.int vb1), .unset, .unset] []))
      refine own_fs (XS.aload X6.here hx rfl (hb hby at_486) rfl rfl (Steps.refl _)) ?_
      show own_G p.tables e below _ (T6.setTop (mkF m 488 #[.val (.int x0), .val (.int x1), .val (.int x2), .val (.int x3), .val (.int x4), .val (.int x5), .val (.ref b1), .val (.int of), .val (.int ln), .val (.int q0), .val (.int q1), .val (.int vb0), .val (.int vb1), .unset, .unset] [(.ref b1)]))
      refine own_fs (XS.iload X6.here hx rfl (hb hby at_488) rfl (Steps.refl _)) ?_
      show own_G p.tables e below _ (T6.setTop (mkF m 490 #[.val (.int x0), .val (.int x1), .val (.int x2), .val (.int x3), .val (.int x4), .val (.int x5), .val (.ref b1), .val (.int of), .val (.int ln), .val (.int q0), .val (.int q1), .val (.int vb0), .val (.int vb1), .unset, .unset] [(.int of), (.ref b1)]))
      refine own_fs (XS.iload X6.here hx rfl (hb hby at_490) rfl (Steps.refl _)) ?_
      show own_G p.tables e below _ (T6.setTop (mkF m 492 #[.val (.int x0), .val (.int x1), .val (.int x2), .val (.int x3), .val (.int x4), .val (.int x5), .val (.ref b1), .val (.int of), .val (.int ln), .val (.int q0), .val (.int q1), .val (.int vb0), .val (.int vb1), .unset, .unset] [(.int ln), (.int of), (.ref b1)]))
      obtain ⟨clq, Arq, qq, Sq, Oq, Hq, Gq⟩ := V6
      have hgq : ∀ i, i < 68 → clq.slots[i]? = some (.int (own_g q0 vb0 q1 vb1 i)) := fun i hi => (Hq i (by rw [Sq]; exact hi)).trans (congrArg some (own_getg q0 vb0 q1 vb1 i hi))
      have Zs9 : n0 ≤ h6.size := Zb7
      obtain ⟨_, _, ⟨T8, L8, k8, n8⟩, -, X8, ⟨Lc8, hQ8, l8, y8, z8⟩, st8⟩ := Jvm.LawKit.callS X6 hx (y := (⟨"convoke/model/Tokens", "isToken", "([BII)Z"⟩ : MethodName)) hown (mvT hZ (hw _ (List.mem_of_getElem? (i := 2) rfl))) (mvT hZ (hw _ (List.mem_of_getElem? (i := 3) rfl))) (mvT hZ (hw _ (List.mem_of_getElem? (i := 4) rfl))) (mvT hZ (hw _ (List.mem_of_getElem? (i := 5) rfl))) (by decide) (backOf (W := 0) (own_rtok l Z a0 hw [] b1 of ln clq (own_g q0 vb0 q1 vb1) tb tc h6 n0 Zs9 Arq (Sq.trans (by decide)) hgq (own_gb hbb0 hbb1) Sb7_1 Sb7_2 hT hof) hZ (hw _ (List.mem_of_getElem? (i := 5) rfl)) (hw _ (List.mem_of_getElem? (i := 4) rfl)) (by decide) (by decide)) (g := (mkF m 492 #[.val (.int x0), .val (.int x1), .val (.int x2), .val (.int x3), .val (.int x4), .val (.int x5), .val (.ref b1), .val (.int of), .val (.int ln), .val (.int q0), .val (.int q1), .val (.int vb0), .val (.int vb1), .unset, .unset] [(.int ln), (.int of), (.ref b1)])) rfl (by rw [hml]; rfl) (argsL := [(.ref b1), (.int of), (.int ln)]) (rest := []) (lenOf own_pd0 rfl) rfl (by show 2 * 0 + _ ≤ _; exact Nat.le_of_eq rfl) (hb hby at_492) (fun _ _ => ⟨rfl, e6, (by decide : 1 + 0 ≤ _), (by decide : 68 + 0 ≤ _)⟩)
      dsimp only [Pt.U, Pt.locs, Pt.cells, Pt.slots] at X8 l8 y8 z8 st8 hQ8
      subst l8 y8 z8
      obtain ⟨rfl, Nq8, e8⟩ := hQ8
      have N8 := Fr.app N6 Nq8
      refine own_fs (st8 _ (Steps.refl _)) ?_
      show own_G p.tables e below _ (T8.setTop (mkF m 495 #[.val (.int x0), .val (.int x1), .val (.int x2), .val (.int x3), .val (.int x4), .val (.int x5), .val (.ref b1), .val (.int of), .val (.int ln), .val (.int q0), .val (.int q1), .val (.int vb0), .val (.int vb1), .unset, .unset] [(.int (own_tok (own_g q0 vb0 q1 vb1) of ln))]))
      refine own_fs (XS.istore X8.here hx rfl (hb hby at_495) rfl (l' := #[.val (.int x0), .val (.int x1), .val (.int x2), .val (.int x3), .val (.int x4), .val (.int x5), .val (.ref b1), .val (.int of), .val (.int ln), .val (.int q0), .val (.int q1), .val (.int vb0), .val (.int vb1), .val (.int (own_tok (own_g q0 vb0 q1 vb1) of ln)), .unset]) rfl (Steps.refl _)) ?_
      show own_G p.tables e below _ (T8.setTop (mkF m 497 #[.val (.int x0), .val (.int x1), .val (.int x2), .val (.int x3), .val (.int x4), .val (.int x5), .val (.ref b1), .val (.int of), .val (.int ln), .val (.int q0), .val (.int q1), .val (.int vb0), .val (.int vb1), .val (.int (own_tok (own_g q0 vb0 q1 vb1) of ln)), .unset] []))
      refine own_fs (XS.iload X8.here hx rfl (hb hby at_497) rfl (Steps.refl _)) ?_
      show own_G p.tables e below _ (T8.setTop (mkF m 499 #[.val (.int x0), .val (.int x1), .val (.int x2), .val (.int x3), .val (.int x4), .val (.int x5), .val (.ref b1), .val (.int of), .val (.int ln), .val (.int q0), .val (.int q1), .val (.int vb0), .val (.int vb1), .val (.int (own_tok (own_g q0 vb0 q1 vb1) of ln)), .unset] [(.int ln)]))
      refine own_fs (XS.iconst X8.here hx rfl (hb hby at_499) (Steps.refl _)) ?_
      show own_G p.tables e below _ (T8.setTop (mkF m 500 #[.val (.int x0), .val (.int x1), .val (.int x2), .val (.int x3), .val (.int x4), .val (.int x5), .val (.ref b1), .val (.int of), .val (.int ln), .val (.int q0), .val (.int q1), .val (.int vb0), .val (.int vb1), .val (.int (own_tok (own_g q0 vb0 q1 vb1) of ln)), .unset] [(.int (1 : Int32)), (.int ln)]))
      by_cases hc500 : ln < (1 : Int32)
      · refine own_fs (XS.icmpYes X8.here hx rfl (pc0 := 500) (pc' := 510) rfl (hb hby at_500) rfl (XT.ii_lt_t hc500) (by decide) (by decide) (Steps.refl _)) ?_
        show own_G p.tables e below _ (T8.setTop (mkF m 510 #[.val (.int x0), .val (.int x1), .val (.int x2), .val (.int x3), .val (.int x4), .val (.int x5), .val (.ref b1), .val (.int of), .val (.int ln), .val (.int q0), .val (.int q1), .val (.int vb0), .val (.int vb1), .val (.int (own_tok (own_g q0 vb0 q1 vb1) of ln)), .unset] []))
        refine own_fs (XS.iconst X8.here hx rfl (hb hby at_510) (Steps.refl _)) ?_
        show own_G p.tables e below _ (T8.setTop (mkF m 511 #[.val (.int x0), .val (.int x1), .val (.int x2), .val (.int x3), .val (.int x4), .val (.int x5), .val (.ref b1), .val (.int of), .val (.int ln), .val (.int q0), .val (.int q1), .val (.int vb0), .val (.int vb1), .val (.int (own_tok (own_g q0 vb0 q1 vb1) of ln)), .unset] [(.int (0 : Int32))]))
        refine own_fs (XS.istore X8.here hx rfl (hb hby at_511) rfl (l' := #[.val (.int x0), .val (.int x1), .val (.int x2), .val (.int x3), .val (.int x4), .val (.int x5), .val (.ref b1), .val (.int of), .val (.int ln), .val (.int q0), .val (.int q1), .val (.int vb0), .val (.int vb1), .val (.int (own_tok (own_g q0 vb0 q1 vb1) of ln)), .val (.int (0 : Int32))]) rfl (Steps.refl _)) ?_
        show own_G p.tables e below _ (T8.setTop (mkF m 513 #[.val (.int x0), .val (.int x1), .val (.int x2), .val (.int x3), .val (.int x4), .val (.int x5), .val (.ref b1), .val (.int of), .val (.int ln), .val (.int q0), .val (.int q1), .val (.int vb0), .val (.int vb1), .val (.int (own_tok (own_g q0 vb0 q1 vb1) of ln)), .val (.int (0 : Int32))] []))
        refine own_fs (XS.goto X8.here hx rfl (pc0 := 513) (pc' := 563) rfl (hb hby at_513) (by decide) (by decide) (Steps.refl _)) ?_
        show own_G p.tables e below _ (T8.setTop (mkF m 563 #[.val (.int x0), .val (.int x1), .val (.int x2), .val (.int x3), .val (.int x4), .val (.int x5), .val (.ref b1), .val (.int of), .val (.int ln), .val (.int q0), .val (.int q1), .val (.int vb0), .val (.int vb1), .val (.int (own_tok (own_g q0 vb0 q1 vb1) of ln)), .val (.int (0 : Int32))] []))
        refine own_fs (XS.iload X8.here hx rfl (hb hby at_563) rfl (Steps.refl _)) ?_
        show own_G p.tables e below _ (T8.setTop (mkF m 565 #[.val (.int x0), .val (.int x1), .val (.int x2), .val (.int x3), .val (.int x4), .val (.int x5), .val (.ref b1), .val (.int of), .val (.int ln), .val (.int q0), .val (.int q1), .val (.int vb0), .val (.int vb1), .val (.int (own_tok (own_g q0 vb0 q1 vb1) of ln)), .val (.int (0 : Int32))] [(.int (own_tok (own_g q0 vb0 q1 vb1) of ln))]))
        refine own_fs (XS.iload X8.here hx rfl (hb hby at_565) rfl (Steps.refl _)) ?_
        show own_G p.tables e below _ (T8.setTop (mkF m 567 #[.val (.int x0), .val (.int x1), .val (.int x2), .val (.int x3), .val (.int x4), .val (.int x5), .val (.ref b1), .val (.int of), .val (.int ln), .val (.int q0), .val (.int q1), .val (.int vb0), .val (.int vb1), .val (.int (own_tok (own_g q0 vb0 q1 vb1) of ln)), .val (.int (0 : Int32))] [(.int (0 : Int32)), (.int (own_tok (own_g q0 vb0 q1 vb1) of ln))]))
        refine own_fs (XS.icmpNo X8.here hx rfl (hb hby at_567) rfl (XT.ii_ne_f (by simp only [own_tok, hc500, ↓reduceIte])) (Steps.refl _)) ?_
        show own_G p.tables e below _ (T8.setTop (mkF m 570 #[.val (.int x0), .val (.int x1), .val (.int x2), .val (.int x3), .val (.int x4), .val (.int x5), .val (.ref b1), .val (.int of), .val (.int ln), .val (.int q0), .val (.int q1), .val (.int vb0), .val (.int vb1), .val (.int (own_tok (own_g q0 vb0 q1 vb1) of ln)), .val (.int (0 : Int32))] []))
        refine own_fs (XS.iconst X8.here hx rfl (hb hby at_570) (Steps.refl _)) ?_
        show own_G p.tables e below _ (T8.setTop (mkF m 571 #[.val (.int x0), .val (.int x1), .val (.int x2), .val (.int x3), .val (.int x4), .val (.int x5), .val (.ref b1), .val (.int of), .val (.int ln), .val (.int q0), .val (.int q1), .val (.int vb0), .val (.int vb1), .val (.int (own_tok (own_g q0 vb0 q1 vb1) of ln)), .val (.int (0 : Int32))] [(.int (1 : Int32))]))
        refine own_fs (XS.goto X8.here hx rfl (pc0 := 571) (pc' := 575) rfl (hb hby at_571) (by decide) (by decide) (Steps.refl _)) ?_
        show own_G p.tables e below _ (T8.setTop (mkF m 575 #[.val (.int x0), .val (.int x1), .val (.int x2), .val (.int x3), .val (.int x4), .val (.int x5), .val (.ref b1), .val (.int of), .val (.int ln), .val (.int q0), .val (.int q1), .val (.int vb0), .val (.int vb1), .val (.int (own_tok (own_g q0 vb0 q1 vb1) of ln)), .val (.int (0 : Int32))] [(.int (1 : Int32))]))
        exact own_retN X8 hx (t := .boolean) Bd.returns hlk (by simp) (hb hby at_575) (by decide) (by decide) e8 ⟨rfl, N8⟩
      · refine own_fs (XS.icmpNo X8.here hx rfl (hb hby at_500) rfl (XT.ii_lt_f hc500) (Steps.refl _)) ?_
        show own_G p.tables e below _ (T8.setTop (mkF m 503 #[.val (.int x0), .val (.int x1), .val (.int x2), .val (.int x3), .val (.int x4), .val (.int x5), .val (.ref b1), .val (.int of), .val (.int ln), .val (.int q0), .val (.int q1), .val (.int vb0), .val (.int vb1), .val (.int (own_tok (own_g q0 vb0 q1 vb1) of ln)), .unset] []))
        refine own_fs (XS.iload X8.here hx rfl (hb hby at_503) rfl (Steps.refl _)) ?_
        show own_G p.tables e below _ (T8.setTop (mkF m 505 #[.val (.int x0), .val (.int x1), .val (.int x2), .val (.int x3), .val (.int x4), .val (.int x5), .val (.ref b1), .val (.int of), .val (.int ln), .val (.int q0), .val (.int q1), .val (.int vb0), .val (.int vb1), .val (.int (own_tok (own_g q0 vb0 q1 vb1) of ln)), .unset] [(.int ln)]))
        refine own_fs (XS.bipush X8.here hx rfl (hb hby at_505) (Steps.refl _)) ?_
        show own_G p.tables e below _ (T8.setTop (mkF m 507 #[.val (.int x0), .val (.int x1), .val (.int x2), .val (.int x3), .val (.int x4), .val (.int x5), .val (.ref b1), .val (.int of), .val (.int ln), .val (.int q0), .val (.int q1), .val (.int vb0), .val (.int vb1), .val (.int (own_tok (own_g q0 vb0 q1 vb1) of ln)), .unset] [(.int (64 : Int32)), (.int ln)]))
        by_cases hc507 : (64 : Int32) < ln
        · refine own_fs (XS.icmpNo X8.here hx rfl (hb hby at_507) rfl (XT.ii_le_f hc507) (Steps.refl _)) ?_
          show own_G p.tables e below _ (T8.setTop (mkF m 510 #[.val (.int x0), .val (.int x1), .val (.int x2), .val (.int x3), .val (.int x4), .val (.int x5), .val (.ref b1), .val (.int of), .val (.int ln), .val (.int q0), .val (.int q1), .val (.int vb0), .val (.int vb1), .val (.int (own_tok (own_g q0 vb0 q1 vb1) of ln)), .unset] []))
          refine own_fs (XS.iconst X8.here hx rfl (hb hby at_510) (Steps.refl _)) ?_
          show own_G p.tables e below _ (T8.setTop (mkF m 511 #[.val (.int x0), .val (.int x1), .val (.int x2), .val (.int x3), .val (.int x4), .val (.int x5), .val (.ref b1), .val (.int of), .val (.int ln), .val (.int q0), .val (.int q1), .val (.int vb0), .val (.int vb1), .val (.int (own_tok (own_g q0 vb0 q1 vb1) of ln)), .unset] [(.int (0 : Int32))]))
          refine own_fs (XS.istore X8.here hx rfl (hb hby at_511) rfl (l' := #[.val (.int x0), .val (.int x1), .val (.int x2), .val (.int x3), .val (.int x4), .val (.int x5), .val (.ref b1), .val (.int of), .val (.int ln), .val (.int q0), .val (.int q1), .val (.int vb0), .val (.int vb1), .val (.int (own_tok (own_g q0 vb0 q1 vb1) of ln)), .val (.int (0 : Int32))]) rfl (Steps.refl _)) ?_
          show own_G p.tables e below _ (T8.setTop (mkF m 513 #[.val (.int x0), .val (.int x1), .val (.int x2), .val (.int x3), .val (.int x4), .val (.int x5), .val (.ref b1), .val (.int of), .val (.int ln), .val (.int q0), .val (.int q1), .val (.int vb0), .val (.int vb1), .val (.int (own_tok (own_g q0 vb0 q1 vb1) of ln)), .val (.int (0 : Int32))] []))
          refine own_fs (XS.goto X8.here hx rfl (pc0 := 513) (pc' := 563) rfl (hb hby at_513) (by decide) (by decide) (Steps.refl _)) ?_
          show own_G p.tables e below _ (T8.setTop (mkF m 563 #[.val (.int x0), .val (.int x1), .val (.int x2), .val (.int x3), .val (.int x4), .val (.int x5), .val (.ref b1), .val (.int of), .val (.int ln), .val (.int q0), .val (.int q1), .val (.int vb0), .val (.int vb1), .val (.int (own_tok (own_g q0 vb0 q1 vb1) of ln)), .val (.int (0 : Int32))] []))
          refine own_fs (XS.iload X8.here hx rfl (hb hby at_563) rfl (Steps.refl _)) ?_
          show own_G p.tables e below _ (T8.setTop (mkF m 565 #[.val (.int x0), .val (.int x1), .val (.int x2), .val (.int x3), .val (.int x4), .val (.int x5), .val (.ref b1), .val (.int of), .val (.int ln), .val (.int q0), .val (.int q1), .val (.int vb0), .val (.int vb1), .val (.int (own_tok (own_g q0 vb0 q1 vb1) of ln)), .val (.int (0 : Int32))] [(.int (own_tok (own_g q0 vb0 q1 vb1) of ln))]))
          refine own_fs (XS.iload X8.here hx rfl (hb hby at_565) rfl (Steps.refl _)) ?_
          show own_G p.tables e below _ (T8.setTop (mkF m 567 #[.val (.int x0), .val (.int x1), .val (.int x2), .val (.int x3), .val (.int x4), .val (.int x5), .val (.ref b1), .val (.int of), .val (.int ln), .val (.int q0), .val (.int q1), .val (.int vb0), .val (.int vb1), .val (.int (own_tok (own_g q0 vb0 q1 vb1) of ln)), .val (.int (0 : Int32))] [(.int (0 : Int32)), (.int (own_tok (own_g q0 vb0 q1 vb1) of ln))]))
          refine own_fs (XS.icmpNo X8.here hx rfl (hb hby at_567) rfl (XT.ii_ne_f (by simp only [own_tok, hc500, hc507, ↓reduceIte])) (Steps.refl _)) ?_
          show own_G p.tables e below _ (T8.setTop (mkF m 570 #[.val (.int x0), .val (.int x1), .val (.int x2), .val (.int x3), .val (.int x4), .val (.int x5), .val (.ref b1), .val (.int of), .val (.int ln), .val (.int q0), .val (.int q1), .val (.int vb0), .val (.int vb1), .val (.int (own_tok (own_g q0 vb0 q1 vb1) of ln)), .val (.int (0 : Int32))] []))
          refine own_fs (XS.iconst X8.here hx rfl (hb hby at_570) (Steps.refl _)) ?_
          show own_G p.tables e below _ (T8.setTop (mkF m 571 #[.val (.int x0), .val (.int x1), .val (.int x2), .val (.int x3), .val (.int x4), .val (.int x5), .val (.ref b1), .val (.int of), .val (.int ln), .val (.int q0), .val (.int q1), .val (.int vb0), .val (.int vb1), .val (.int (own_tok (own_g q0 vb0 q1 vb1) of ln)), .val (.int (0 : Int32))] [(.int (1 : Int32))]))
          refine own_fs (XS.goto X8.here hx rfl (pc0 := 571) (pc' := 575) rfl (hb hby at_571) (by decide) (by decide) (Steps.refl _)) ?_
          show own_G p.tables e below _ (T8.setTop (mkF m 575 #[.val (.int x0), .val (.int x1), .val (.int x2), .val (.int x3), .val (.int x4), .val (.int x5), .val (.ref b1), .val (.int of), .val (.int ln), .val (.int q0), .val (.int q1), .val (.int vb0), .val (.int vb1), .val (.int (own_tok (own_g q0 vb0 q1 vb1) of ln)), .val (.int (0 : Int32))] [(.int (1 : Int32))]))
          exact own_retN X8 hx (t := .boolean) Bd.returns hlk (by simp) (hb hby at_575) (by decide) (by decide) e8 ⟨rfl, N8⟩
        · refine own_fs (XS.icmpYes X8.here hx rfl (pc0 := 507) (pc' := 516) rfl (hb hby at_507) rfl (XT.ii_le_t hc507) (by decide) (by decide) (Steps.refl _)) ?_
          show own_G p.tables e below _ (T8.setTop (mkF m 516 #[.val (.int x0), .val (.int x1), .val (.int x2), .val (.int x3), .val (.int x4), .val (.int x5), .val (.ref b1), .val (.int of), .val (.int ln), .val (.int q0), .val (.int q1), .val (.int vb0), .val (.int vb1), .val (.int (own_tok (own_g q0 vb0 q1 vb1) of ln)), .unset] []))
          refine own_fs (XS.iload X8.here hx rfl (hb hby at_516) rfl (Steps.refl _)) ?_
          show own_G p.tables e below _ (T8.setTop (mkF m 518 #[.val (.int x0), .val (.int x1), .val (.int x2), .val (.int x3), .val (.int x4), .val (.int x5), .val (.ref b1), .val (.int of), .val (.int ln), .val (.int q0), .val (.int q1), .val (.int vb0), .val (.int vb1), .val (.int (own_tok (own_g q0 vb0 q1 vb1) of ln)), .unset] [(.int q0)]))
          refine own_fs (XS.iload X8.here hx rfl (hb hby at_518) rfl (Steps.refl _)) ?_
          show own_G p.tables e below _ (T8.setTop (mkF m 520 #[.val (.int x0), .val (.int x1), .val (.int x2), .val (.int x3), .val (.int x4), .val (.int x5), .val (.ref b1), .val (.int of), .val (.int ln), .val (.int q0), .val (.int q1), .val (.int vb0), .val (.int vb1), .val (.int (own_tok (own_g q0 vb0 q1 vb1) of ln)), .unset] [(.int of), (.int q0)]))
          refine own_fs (XS.iload X8.here hx rfl (hb hby at_520) rfl (Steps.refl _)) ?_
          show own_G p.tables e below _ (T8.setTop (mkF m 522 #[.val (.int x0), .val (.int x1), .val (.int x2), .val (.int x3), .val (.int x4), .val (.int x5), .val (.ref b1), .val (.int of), .val (.int ln), .val (.int q0), .val (.int q1), .val (.int vb0), .val (.int vb1), .val (.int (own_tok (own_g q0 vb0 q1 vb1) of ln)), .unset] [(.int ln), (.int of), (.int q0)]))
          have Zs12 : n0 ≤ h6.size := Zb7
          obtain ⟨_, _, ⟨T11, L11, k11, n11⟩, -, X11, ⟨Lc11, hQ11, l11, y11, z11⟩, st11⟩ := Jvm.LawKit.callS X8 hx (y := (⟨"convoke/model/TokensIsTokenPinLaw", "inside", "(III)Z"⟩ : MethodName)) hown (mvT hZ (hw _ (List.mem_of_getElem? (i := 8) rfl))) (mvT hZ (hw _ (List.mem_of_getElem? (i := 9) rfl))) (mvT hZ (hw _ (List.mem_of_getElem? (i := 10) rfl))) (mvT hZ (hw _ (List.mem_of_getElem? (i := 11) rfl))) (by decide) (backOf (W := 0) (own_rinside l Z a0 hw [] q0 of ln h6 n0 Zs12 ) hZ (hw _ (List.mem_of_getElem? (i := 11) rfl)) (hw _ (List.mem_of_getElem? (i := 10) rfl)) (by decide) (by decide)) (g := (mkF m 522 #[.val (.int x0), .val (.int x1), .val (.int x2), .val (.int x3), .val (.int x4), .val (.int x5), .val (.ref b1), .val (.int of), .val (.int ln), .val (.int q0), .val (.int q1), .val (.int vb0), .val (.int vb1), .val (.int (own_tok (own_g q0 vb0 q1 vb1) of ln)), .unset] [(.int ln), (.int of), (.int q0)])) rfl (by rw [hml]; rfl) (argsL := [(.int q0), (.int of), (.int ln)]) (rest := []) (lenOf own_pd1 rfl) rfl (by show 2 * 0 + _ ≤ _; exact Nat.le_of_eq rfl) (hb hby at_522) (fun _ _ => ⟨rfl, e8, (by decide : 1 + 0 ≤ _), (by decide : 68 + 0 ≤ _)⟩)
          dsimp only [Pt.U, Pt.locs, Pt.cells, Pt.slots] at X11 l11 y11 z11 st11 hQ11
          subst l11 y11 z11
          obtain ⟨rfl, Nq11, e11⟩ := hQ11
          have N11 := Fr.app N8 Nq11
          refine own_fs (st11 _ (Steps.refl _)) ?_
          show own_G p.tables e below _ (T11.setTop (mkF m 525 #[.val (.int x0), .val (.int x1), .val (.int x2), .val (.int x3), .val (.int x4), .val (.int x5), .val (.ref b1), .val (.int of), .val (.int ln), .val (.int q0), .val (.int q1), .val (.int vb0), .val (.int vb1), .val (.int (own_tok (own_g q0 vb0 q1 vb1) of ln)), .unset] [(.int (own_inside q0 of ln))]))
          by_cases hc525 : (own_inside q0 of ln) = (0 : Int32)
          · refine own_fs (XS.ifYes X11.here hx rfl (pc0 := 525) (pc' := 536) rfl (hb hby at_525) rfl (XT.i0_eq_t hc525) (by decide) (by decide) (Steps.refl _)) ?_
            show own_G p.tables e below _ (T11.setTop (mkF m 536 #[.val (.int x0), .val (.int x1), .val (.int x2), .val (.int x3), .val (.int x4), .val (.int x5), .val (.ref b1), .val (.int of), .val (.int ln), .val (.int q0), .val (.int q1), .val (.int vb0), .val (.int vb1), .val (.int (own_tok (own_g q0 vb0 q1 vb1) of ln)), .unset] []))
            refine own_fs (XS.iload X11.here hx rfl (hb hby at_536) rfl (Steps.refl _)) ?_
            show own_G p.tables e below _ (T11.setTop (mkF m 538 #[.val (.int x0), .val (.int x1), .val (.int x2), .val (.int x3), .val (.int x4), .val (.int x5), .val (.ref b1), .val (.int of), .val (.int ln), .val (.int q0), .val (.int q1), .val (.int vb0), .val (.int vb1), .val (.int (own_tok (own_g q0 vb0 q1 vb1) of ln)), .unset] [(.int q1)]))
            refine own_fs (XS.iload X11.here hx rfl (hb hby at_538) rfl (Steps.refl _)) ?_
            show own_G p.tables e below _ (T11.setTop (mkF m 540 #[.val (.int x0), .val (.int x1), .val (.int x2), .val (.int x3), .val (.int x4), .val (.int x5), .val (.ref b1), .val (.int of), .val (.int ln), .val (.int q0), .val (.int q1), .val (.int vb0), .val (.int vb1), .val (.int (own_tok (own_g q0 vb0 q1 vb1) of ln)), .unset] [(.int of), (.int q1)]))
            refine own_fs (XS.iload X11.here hx rfl (hb hby at_540) rfl (Steps.refl _)) ?_
            show own_G p.tables e below _ (T11.setTop (mkF m 542 #[.val (.int x0), .val (.int x1), .val (.int x2), .val (.int x3), .val (.int x4), .val (.int x5), .val (.ref b1), .val (.int of), .val (.int ln), .val (.int q0), .val (.int q1), .val (.int vb0), .val (.int vb1), .val (.int (own_tok (own_g q0 vb0 q1 vb1) of ln)), .unset] [(.int ln), (.int of), (.int q1)]))
            have Zs15 : n0 ≤ h6.size := Zb7
            obtain ⟨_, _, ⟨T14, L14, k14, n14⟩, -, X14, ⟨Lc14, hQ14, l14, y14, z14⟩, st14⟩ := Jvm.LawKit.callS X11 hx (y := (⟨"convoke/model/TokensIsTokenPinLaw", "inside", "(III)Z"⟩ : MethodName)) hown (mvT hZ (hw _ (List.mem_of_getElem? (i := 8) rfl))) (mvT hZ (hw _ (List.mem_of_getElem? (i := 9) rfl))) (mvT hZ (hw _ (List.mem_of_getElem? (i := 10) rfl))) (mvT hZ (hw _ (List.mem_of_getElem? (i := 11) rfl))) (by decide) (backOf (W := 0) (own_rinside l Z a0 hw [] q1 of ln h6 n0 Zs15 ) hZ (hw _ (List.mem_of_getElem? (i := 11) rfl)) (hw _ (List.mem_of_getElem? (i := 10) rfl)) (by decide) (by decide)) (g := (mkF m 542 #[.val (.int x0), .val (.int x1), .val (.int x2), .val (.int x3), .val (.int x4), .val (.int x5), .val (.ref b1), .val (.int of), .val (.int ln), .val (.int q0), .val (.int q1), .val (.int vb0), .val (.int vb1), .val (.int (own_tok (own_g q0 vb0 q1 vb1) of ln)), .unset] [(.int ln), (.int of), (.int q1)])) rfl (by rw [hml]; rfl) (argsL := [(.int q1), (.int of), (.int ln)]) (rest := []) (lenOf own_pd1 rfl) rfl (by show 2 * 0 + _ ≤ _; exact Nat.le_of_eq rfl) (hb hby at_542) (fun _ _ => ⟨rfl, e11, (by decide : 1 + 0 ≤ _), (by decide : 68 + 0 ≤ _)⟩)
            dsimp only [Pt.U, Pt.locs, Pt.cells, Pt.slots] at X14 l14 y14 z14 st14 hQ14
            subst l14 y14 z14
            obtain ⟨rfl, Nq14, e14⟩ := hQ14
            have N14 := Fr.app N11 Nq14
            refine own_fs (st14 _ (Steps.refl _)) ?_
            show own_G p.tables e below _ (T14.setTop (mkF m 545 #[.val (.int x0), .val (.int x1), .val (.int x2), .val (.int x3), .val (.int x4), .val (.int x5), .val (.ref b1), .val (.int of), .val (.int ln), .val (.int q0), .val (.int q1), .val (.int vb0), .val (.int vb1), .val (.int (own_tok (own_g q0 vb0 q1 vb1) of ln)), .unset] [(.int (own_inside q1 of ln))]))
            by_cases hc545 : (own_inside q1 of ln) = (0 : Int32)
            · refine own_fs (XS.ifYes X14.here hx rfl (pc0 := 545) (pc' := 556) rfl (hb hby at_545) rfl (XT.i0_eq_t hc545) (by decide) (by decide) (Steps.refl _)) ?_
              show own_G p.tables e below _ (T14.setTop (mkF m 556 #[.val (.int x0), .val (.int x1), .val (.int x2), .val (.int x3), .val (.int x4), .val (.int x5), .val (.ref b1), .val (.int of), .val (.int ln), .val (.int q0), .val (.int q1), .val (.int vb0), .val (.int vb1), .val (.int (own_tok (own_g q0 vb0 q1 vb1) of ln)), .unset] []))
              refine own_fs (XS.iconst X14.here hx rfl (hb hby at_556) (Steps.refl _)) ?_
              show own_G p.tables e below _ (T14.setTop (mkF m 557 #[.val (.int x0), .val (.int x1), .val (.int x2), .val (.int x3), .val (.int x4), .val (.int x5), .val (.ref b1), .val (.int of), .val (.int ln), .val (.int q0), .val (.int q1), .val (.int vb0), .val (.int vb1), .val (.int (own_tok (own_g q0 vb0 q1 vb1) of ln)), .unset] [(.int (1 : Int32))]))
              refine own_fs (XS.goto X14.here hx rfl (pc0 := 557) (pc' := 561) rfl (hb hby at_557) (by decide) (by decide) (Steps.refl _)) ?_
              show own_G p.tables e below _ (T14.setTop (mkF m 561 #[.val (.int x0), .val (.int x1), .val (.int x2), .val (.int x3), .val (.int x4), .val (.int x5), .val (.ref b1), .val (.int of), .val (.int ln), .val (.int q0), .val (.int q1), .val (.int vb0), .val (.int vb1), .val (.int (own_tok (own_g q0 vb0 q1 vb1) of ln)), .unset] [(.int (1 : Int32))]))
              refine own_fs (XS.istore X14.here hx rfl (hb hby at_561) rfl (l' := #[.val (.int x0), .val (.int x1), .val (.int x2), .val (.int x3), .val (.int x4), .val (.int x5), .val (.ref b1), .val (.int of), .val (.int ln), .val (.int q0), .val (.int q1), .val (.int vb0), .val (.int vb1), .val (.int (own_tok (own_g q0 vb0 q1 vb1) of ln)), .val (.int (1 : Int32))]) rfl (Steps.refl _)) ?_
              show own_G p.tables e below _ (T14.setTop (mkF m 563 #[.val (.int x0), .val (.int x1), .val (.int x2), .val (.int x3), .val (.int x4), .val (.int x5), .val (.ref b1), .val (.int of), .val (.int ln), .val (.int q0), .val (.int q1), .val (.int vb0), .val (.int vb1), .val (.int (own_tok (own_g q0 vb0 q1 vb1) of ln)), .val (.int (1 : Int32))] []))
              refine own_fs (XS.iload X14.here hx rfl (hb hby at_563) rfl (Steps.refl _)) ?_
              show own_G p.tables e below _ (T14.setTop (mkF m 565 #[.val (.int x0), .val (.int x1), .val (.int x2), .val (.int x3), .val (.int x4), .val (.int x5), .val (.ref b1), .val (.int of), .val (.int ln), .val (.int q0), .val (.int q1), .val (.int vb0), .val (.int vb1), .val (.int (own_tok (own_g q0 vb0 q1 vb1) of ln)), .val (.int (1 : Int32))] [(.int (own_tok (own_g q0 vb0 q1 vb1) of ln))]))
              refine own_fs (XS.iload X14.here hx rfl (hb hby at_565) rfl (Steps.refl _)) ?_
              show own_G p.tables e below _ (T14.setTop (mkF m 567 #[.val (.int x0), .val (.int x1), .val (.int x2), .val (.int x3), .val (.int x4), .val (.int x5), .val (.ref b1), .val (.int of), .val (.int ln), .val (.int q0), .val (.int q1), .val (.int vb0), .val (.int vb1), .val (.int (own_tok (own_g q0 vb0 q1 vb1) of ln)), .val (.int (1 : Int32))] [(.int (1 : Int32)), (.int (own_tok (own_g q0 vb0 q1 vb1) of ln))]))
              refine own_fs (XS.icmpNo X14.here hx rfl (hb hby at_567) rfl (XT.ii_ne_f (by rw [own_main hq0.1 hq1.1.1 hq1.2 hof hc500 hc507]; simp only [own_exp, hc500, hc507, hc525, hc545, ↓reduceIte])) (Steps.refl _)) ?_
              show own_G p.tables e below _ (T14.setTop (mkF m 570 #[.val (.int x0), .val (.int x1), .val (.int x2), .val (.int x3), .val (.int x4), .val (.int x5), .val (.ref b1), .val (.int of), .val (.int ln), .val (.int q0), .val (.int q1), .val (.int vb0), .val (.int vb1), .val (.int (own_tok (own_g q0 vb0 q1 vb1) of ln)), .val (.int (1 : Int32))] []))
              refine own_fs (XS.iconst X14.here hx rfl (hb hby at_570) (Steps.refl _)) ?_
              show own_G p.tables e below _ (T14.setTop (mkF m 571 #[.val (.int x0), .val (.int x1), .val (.int x2), .val (.int x3), .val (.int x4), .val (.int x5), .val (.ref b1), .val (.int of), .val (.int ln), .val (.int q0), .val (.int q1), .val (.int vb0), .val (.int vb1), .val (.int (own_tok (own_g q0 vb0 q1 vb1) of ln)), .val (.int (1 : Int32))] [(.int (1 : Int32))]))
              refine own_fs (XS.goto X14.here hx rfl (pc0 := 571) (pc' := 575) rfl (hb hby at_571) (by decide) (by decide) (Steps.refl _)) ?_
              show own_G p.tables e below _ (T14.setTop (mkF m 575 #[.val (.int x0), .val (.int x1), .val (.int x2), .val (.int x3), .val (.int x4), .val (.int x5), .val (.ref b1), .val (.int of), .val (.int ln), .val (.int q0), .val (.int q1), .val (.int vb0), .val (.int vb1), .val (.int (own_tok (own_g q0 vb0 q1 vb1) of ln)), .val (.int (1 : Int32))] [(.int (1 : Int32))]))
              exact own_retN X14 hx (t := .boolean) Bd.returns hlk (by simp) (hb hby at_575) (by decide) (by decide) e14 ⟨rfl, N14⟩
            · refine own_fs (XS.ifNo X14.here hx rfl (hb hby at_545) rfl (XT.i0_eq_f hc545) (Steps.refl _)) ?_
              show own_G p.tables e below _ (T14.setTop (mkF m 548 #[.val (.int x0), .val (.int x1), .val (.int x2), .val (.int x3), .val (.int x4), .val (.int x5), .val (.ref b1), .val (.int of), .val (.int ln), .val (.int q0), .val (.int q1), .val (.int vb0), .val (.int vb1), .val (.int (own_tok (own_g q0 vb0 q1 vb1) of ln)), .unset] []))
              refine own_fs (XS.iload X14.here hx rfl (hb hby at_548) rfl (Steps.refl _)) ?_
              show own_G p.tables e below _ (T14.setTop (mkF m 550 #[.val (.int x0), .val (.int x1), .val (.int x2), .val (.int x3), .val (.int x4), .val (.int x5), .val (.ref b1), .val (.int of), .val (.int ln), .val (.int q0), .val (.int q1), .val (.int vb0), .val (.int vb1), .val (.int (own_tok (own_g q0 vb0 q1 vb1) of ln)), .unset] [(.int vb1)]))
              have Zs18 : n0 ≤ h6.size := Zb7
              obtain ⟨_, _, ⟨T17, L17, k17, n17⟩, -, X17, ⟨Lc17, hQ17, l17, y17, z17⟩, st17⟩ := Jvm.LawKit.callS X14 hx (y := (⟨"convoke/model/TokensIsTokenPinLaw", "valid", "(B)Z"⟩ : MethodName)) hown (mvT hZ (hw _ (List.mem_of_getElem? (i := 12) rfl))) (mvT hZ (hw _ (List.mem_of_getElem? (i := 13) rfl))) (mvT hZ (hw _ (List.mem_of_getElem? (i := 10) rfl))) (mvT hZ (hw _ (List.mem_of_getElem? (i := 14) rfl))) (by decide) (backOf (W := 0) (own_rvalid l Z a0 hw [] vb1 h6 n0 Zs18 ) hZ (hw _ (List.mem_of_getElem? (i := 14) rfl)) (hw _ (List.mem_of_getElem? (i := 10) rfl)) (by decide) (by decide)) (g := (mkF m 550 #[.val (.int x0), .val (.int x1), .val (.int x2), .val (.int x3), .val (.int x4), .val (.int x5), .val (.ref b1), .val (.int of), .val (.int ln), .val (.int q0), .val (.int q1), .val (.int vb0), .val (.int vb1), .val (.int (own_tok (own_g q0 vb0 q1 vb1) of ln)), .unset] [(.int vb1)])) rfl (by rw [hml]; rfl) (argsL := [(.int vb1)]) (rest := []) (lenOf own_pd2 rfl) rfl (by show 2 * 0 + _ ≤ _; exact Nat.le_of_eq rfl) (hb hby at_550) (fun _ _ => ⟨rfl, e14, (by decide : 1 + 0 ≤ _), (by decide : 68 + 0 ≤ _)⟩)
              dsimp only [Pt.U, Pt.locs, Pt.cells, Pt.slots] at X17 l17 y17 z17 st17 hQ17
              subst l17 y17 z17
              obtain ⟨rfl, Nq17, e17⟩ := hQ17
              have N17 := Fr.app N14 Nq17
              refine own_fs (st17 _ (Steps.refl _)) ?_
              show own_G p.tables e below _ (T17.setTop (mkF m 553 #[.val (.int x0), .val (.int x1), .val (.int x2), .val (.int x3), .val (.int x4), .val (.int x5), .val (.ref b1), .val (.int of), .val (.int ln), .val (.int q0), .val (.int q1), .val (.int vb0), .val (.int vb1), .val (.int (own_tok (own_g q0 vb0 q1 vb1) of ln)), .unset] [(.int (own_valid vb1))]))
              by_cases hc553 : (own_valid vb1) = (0 : Int32)
              · refine own_fs (XS.ifYes X17.here hx rfl (pc0 := 553) (pc' := 560) rfl (hb hby at_553) rfl (XT.i0_eq_t hc553) (by decide) (by decide) (Steps.refl _)) ?_
                show own_G p.tables e below _ (T17.setTop (mkF m 560 #[.val (.int x0), .val (.int x1), .val (.int x2), .val (.int x3), .val (.int x4), .val (.int x5), .val (.ref b1), .val (.int of), .val (.int ln), .val (.int q0), .val (.int q1), .val (.int vb0), .val (.int vb1), .val (.int (own_tok (own_g q0 vb0 q1 vb1) of ln)), .unset] []))
                refine own_fs (XS.iconst X17.here hx rfl (hb hby at_560) (Steps.refl _)) ?_
                show own_G p.tables e below _ (T17.setTop (mkF m 561 #[.val (.int x0), .val (.int x1), .val (.int x2), .val (.int x3), .val (.int x4), .val (.int x5), .val (.ref b1), .val (.int of), .val (.int ln), .val (.int q0), .val (.int q1), .val (.int vb0), .val (.int vb1), .val (.int (own_tok (own_g q0 vb0 q1 vb1) of ln)), .unset] [(.int (0 : Int32))]))
                refine own_fs (XS.istore X17.here hx rfl (hb hby at_561) rfl (l' := #[.val (.int x0), .val (.int x1), .val (.int x2), .val (.int x3), .val (.int x4), .val (.int x5), .val (.ref b1), .val (.int of), .val (.int ln), .val (.int q0), .val (.int q1), .val (.int vb0), .val (.int vb1), .val (.int (own_tok (own_g q0 vb0 q1 vb1) of ln)), .val (.int (0 : Int32))]) rfl (Steps.refl _)) ?_
                show own_G p.tables e below _ (T17.setTop (mkF m 563 #[.val (.int x0), .val (.int x1), .val (.int x2), .val (.int x3), .val (.int x4), .val (.int x5), .val (.ref b1), .val (.int of), .val (.int ln), .val (.int q0), .val (.int q1), .val (.int vb0), .val (.int vb1), .val (.int (own_tok (own_g q0 vb0 q1 vb1) of ln)), .val (.int (0 : Int32))] []))
                refine own_fs (XS.iload X17.here hx rfl (hb hby at_563) rfl (Steps.refl _)) ?_
                show own_G p.tables e below _ (T17.setTop (mkF m 565 #[.val (.int x0), .val (.int x1), .val (.int x2), .val (.int x3), .val (.int x4), .val (.int x5), .val (.ref b1), .val (.int of), .val (.int ln), .val (.int q0), .val (.int q1), .val (.int vb0), .val (.int vb1), .val (.int (own_tok (own_g q0 vb0 q1 vb1) of ln)), .val (.int (0 : Int32))] [(.int (own_tok (own_g q0 vb0 q1 vb1) of ln))]))
                refine own_fs (XS.iload X17.here hx rfl (hb hby at_565) rfl (Steps.refl _)) ?_
                show own_G p.tables e below _ (T17.setTop (mkF m 567 #[.val (.int x0), .val (.int x1), .val (.int x2), .val (.int x3), .val (.int x4), .val (.int x5), .val (.ref b1), .val (.int of), .val (.int ln), .val (.int q0), .val (.int q1), .val (.int vb0), .val (.int vb1), .val (.int (own_tok (own_g q0 vb0 q1 vb1) of ln)), .val (.int (0 : Int32))] [(.int (0 : Int32)), (.int (own_tok (own_g q0 vb0 q1 vb1) of ln))]))
                refine own_fs (XS.icmpNo X17.here hx rfl (hb hby at_567) rfl (XT.ii_ne_f (by rw [own_main hq0.1 hq1.1.1 hq1.2 hof hc500 hc507]; simp only [own_exp, hc500, hc507, hc525, hc545, hc553, ↓reduceIte])) (Steps.refl _)) ?_
                show own_G p.tables e below _ (T17.setTop (mkF m 570 #[.val (.int x0), .val (.int x1), .val (.int x2), .val (.int x3), .val (.int x4), .val (.int x5), .val (.ref b1), .val (.int of), .val (.int ln), .val (.int q0), .val (.int q1), .val (.int vb0), .val (.int vb1), .val (.int (own_tok (own_g q0 vb0 q1 vb1) of ln)), .val (.int (0 : Int32))] []))
                refine own_fs (XS.iconst X17.here hx rfl (hb hby at_570) (Steps.refl _)) ?_
                show own_G p.tables e below _ (T17.setTop (mkF m 571 #[.val (.int x0), .val (.int x1), .val (.int x2), .val (.int x3), .val (.int x4), .val (.int x5), .val (.ref b1), .val (.int of), .val (.int ln), .val (.int q0), .val (.int q1), .val (.int vb0), .val (.int vb1), .val (.int (own_tok (own_g q0 vb0 q1 vb1) of ln)), .val (.int (0 : Int32))] [(.int (1 : Int32))]))
                refine own_fs (XS.goto X17.here hx rfl (pc0 := 571) (pc' := 575) rfl (hb hby at_571) (by decide) (by decide) (Steps.refl _)) ?_
                show own_G p.tables e below _ (T17.setTop (mkF m 575 #[.val (.int x0), .val (.int x1), .val (.int x2), .val (.int x3), .val (.int x4), .val (.int x5), .val (.ref b1), .val (.int of), .val (.int ln), .val (.int q0), .val (.int q1), .val (.int vb0), .val (.int vb1), .val (.int (own_tok (own_g q0 vb0 q1 vb1) of ln)), .val (.int (0 : Int32))] [(.int (1 : Int32))]))
                exact own_retN X17 hx (t := .boolean) Bd.returns hlk (by simp) (hb hby at_575) (by decide) (by decide) e17 ⟨rfl, N17⟩
              · refine own_fs (XS.ifNo X17.here hx rfl (hb hby at_553) rfl (XT.i0_eq_f hc553) (Steps.refl _)) ?_
                show own_G p.tables e below _ (T17.setTop (mkF m 556 #[.val (.int x0), .val (.int x1), .val (.int x2), .val (.int x3), .val (.int x4), .val (.int x5), .val (.ref b1), .val (.int of), .val (.int ln), .val (.int q0), .val (.int q1), .val (.int vb0), .val (.int vb1), .val (.int (own_tok (own_g q0 vb0 q1 vb1) of ln)), .unset] []))
                refine own_fs (XS.iconst X17.here hx rfl (hb hby at_556) (Steps.refl _)) ?_
                show own_G p.tables e below _ (T17.setTop (mkF m 557 #[.val (.int x0), .val (.int x1), .val (.int x2), .val (.int x3), .val (.int x4), .val (.int x5), .val (.ref b1), .val (.int of), .val (.int ln), .val (.int q0), .val (.int q1), .val (.int vb0), .val (.int vb1), .val (.int (own_tok (own_g q0 vb0 q1 vb1) of ln)), .unset] [(.int (1 : Int32))]))
                refine own_fs (XS.goto X17.here hx rfl (pc0 := 557) (pc' := 561) rfl (hb hby at_557) (by decide) (by decide) (Steps.refl _)) ?_
                show own_G p.tables e below _ (T17.setTop (mkF m 561 #[.val (.int x0), .val (.int x1), .val (.int x2), .val (.int x3), .val (.int x4), .val (.int x5), .val (.ref b1), .val (.int of), .val (.int ln), .val (.int q0), .val (.int q1), .val (.int vb0), .val (.int vb1), .val (.int (own_tok (own_g q0 vb0 q1 vb1) of ln)), .unset] [(.int (1 : Int32))]))
                refine own_fs (XS.istore X17.here hx rfl (hb hby at_561) rfl (l' := #[.val (.int x0), .val (.int x1), .val (.int x2), .val (.int x3), .val (.int x4), .val (.int x5), .val (.ref b1), .val (.int of), .val (.int ln), .val (.int q0), .val (.int q1), .val (.int vb0), .val (.int vb1), .val (.int (own_tok (own_g q0 vb0 q1 vb1) of ln)), .val (.int (1 : Int32))]) rfl (Steps.refl _)) ?_
                show own_G p.tables e below _ (T17.setTop (mkF m 563 #[.val (.int x0), .val (.int x1), .val (.int x2), .val (.int x3), .val (.int x4), .val (.int x5), .val (.ref b1), .val (.int of), .val (.int ln), .val (.int q0), .val (.int q1), .val (.int vb0), .val (.int vb1), .val (.int (own_tok (own_g q0 vb0 q1 vb1) of ln)), .val (.int (1 : Int32))] []))
                refine own_fs (XS.iload X17.here hx rfl (hb hby at_563) rfl (Steps.refl _)) ?_
                show own_G p.tables e below _ (T17.setTop (mkF m 565 #[.val (.int x0), .val (.int x1), .val (.int x2), .val (.int x3), .val (.int x4), .val (.int x5), .val (.ref b1), .val (.int of), .val (.int ln), .val (.int q0), .val (.int q1), .val (.int vb0), .val (.int vb1), .val (.int (own_tok (own_g q0 vb0 q1 vb1) of ln)), .val (.int (1 : Int32))] [(.int (own_tok (own_g q0 vb0 q1 vb1) of ln))]))
                refine own_fs (XS.iload X17.here hx rfl (hb hby at_565) rfl (Steps.refl _)) ?_
                show own_G p.tables e below _ (T17.setTop (mkF m 567 #[.val (.int x0), .val (.int x1), .val (.int x2), .val (.int x3), .val (.int x4), .val (.int x5), .val (.ref b1), .val (.int of), .val (.int ln), .val (.int q0), .val (.int q1), .val (.int vb0), .val (.int vb1), .val (.int (own_tok (own_g q0 vb0 q1 vb1) of ln)), .val (.int (1 : Int32))] [(.int (1 : Int32)), (.int (own_tok (own_g q0 vb0 q1 vb1) of ln))]))
                refine own_fs (XS.icmpNo X17.here hx rfl (hb hby at_567) rfl (XT.ii_ne_f (by rw [own_main hq0.1 hq1.1.1 hq1.2 hof hc500 hc507]; simp only [own_exp, hc500, hc507, hc525, hc545, hc553, ↓reduceIte])) (Steps.refl _)) ?_
                show own_G p.tables e below _ (T17.setTop (mkF m 570 #[.val (.int x0), .val (.int x1), .val (.int x2), .val (.int x3), .val (.int x4), .val (.int x5), .val (.ref b1), .val (.int of), .val (.int ln), .val (.int q0), .val (.int q1), .val (.int vb0), .val (.int vb1), .val (.int (own_tok (own_g q0 vb0 q1 vb1) of ln)), .val (.int (1 : Int32))] []))
                refine own_fs (XS.iconst X17.here hx rfl (hb hby at_570) (Steps.refl _)) ?_
                show own_G p.tables e below _ (T17.setTop (mkF m 571 #[.val (.int x0), .val (.int x1), .val (.int x2), .val (.int x3), .val (.int x4), .val (.int x5), .val (.ref b1), .val (.int of), .val (.int ln), .val (.int q0), .val (.int q1), .val (.int vb0), .val (.int vb1), .val (.int (own_tok (own_g q0 vb0 q1 vb1) of ln)), .val (.int (1 : Int32))] [(.int (1 : Int32))]))
                refine own_fs (XS.goto X17.here hx rfl (pc0 := 571) (pc' := 575) rfl (hb hby at_571) (by decide) (by decide) (Steps.refl _)) ?_
                show own_G p.tables e below _ (T17.setTop (mkF m 575 #[.val (.int x0), .val (.int x1), .val (.int x2), .val (.int x3), .val (.int x4), .val (.int x5), .val (.ref b1), .val (.int of), .val (.int ln), .val (.int q0), .val (.int q1), .val (.int vb0), .val (.int vb1), .val (.int (own_tok (own_g q0 vb0 q1 vb1) of ln)), .val (.int (1 : Int32))] [(.int (1 : Int32))]))
                exact own_retN X17 hx (t := .boolean) Bd.returns hlk (by simp) (hb hby at_575) (by decide) (by decide) e17 ⟨rfl, N17⟩
          · refine own_fs (XS.ifNo X11.here hx rfl (hb hby at_525) rfl (XT.i0_eq_f hc525) (Steps.refl _)) ?_
            show own_G p.tables e below _ (T11.setTop (mkF m 528 #[.val (.int x0), .val (.int x1), .val (.int x2), .val (.int x3), .val (.int x4), .val (.int x5), .val (.ref b1), .val (.int of), .val (.int ln), .val (.int q0), .val (.int q1), .val (.int vb0), .val (.int vb1), .val (.int (own_tok (own_g q0 vb0 q1 vb1) of ln)), .unset] []))
            refine own_fs (XS.iload X11.here hx rfl (hb hby at_528) rfl (Steps.refl _)) ?_
            show own_G p.tables e below _ (T11.setTop (mkF m 530 #[.val (.int x0), .val (.int x1), .val (.int x2), .val (.int x3), .val (.int x4), .val (.int x5), .val (.ref b1), .val (.int of), .val (.int ln), .val (.int q0), .val (.int q1), .val (.int vb0), .val (.int vb1), .val (.int (own_tok (own_g q0 vb0 q1 vb1) of ln)), .unset] [(.int vb0)]))
            have Zs21 : n0 ≤ h6.size := Zb7
            obtain ⟨_, _, ⟨T20, L20, k20, n20⟩, -, X20, ⟨Lc20, hQ20, l20, y20, z20⟩, st20⟩ := Jvm.LawKit.callS X11 hx (y := (⟨"convoke/model/TokensIsTokenPinLaw", "valid", "(B)Z"⟩ : MethodName)) hown (mvT hZ (hw _ (List.mem_of_getElem? (i := 12) rfl))) (mvT hZ (hw _ (List.mem_of_getElem? (i := 13) rfl))) (mvT hZ (hw _ (List.mem_of_getElem? (i := 10) rfl))) (mvT hZ (hw _ (List.mem_of_getElem? (i := 14) rfl))) (by decide) (backOf (W := 0) (own_rvalid l Z a0 hw [] vb0 h6 n0 Zs21 ) hZ (hw _ (List.mem_of_getElem? (i := 14) rfl)) (hw _ (List.mem_of_getElem? (i := 10) rfl)) (by decide) (by decide)) (g := (mkF m 530 #[.val (.int x0), .val (.int x1), .val (.int x2), .val (.int x3), .val (.int x4), .val (.int x5), .val (.ref b1), .val (.int of), .val (.int ln), .val (.int q0), .val (.int q1), .val (.int vb0), .val (.int vb1), .val (.int (own_tok (own_g q0 vb0 q1 vb1) of ln)), .unset] [(.int vb0)])) rfl (by rw [hml]; rfl) (argsL := [(.int vb0)]) (rest := []) (lenOf own_pd2 rfl) rfl (by show 2 * 0 + _ ≤ _; exact Nat.le_of_eq rfl) (hb hby at_530) (fun _ _ => ⟨rfl, e11, (by decide : 1 + 0 ≤ _), (by decide : 68 + 0 ≤ _)⟩)
            dsimp only [Pt.U, Pt.locs, Pt.cells, Pt.slots] at X20 l20 y20 z20 st20 hQ20
            subst l20 y20 z20
            obtain ⟨rfl, Nq20, e20⟩ := hQ20
            have N20 := Fr.app N11 Nq20
            refine own_fs (st20 _ (Steps.refl _)) ?_
            show own_G p.tables e below _ (T20.setTop (mkF m 533 #[.val (.int x0), .val (.int x1), .val (.int x2), .val (.int x3), .val (.int x4), .val (.int x5), .val (.ref b1), .val (.int of), .val (.int ln), .val (.int q0), .val (.int q1), .val (.int vb0), .val (.int vb1), .val (.int (own_tok (own_g q0 vb0 q1 vb1) of ln)), .unset] [(.int (own_valid vb0))]))
            by_cases hc533 : (own_valid vb0) = (0 : Int32)
            · refine own_fs (XS.ifYes X20.here hx rfl (pc0 := 533) (pc' := 560) rfl (hb hby at_533) rfl (XT.i0_eq_t hc533) (by decide) (by decide) (Steps.refl _)) ?_
              show own_G p.tables e below _ (T20.setTop (mkF m 560 #[.val (.int x0), .val (.int x1), .val (.int x2), .val (.int x3), .val (.int x4), .val (.int x5), .val (.ref b1), .val (.int of), .val (.int ln), .val (.int q0), .val (.int q1), .val (.int vb0), .val (.int vb1), .val (.int (own_tok (own_g q0 vb0 q1 vb1) of ln)), .unset] []))
              refine own_fs (XS.iconst X20.here hx rfl (hb hby at_560) (Steps.refl _)) ?_
              show own_G p.tables e below _ (T20.setTop (mkF m 561 #[.val (.int x0), .val (.int x1), .val (.int x2), .val (.int x3), .val (.int x4), .val (.int x5), .val (.ref b1), .val (.int of), .val (.int ln), .val (.int q0), .val (.int q1), .val (.int vb0), .val (.int vb1), .val (.int (own_tok (own_g q0 vb0 q1 vb1) of ln)), .unset] [(.int (0 : Int32))]))
              refine own_fs (XS.istore X20.here hx rfl (hb hby at_561) rfl (l' := #[.val (.int x0), .val (.int x1), .val (.int x2), .val (.int x3), .val (.int x4), .val (.int x5), .val (.ref b1), .val (.int of), .val (.int ln), .val (.int q0), .val (.int q1), .val (.int vb0), .val (.int vb1), .val (.int (own_tok (own_g q0 vb0 q1 vb1) of ln)), .val (.int (0 : Int32))]) rfl (Steps.refl _)) ?_
              show own_G p.tables e below _ (T20.setTop (mkF m 563 #[.val (.int x0), .val (.int x1), .val (.int x2), .val (.int x3), .val (.int x4), .val (.int x5), .val (.ref b1), .val (.int of), .val (.int ln), .val (.int q0), .val (.int q1), .val (.int vb0), .val (.int vb1), .val (.int (own_tok (own_g q0 vb0 q1 vb1) of ln)), .val (.int (0 : Int32))] []))
              refine own_fs (XS.iload X20.here hx rfl (hb hby at_563) rfl (Steps.refl _)) ?_
              show own_G p.tables e below _ (T20.setTop (mkF m 565 #[.val (.int x0), .val (.int x1), .val (.int x2), .val (.int x3), .val (.int x4), .val (.int x5), .val (.ref b1), .val (.int of), .val (.int ln), .val (.int q0), .val (.int q1), .val (.int vb0), .val (.int vb1), .val (.int (own_tok (own_g q0 vb0 q1 vb1) of ln)), .val (.int (0 : Int32))] [(.int (own_tok (own_g q0 vb0 q1 vb1) of ln))]))
              refine own_fs (XS.iload X20.here hx rfl (hb hby at_565) rfl (Steps.refl _)) ?_
              show own_G p.tables e below _ (T20.setTop (mkF m 567 #[.val (.int x0), .val (.int x1), .val (.int x2), .val (.int x3), .val (.int x4), .val (.int x5), .val (.ref b1), .val (.int of), .val (.int ln), .val (.int q0), .val (.int q1), .val (.int vb0), .val (.int vb1), .val (.int (own_tok (own_g q0 vb0 q1 vb1) of ln)), .val (.int (0 : Int32))] [(.int (0 : Int32)), (.int (own_tok (own_g q0 vb0 q1 vb1) of ln))]))
              refine own_fs (XS.icmpNo X20.here hx rfl (hb hby at_567) rfl (XT.ii_ne_f (by rw [own_main hq0.1 hq1.1.1 hq1.2 hof hc500 hc507]; simp only [own_exp, hc500, hc507, hc525, hc533, ↓reduceIte])) (Steps.refl _)) ?_
              show own_G p.tables e below _ (T20.setTop (mkF m 570 #[.val (.int x0), .val (.int x1), .val (.int x2), .val (.int x3), .val (.int x4), .val (.int x5), .val (.ref b1), .val (.int of), .val (.int ln), .val (.int q0), .val (.int q1), .val (.int vb0), .val (.int vb1), .val (.int (own_tok (own_g q0 vb0 q1 vb1) of ln)), .val (.int (0 : Int32))] []))
              refine own_fs (XS.iconst X20.here hx rfl (hb hby at_570) (Steps.refl _)) ?_
              show own_G p.tables e below _ (T20.setTop (mkF m 571 #[.val (.int x0), .val (.int x1), .val (.int x2), .val (.int x3), .val (.int x4), .val (.int x5), .val (.ref b1), .val (.int of), .val (.int ln), .val (.int q0), .val (.int q1), .val (.int vb0), .val (.int vb1), .val (.int (own_tok (own_g q0 vb0 q1 vb1) of ln)), .val (.int (0 : Int32))] [(.int (1 : Int32))]))
              refine own_fs (XS.goto X20.here hx rfl (pc0 := 571) (pc' := 575) rfl (hb hby at_571) (by decide) (by decide) (Steps.refl _)) ?_
              show own_G p.tables e below _ (T20.setTop (mkF m 575 #[.val (.int x0), .val (.int x1), .val (.int x2), .val (.int x3), .val (.int x4), .val (.int x5), .val (.ref b1), .val (.int of), .val (.int ln), .val (.int q0), .val (.int q1), .val (.int vb0), .val (.int vb1), .val (.int (own_tok (own_g q0 vb0 q1 vb1) of ln)), .val (.int (0 : Int32))] [(.int (1 : Int32))]))
              exact own_retN X20 hx (t := .boolean) Bd.returns hlk (by simp) (hb hby at_575) (by decide) (by decide) e20 ⟨rfl, N20⟩
            · refine own_fs (XS.ifNo X20.here hx rfl (hb hby at_533) rfl (XT.i0_eq_f hc533) (Steps.refl _)) ?_
              show own_G p.tables e below _ (T20.setTop (mkF m 536 #[.val (.int x0), .val (.int x1), .val (.int x2), .val (.int x3), .val (.int x4), .val (.int x5), .val (.ref b1), .val (.int of), .val (.int ln), .val (.int q0), .val (.int q1), .val (.int vb0), .val (.int vb1), .val (.int (own_tok (own_g q0 vb0 q1 vb1) of ln)), .unset] []))
              refine own_fs (XS.iload X20.here hx rfl (hb hby at_536) rfl (Steps.refl _)) ?_
              show own_G p.tables e below _ (T20.setTop (mkF m 538 #[.val (.int x0), .val (.int x1), .val (.int x2), .val (.int x3), .val (.int x4), .val (.int x5), .val (.ref b1), .val (.int of), .val (.int ln), .val (.int q0), .val (.int q1), .val (.int vb0), .val (.int vb1), .val (.int (own_tok (own_g q0 vb0 q1 vb1) of ln)), .unset] [(.int q1)]))
              refine own_fs (XS.iload X20.here hx rfl (hb hby at_538) rfl (Steps.refl _)) ?_
              show own_G p.tables e below _ (T20.setTop (mkF m 540 #[.val (.int x0), .val (.int x1), .val (.int x2), .val (.int x3), .val (.int x4), .val (.int x5), .val (.ref b1), .val (.int of), .val (.int ln), .val (.int q0), .val (.int q1), .val (.int vb0), .val (.int vb1), .val (.int (own_tok (own_g q0 vb0 q1 vb1) of ln)), .unset] [(.int of), (.int q1)]))
              refine own_fs (XS.iload X20.here hx rfl (hb hby at_540) rfl (Steps.refl _)) ?_
              show own_G p.tables e below _ (T20.setTop (mkF m 542 #[.val (.int x0), .val (.int x1), .val (.int x2), .val (.int x3), .val (.int x4), .val (.int x5), .val (.ref b1), .val (.int of), .val (.int ln), .val (.int q0), .val (.int q1), .val (.int vb0), .val (.int vb1), .val (.int (own_tok (own_g q0 vb0 q1 vb1) of ln)), .unset] [(.int ln), (.int of), (.int q1)]))
              have Zs24 : n0 ≤ h6.size := Zb7
              obtain ⟨_, _, ⟨T23, L23, k23, n23⟩, -, X23, ⟨Lc23, hQ23, l23, y23, z23⟩, st23⟩ := Jvm.LawKit.callS X20 hx (y := (⟨"convoke/model/TokensIsTokenPinLaw", "inside", "(III)Z"⟩ : MethodName)) hown (mvT hZ (hw _ (List.mem_of_getElem? (i := 8) rfl))) (mvT hZ (hw _ (List.mem_of_getElem? (i := 9) rfl))) (mvT hZ (hw _ (List.mem_of_getElem? (i := 10) rfl))) (mvT hZ (hw _ (List.mem_of_getElem? (i := 11) rfl))) (by decide) (backOf (W := 0) (own_rinside l Z a0 hw [] q1 of ln h6 n0 Zs24 ) hZ (hw _ (List.mem_of_getElem? (i := 11) rfl)) (hw _ (List.mem_of_getElem? (i := 10) rfl)) (by decide) (by decide)) (g := (mkF m 542 #[.val (.int x0), .val (.int x1), .val (.int x2), .val (.int x3), .val (.int x4), .val (.int x5), .val (.ref b1), .val (.int of), .val (.int ln), .val (.int q0), .val (.int q1), .val (.int vb0), .val (.int vb1), .val (.int (own_tok (own_g q0 vb0 q1 vb1) of ln)), .unset] [(.int ln), (.int of), (.int q1)])) rfl (by rw [hml]; rfl) (argsL := [(.int q1), (.int of), (.int ln)]) (rest := []) (lenOf own_pd1 rfl) rfl (by show 2 * 0 + _ ≤ _; exact Nat.le_of_eq rfl) (hb hby at_542) (fun _ _ => ⟨rfl, e20, (by decide : 1 + 0 ≤ _), (by decide : 68 + 0 ≤ _)⟩)
              dsimp only [Pt.U, Pt.locs, Pt.cells, Pt.slots] at X23 l23 y23 z23 st23 hQ23
              subst l23 y23 z23
              obtain ⟨rfl, Nq23, e23⟩ := hQ23
              have N23 := Fr.app N20 Nq23
              refine own_fs (st23 _ (Steps.refl _)) ?_
              show own_G p.tables e below _ (T23.setTop (mkF m 545 #[.val (.int x0), .val (.int x1), .val (.int x2), .val (.int x3), .val (.int x4), .val (.int x5), .val (.ref b1), .val (.int of), .val (.int ln), .val (.int q0), .val (.int q1), .val (.int vb0), .val (.int vb1), .val (.int (own_tok (own_g q0 vb0 q1 vb1) of ln)), .unset] [(.int (own_inside q1 of ln))]))
              by_cases hc545 : (own_inside q1 of ln) = (0 : Int32)
              · refine own_fs (XS.ifYes X23.here hx rfl (pc0 := 545) (pc' := 556) rfl (hb hby at_545) rfl (XT.i0_eq_t hc545) (by decide) (by decide) (Steps.refl _)) ?_
                show own_G p.tables e below _ (T23.setTop (mkF m 556 #[.val (.int x0), .val (.int x1), .val (.int x2), .val (.int x3), .val (.int x4), .val (.int x5), .val (.ref b1), .val (.int of), .val (.int ln), .val (.int q0), .val (.int q1), .val (.int vb0), .val (.int vb1), .val (.int (own_tok (own_g q0 vb0 q1 vb1) of ln)), .unset] []))
                refine own_fs (XS.iconst X23.here hx rfl (hb hby at_556) (Steps.refl _)) ?_
                show own_G p.tables e below _ (T23.setTop (mkF m 557 #[.val (.int x0), .val (.int x1), .val (.int x2), .val (.int x3), .val (.int x4), .val (.int x5), .val (.ref b1), .val (.int of), .val (.int ln), .val (.int q0), .val (.int q1), .val (.int vb0), .val (.int vb1), .val (.int (own_tok (own_g q0 vb0 q1 vb1) of ln)), .unset] [(.int (1 : Int32))]))
                refine own_fs (XS.goto X23.here hx rfl (pc0 := 557) (pc' := 561) rfl (hb hby at_557) (by decide) (by decide) (Steps.refl _)) ?_
                show own_G p.tables e below _ (T23.setTop (mkF m 561 #[.val (.int x0), .val (.int x1), .val (.int x2), .val (.int x3), .val (.int x4), .val (.int x5), .val (.ref b1), .val (.int of), .val (.int ln), .val (.int q0), .val (.int q1), .val (.int vb0), .val (.int vb1), .val (.int (own_tok (own_g q0 vb0 q1 vb1) of ln)), .unset] [(.int (1 : Int32))]))
                refine own_fs (XS.istore X23.here hx rfl (hb hby at_561) rfl (l' := #[.val (.int x0), .val (.int x1), .val (.int x2), .val (.int x3), .val (.int x4), .val (.int x5), .val (.ref b1), .val (.int of), .val (.int ln), .val (.int q0), .val (.int q1), .val (.int vb0), .val (.int vb1), .val (.int (own_tok (own_g q0 vb0 q1 vb1) of ln)), .val (.int (1 : Int32))]) rfl (Steps.refl _)) ?_
                show own_G p.tables e below _ (T23.setTop (mkF m 563 #[.val (.int x0), .val (.int x1), .val (.int x2), .val (.int x3), .val (.int x4), .val (.int x5), .val (.ref b1), .val (.int of), .val (.int ln), .val (.int q0), .val (.int q1), .val (.int vb0), .val (.int vb1), .val (.int (own_tok (own_g q0 vb0 q1 vb1) of ln)), .val (.int (1 : Int32))] []))
                refine own_fs (XS.iload X23.here hx rfl (hb hby at_563) rfl (Steps.refl _)) ?_
                show own_G p.tables e below _ (T23.setTop (mkF m 565 #[.val (.int x0), .val (.int x1), .val (.int x2), .val (.int x3), .val (.int x4), .val (.int x5), .val (.ref b1), .val (.int of), .val (.int ln), .val (.int q0), .val (.int q1), .val (.int vb0), .val (.int vb1), .val (.int (own_tok (own_g q0 vb0 q1 vb1) of ln)), .val (.int (1 : Int32))] [(.int (own_tok (own_g q0 vb0 q1 vb1) of ln))]))
                refine own_fs (XS.iload X23.here hx rfl (hb hby at_565) rfl (Steps.refl _)) ?_
                show own_G p.tables e below _ (T23.setTop (mkF m 567 #[.val (.int x0), .val (.int x1), .val (.int x2), .val (.int x3), .val (.int x4), .val (.int x5), .val (.ref b1), .val (.int of), .val (.int ln), .val (.int q0), .val (.int q1), .val (.int vb0), .val (.int vb1), .val (.int (own_tok (own_g q0 vb0 q1 vb1) of ln)), .val (.int (1 : Int32))] [(.int (1 : Int32)), (.int (own_tok (own_g q0 vb0 q1 vb1) of ln))]))
                refine own_fs (XS.icmpNo X23.here hx rfl (hb hby at_567) rfl (XT.ii_ne_f (by rw [own_main hq0.1 hq1.1.1 hq1.2 hof hc500 hc507]; simp only [own_exp, hc500, hc507, hc525, hc533, hc545, ↓reduceIte])) (Steps.refl _)) ?_
                show own_G p.tables e below _ (T23.setTop (mkF m 570 #[.val (.int x0), .val (.int x1), .val (.int x2), .val (.int x3), .val (.int x4), .val (.int x5), .val (.ref b1), .val (.int of), .val (.int ln), .val (.int q0), .val (.int q1), .val (.int vb0), .val (.int vb1), .val (.int (own_tok (own_g q0 vb0 q1 vb1) of ln)), .val (.int (1 : Int32))] []))
                refine own_fs (XS.iconst X23.here hx rfl (hb hby at_570) (Steps.refl _)) ?_
                show own_G p.tables e below _ (T23.setTop (mkF m 571 #[.val (.int x0), .val (.int x1), .val (.int x2), .val (.int x3), .val (.int x4), .val (.int x5), .val (.ref b1), .val (.int of), .val (.int ln), .val (.int q0), .val (.int q1), .val (.int vb0), .val (.int vb1), .val (.int (own_tok (own_g q0 vb0 q1 vb1) of ln)), .val (.int (1 : Int32))] [(.int (1 : Int32))]))
                refine own_fs (XS.goto X23.here hx rfl (pc0 := 571) (pc' := 575) rfl (hb hby at_571) (by decide) (by decide) (Steps.refl _)) ?_
                show own_G p.tables e below _ (T23.setTop (mkF m 575 #[.val (.int x0), .val (.int x1), .val (.int x2), .val (.int x3), .val (.int x4), .val (.int x5), .val (.ref b1), .val (.int of), .val (.int ln), .val (.int q0), .val (.int q1), .val (.int vb0), .val (.int vb1), .val (.int (own_tok (own_g q0 vb0 q1 vb1) of ln)), .val (.int (1 : Int32))] [(.int (1 : Int32))]))
                exact own_retN X23 hx (t := .boolean) Bd.returns hlk (by simp) (hb hby at_575) (by decide) (by decide) e23 ⟨rfl, N23⟩
              · refine own_fs (XS.ifNo X23.here hx rfl (hb hby at_545) rfl (XT.i0_eq_f hc545) (Steps.refl _)) ?_
                show own_G p.tables e below _ (T23.setTop (mkF m 548 #[.val (.int x0), .val (.int x1), .val (.int x2), .val (.int x3), .val (.int x4), .val (.int x5), .val (.ref b1), .val (.int of), .val (.int ln), .val (.int q0), .val (.int q1), .val (.int vb0), .val (.int vb1), .val (.int (own_tok (own_g q0 vb0 q1 vb1) of ln)), .unset] []))
                refine own_fs (XS.iload X23.here hx rfl (hb hby at_548) rfl (Steps.refl _)) ?_
                show own_G p.tables e below _ (T23.setTop (mkF m 550 #[.val (.int x0), .val (.int x1), .val (.int x2), .val (.int x3), .val (.int x4), .val (.int x5), .val (.ref b1), .val (.int of), .val (.int ln), .val (.int q0), .val (.int q1), .val (.int vb0), .val (.int vb1), .val (.int (own_tok (own_g q0 vb0 q1 vb1) of ln)), .unset] [(.int vb1)]))
                have Zs27 : n0 ≤ h6.size := Zb7
                obtain ⟨_, _, ⟨T26, L26, k26, n26⟩, -, X26, ⟨Lc26, hQ26, l26, y26, z26⟩, st26⟩ := Jvm.LawKit.callS X23 hx (y := (⟨"convoke/model/TokensIsTokenPinLaw", "valid", "(B)Z"⟩ : MethodName)) hown (mvT hZ (hw _ (List.mem_of_getElem? (i := 12) rfl))) (mvT hZ (hw _ (List.mem_of_getElem? (i := 13) rfl))) (mvT hZ (hw _ (List.mem_of_getElem? (i := 10) rfl))) (mvT hZ (hw _ (List.mem_of_getElem? (i := 14) rfl))) (by decide) (backOf (W := 0) (own_rvalid l Z a0 hw [] vb1 h6 n0 Zs27 ) hZ (hw _ (List.mem_of_getElem? (i := 14) rfl)) (hw _ (List.mem_of_getElem? (i := 10) rfl)) (by decide) (by decide)) (g := (mkF m 550 #[.val (.int x0), .val (.int x1), .val (.int x2), .val (.int x3), .val (.int x4), .val (.int x5), .val (.ref b1), .val (.int of), .val (.int ln), .val (.int q0), .val (.int q1), .val (.int vb0), .val (.int vb1), .val (.int (own_tok (own_g q0 vb0 q1 vb1) of ln)), .unset] [(.int vb1)])) rfl (by rw [hml]; rfl) (argsL := [(.int vb1)]) (rest := []) (lenOf own_pd2 rfl) rfl (by show 2 * 0 + _ ≤ _; exact Nat.le_of_eq rfl) (hb hby at_550) (fun _ _ => ⟨rfl, e23, (by decide : 1 + 0 ≤ _), (by decide : 68 + 0 ≤ _)⟩)
                dsimp only [Pt.U, Pt.locs, Pt.cells, Pt.slots] at X26 l26 y26 z26 st26 hQ26
                subst l26 y26 z26
                obtain ⟨rfl, Nq26, e26⟩ := hQ26
                have N26 := Fr.app N23 Nq26
                refine own_fs (st26 _ (Steps.refl _)) ?_
                show own_G p.tables e below _ (T26.setTop (mkF m 553 #[.val (.int x0), .val (.int x1), .val (.int x2), .val (.int x3), .val (.int x4), .val (.int x5), .val (.ref b1), .val (.int of), .val (.int ln), .val (.int q0), .val (.int q1), .val (.int vb0), .val (.int vb1), .val (.int (own_tok (own_g q0 vb0 q1 vb1) of ln)), .unset] [(.int (own_valid vb1))]))
                by_cases hc553 : (own_valid vb1) = (0 : Int32)
                · refine own_fs (XS.ifYes X26.here hx rfl (pc0 := 553) (pc' := 560) rfl (hb hby at_553) rfl (XT.i0_eq_t hc553) (by decide) (by decide) (Steps.refl _)) ?_
                  show own_G p.tables e below _ (T26.setTop (mkF m 560 #[.val (.int x0), .val (.int x1), .val (.int x2), .val (.int x3), .val (.int x4), .val (.int x5), .val (.ref b1), .val (.int of), .val (.int ln), .val (.int q0), .val (.int q1), .val (.int vb0), .val (.int vb1), .val (.int (own_tok (own_g q0 vb0 q1 vb1) of ln)), .unset] []))
                  refine own_fs (XS.iconst X26.here hx rfl (hb hby at_560) (Steps.refl _)) ?_
                  show own_G p.tables e below _ (T26.setTop (mkF m 561 #[.val (.int x0), .val (.int x1), .val (.int x2), .val (.int x3), .val (.int x4), .val (.int x5), .val (.ref b1), .val (.int of), .val (.int ln), .val (.int q0), .val (.int q1), .val (.int vb0), .val (.int vb1), .val (.int (own_tok (own_g q0 vb0 q1 vb1) of ln)), .unset] [(.int (0 : Int32))]))
                  refine own_fs (XS.istore X26.here hx rfl (hb hby at_561) rfl (l' := #[.val (.int x0), .val (.int x1), .val (.int x2), .val (.int x3), .val (.int x4), .val (.int x5), .val (.ref b1), .val (.int of), .val (.int ln), .val (.int q0), .val (.int q1), .val (.int vb0), .val (.int vb1), .val (.int (own_tok (own_g q0 vb0 q1 vb1) of ln)), .val (.int (0 : Int32))]) rfl (Steps.refl _)) ?_
                  show own_G p.tables e below _ (T26.setTop (mkF m 563 #[.val (.int x0), .val (.int x1), .val (.int x2), .val (.int x3), .val (.int x4), .val (.int x5), .val (.ref b1), .val (.int of), .val (.int ln), .val (.int q0), .val (.int q1), .val (.int vb0), .val (.int vb1), .val (.int (own_tok (own_g q0 vb0 q1 vb1) of ln)), .val (.int (0 : Int32))] []))
                  refine own_fs (XS.iload X26.here hx rfl (hb hby at_563) rfl (Steps.refl _)) ?_
                  show own_G p.tables e below _ (T26.setTop (mkF m 565 #[.val (.int x0), .val (.int x1), .val (.int x2), .val (.int x3), .val (.int x4), .val (.int x5), .val (.ref b1), .val (.int of), .val (.int ln), .val (.int q0), .val (.int q1), .val (.int vb0), .val (.int vb1), .val (.int (own_tok (own_g q0 vb0 q1 vb1) of ln)), .val (.int (0 : Int32))] [(.int (own_tok (own_g q0 vb0 q1 vb1) of ln))]))
                  refine own_fs (XS.iload X26.here hx rfl (hb hby at_565) rfl (Steps.refl _)) ?_
                  show own_G p.tables e below _ (T26.setTop (mkF m 567 #[.val (.int x0), .val (.int x1), .val (.int x2), .val (.int x3), .val (.int x4), .val (.int x5), .val (.ref b1), .val (.int of), .val (.int ln), .val (.int q0), .val (.int q1), .val (.int vb0), .val (.int vb1), .val (.int (own_tok (own_g q0 vb0 q1 vb1) of ln)), .val (.int (0 : Int32))] [(.int (0 : Int32)), (.int (own_tok (own_g q0 vb0 q1 vb1) of ln))]))
                  refine own_fs (XS.icmpNo X26.here hx rfl (hb hby at_567) rfl (XT.ii_ne_f (by rw [own_main hq0.1 hq1.1.1 hq1.2 hof hc500 hc507]; simp only [own_exp, hc500, hc507, hc525, hc533, hc545, hc553, ↓reduceIte])) (Steps.refl _)) ?_
                  show own_G p.tables e below _ (T26.setTop (mkF m 570 #[.val (.int x0), .val (.int x1), .val (.int x2), .val (.int x3), .val (.int x4), .val (.int x5), .val (.ref b1), .val (.int of), .val (.int ln), .val (.int q0), .val (.int q1), .val (.int vb0), .val (.int vb1), .val (.int (own_tok (own_g q0 vb0 q1 vb1) of ln)), .val (.int (0 : Int32))] []))
                  refine own_fs (XS.iconst X26.here hx rfl (hb hby at_570) (Steps.refl _)) ?_
                  show own_G p.tables e below _ (T26.setTop (mkF m 571 #[.val (.int x0), .val (.int x1), .val (.int x2), .val (.int x3), .val (.int x4), .val (.int x5), .val (.ref b1), .val (.int of), .val (.int ln), .val (.int q0), .val (.int q1), .val (.int vb0), .val (.int vb1), .val (.int (own_tok (own_g q0 vb0 q1 vb1) of ln)), .val (.int (0 : Int32))] [(.int (1 : Int32))]))
                  refine own_fs (XS.goto X26.here hx rfl (pc0 := 571) (pc' := 575) rfl (hb hby at_571) (by decide) (by decide) (Steps.refl _)) ?_
                  show own_G p.tables e below _ (T26.setTop (mkF m 575 #[.val (.int x0), .val (.int x1), .val (.int x2), .val (.int x3), .val (.int x4), .val (.int x5), .val (.ref b1), .val (.int of), .val (.int ln), .val (.int q0), .val (.int q1), .val (.int vb0), .val (.int vb1), .val (.int (own_tok (own_g q0 vb0 q1 vb1) of ln)), .val (.int (0 : Int32))] [(.int (1 : Int32))]))
                  exact own_retN X26 hx (t := .boolean) Bd.returns hlk (by simp) (hb hby at_575) (by decide) (by decide) e26 ⟨rfl, N26⟩
                · refine own_fs (XS.ifNo X26.here hx rfl (hb hby at_553) rfl (XT.i0_eq_f hc553) (Steps.refl _)) ?_
                  show own_G p.tables e below _ (T26.setTop (mkF m 556 #[.val (.int x0), .val (.int x1), .val (.int x2), .val (.int x3), .val (.int x4), .val (.int x5), .val (.ref b1), .val (.int of), .val (.int ln), .val (.int q0), .val (.int q1), .val (.int vb0), .val (.int vb1), .val (.int (own_tok (own_g q0 vb0 q1 vb1) of ln)), .unset] []))
                  refine own_fs (XS.iconst X26.here hx rfl (hb hby at_556) (Steps.refl _)) ?_
                  show own_G p.tables e below _ (T26.setTop (mkF m 557 #[.val (.int x0), .val (.int x1), .val (.int x2), .val (.int x3), .val (.int x4), .val (.int x5), .val (.ref b1), .val (.int of), .val (.int ln), .val (.int q0), .val (.int q1), .val (.int vb0), .val (.int vb1), .val (.int (own_tok (own_g q0 vb0 q1 vb1) of ln)), .unset] [(.int (1 : Int32))]))
                  refine own_fs (XS.goto X26.here hx rfl (pc0 := 557) (pc' := 561) rfl (hb hby at_557) (by decide) (by decide) (Steps.refl _)) ?_
                  show own_G p.tables e below _ (T26.setTop (mkF m 561 #[.val (.int x0), .val (.int x1), .val (.int x2), .val (.int x3), .val (.int x4), .val (.int x5), .val (.ref b1), .val (.int of), .val (.int ln), .val (.int q0), .val (.int q1), .val (.int vb0), .val (.int vb1), .val (.int (own_tok (own_g q0 vb0 q1 vb1) of ln)), .unset] [(.int (1 : Int32))]))
                  refine own_fs (XS.istore X26.here hx rfl (hb hby at_561) rfl (l' := #[.val (.int x0), .val (.int x1), .val (.int x2), .val (.int x3), .val (.int x4), .val (.int x5), .val (.ref b1), .val (.int of), .val (.int ln), .val (.int q0), .val (.int q1), .val (.int vb0), .val (.int vb1), .val (.int (own_tok (own_g q0 vb0 q1 vb1) of ln)), .val (.int (1 : Int32))]) rfl (Steps.refl _)) ?_
                  show own_G p.tables e below _ (T26.setTop (mkF m 563 #[.val (.int x0), .val (.int x1), .val (.int x2), .val (.int x3), .val (.int x4), .val (.int x5), .val (.ref b1), .val (.int of), .val (.int ln), .val (.int q0), .val (.int q1), .val (.int vb0), .val (.int vb1), .val (.int (own_tok (own_g q0 vb0 q1 vb1) of ln)), .val (.int (1 : Int32))] []))
                  refine own_fs (XS.iload X26.here hx rfl (hb hby at_563) rfl (Steps.refl _)) ?_
                  show own_G p.tables e below _ (T26.setTop (mkF m 565 #[.val (.int x0), .val (.int x1), .val (.int x2), .val (.int x3), .val (.int x4), .val (.int x5), .val (.ref b1), .val (.int of), .val (.int ln), .val (.int q0), .val (.int q1), .val (.int vb0), .val (.int vb1), .val (.int (own_tok (own_g q0 vb0 q1 vb1) of ln)), .val (.int (1 : Int32))] [(.int (own_tok (own_g q0 vb0 q1 vb1) of ln))]))
                  refine own_fs (XS.iload X26.here hx rfl (hb hby at_565) rfl (Steps.refl _)) ?_
                  show own_G p.tables e below _ (T26.setTop (mkF m 567 #[.val (.int x0), .val (.int x1), .val (.int x2), .val (.int x3), .val (.int x4), .val (.int x5), .val (.ref b1), .val (.int of), .val (.int ln), .val (.int q0), .val (.int q1), .val (.int vb0), .val (.int vb1), .val (.int (own_tok (own_g q0 vb0 q1 vb1) of ln)), .val (.int (1 : Int32))] [(.int (1 : Int32)), (.int (own_tok (own_g q0 vb0 q1 vb1) of ln))]))
                  refine own_fs (XS.icmpNo X26.here hx rfl (hb hby at_567) rfl (XT.ii_ne_f (by rw [own_main hq0.1 hq1.1.1 hq1.2 hof hc500 hc507]; simp only [own_exp, hc500, hc507, hc525, hc533, hc545, hc553, ↓reduceIte])) (Steps.refl _)) ?_
                  show own_G p.tables e below _ (T26.setTop (mkF m 570 #[.val (.int x0), .val (.int x1), .val (.int x2), .val (.int x3), .val (.int x4), .val (.int x5), .val (.ref b1), .val (.int of), .val (.int ln), .val (.int q0), .val (.int q1), .val (.int vb0), .val (.int vb1), .val (.int (own_tok (own_g q0 vb0 q1 vb1) of ln)), .val (.int (1 : Int32))] []))
                  refine own_fs (XS.iconst X26.here hx rfl (hb hby at_570) (Steps.refl _)) ?_
                  show own_G p.tables e below _ (T26.setTop (mkF m 571 #[.val (.int x0), .val (.int x1), .val (.int x2), .val (.int x3), .val (.int x4), .val (.int x5), .val (.ref b1), .val (.int of), .val (.int ln), .val (.int q0), .val (.int q1), .val (.int vb0), .val (.int vb1), .val (.int (own_tok (own_g q0 vb0 q1 vb1) of ln)), .val (.int (1 : Int32))] [(.int (1 : Int32))]))
                  refine own_fs (XS.goto X26.here hx rfl (pc0 := 571) (pc' := 575) rfl (hb hby at_571) (by decide) (by decide) (Steps.refl _)) ?_
                  show own_G p.tables e below _ (T26.setTop (mkF m 575 #[.val (.int x0), .val (.int x1), .val (.int x2), .val (.int x3), .val (.int x4), .val (.int x5), .val (.ref b1), .val (.int of), .val (.int ln), .val (.int q0), .val (.int q1), .val (.int vb0), .val (.int vb1), .val (.int (own_tok (own_g q0 vb0 q1 vb1) of ln)), .val (.int (1 : Int32))] [(.int (1 : Int32))]))
                  exact own_retN X26 hx (t := .boolean) Bd.returns hlk (by simp) (hb hby at_575) (by decide) (by decide) e26 ⟨rfl, N26⟩
    show own_G p.tables e below _ (TJ.setTop (mkF m 416 #[.val (.int x0), .val (.int x1), .val (.int x2), .val (.int x3), .val (.int x4), .val (.int x5), .val (.ref b1), .val (.int of), .unset, .unset, .unset, .unset, .unset, .unset, .unset] []))
    refine own_fs (XS.iload XJ.here hx rfl (hb hby at_416) rfl (Steps.refl _)) ?_
    show own_G p.tables e below _ (TJ.setTop (mkF m 418 #[.val (.int x0), .val (.int x1), .val (.int x2), .val (.int x3), .val (.int x4), .val (.int x5), .val (.ref b1), .val (.int of), .unset, .unset, .unset, .unset, .unset, .unset, .unset] [(.int x5)]))
    refine own_fs (XS.iconst XJ.here hx rfl (hb hby at_418) (Steps.refl _)) ?_
    show own_G p.tables e below _ (TJ.setTop (mkF m 419 #[.val (.int x0), .val (.int x1), .val (.int x2), .val (.int x3), .val (.int x4), .val (.int x5), .val (.ref b1), .val (.int of), .unset, .unset, .unset, .unset, .unset, .unset, .unset] [(.int (1 : Int32)), (.int x5)]))
    refine own_fs (XS.iand XJ.here hx rfl (hb hby at_419) rfl (Steps.refl _)) ?_
    show own_G p.tables e below _ (TJ.setTop (mkF m 420 #[.val (.int x0), .val (.int x1), .val (.int x2), .val (.int x3), .val (.int x4), .val (.int x5), .val (.ref b1), .val (.int of), .unset, .unset, .unset, .unset, .unset, .unset, .unset] [(.int (x5 &&& (1 : Int32)))]))
    by_cases hc420 : (x5 &&& (1 : Int32)) = (0 : Int32)
    · refine own_fs (XS.ifYes XJ.here hx rfl (pc0 := 420) (pc' := 427) rfl (hb hby at_420) rfl (XT.i0_eq_t hc420) (by decide) (by decide) (Steps.refl _)) ?_
      show own_G p.tables e below _ (TJ.setTop (mkF m 427 #[.val (.int x0), .val (.int x1), .val (.int x2), .val (.int x3), .val (.int x4), .val (.int x5), .val (.ref b1), .val (.int of), .unset, .unset, .unset, .unset, .unset, .unset, .unset] []))
      refine own_fs (XS.iloadN XJ.here hx rfl (hb hby at_427) rfl (Steps.refl _)) ?_
      show own_G p.tables e below _ (TJ.setTop (mkF m 428 #[.val (.int x0), .val (.int x1), .val (.int x2), .val (.int x3), .val (.int x4), .val (.int x5), .val (.ref b1), .val (.int of), .unset, .unset, .unset, .unset, .unset, .unset, .unset] [(.int x0)]))
      refine own_fs (XS.bipush XJ.here hx rfl (hb hby at_428) (Steps.refl _)) ?_
      show own_G p.tables e below _ (TJ.setTop (mkF m 430 #[.val (.int x0), .val (.int x1), .val (.int x2), .val (.int x3), .val (.int x4), .val (.int x5), .val (.ref b1), .val (.int of), .unset, .unset, .unset, .unset, .unset, .unset, .unset] [(.int (70 : Int32)), (.int x0)]))
      refine own_fs (iremM (g := (mkF m 430 #[.val (.int x0), .val (.int x1), .val (.int x2), .val (.int x3), .val (.int x4), .val (.int x5), .val (.ref b1), .val (.int of), .unset, .unset, .unset, .unset, .unset, .unset, .unset] [(.int (70 : Int32)), (.int x0)])) XJ hx rfl (hb hby at_430) rfl (by decide) (Steps.refl _)) ?_
      exact J431 _
    · refine own_fs (XS.ifNo XJ.here hx rfl (hb hby at_420) rfl (XT.i0_eq_f hc420) (Steps.refl _)) ?_
      show own_G p.tables e below _ (TJ.setTop (mkF m 423 #[.val (.int x0), .val (.int x1), .val (.int x2), .val (.int x3), .val (.int x4), .val (.int x5), .val (.ref b1), .val (.int of), .unset, .unset, .unset, .unset, .unset, .unset, .unset] []))
      refine own_fs (XS.iloadN XJ.here hx rfl (hb hby at_423) rfl (Steps.refl _)) ?_
      show own_G p.tables e below _ (TJ.setTop (mkF m 424 #[.val (.int x0), .val (.int x1), .val (.int x2), .val (.int x3), .val (.int x4), .val (.int x5), .val (.ref b1), .val (.int of), .unset, .unset, .unset, .unset, .unset, .unset, .unset] [(.int x0)]))
      refine own_fs (XS.goto XJ.here hx rfl (pc0 := 424) (pc' := 431) rfl (hb hby at_424) (by decide) (by decide) (Steps.refl _)) ?_
      exact J431 _
  show own_G p.tables e below _ (T1.setTop (mkF m 4 #[.val (.int x0), .val (.int x1), .val (.int x2), .val (.int x3), .val (.int x4), .val (.int x5), .unset, .unset, .unset, .unset, .unset, .unset, .unset, .unset, .unset] [(.ref b1)]))
  refine own_fs (XS.dup X1.here hx rfl (hb hby at_4) rfl rfl (Steps.refl _)) ?_
  show own_G p.tables e below _ (T1.setTop (mkF m 5 #[.val (.int x0), .val (.int x1), .val (.int x2), .val (.int x3), .val (.int x4), .val (.int x5), .unset, .unset, .unset, .unset, .unset, .unset, .unset, .unset, .unset] [(.ref b1), (.ref b1)]))
  refine own_fs (XS.iconst X1.here hx rfl (hb hby at_5) (Steps.refl _)) ?_
  show own_G p.tables e below _ (T1.setTop (mkF m 6 #[.val (.int x0), .val (.int x1), .val (.int x2), .val (.int x3), .val (.int x4), .val (.int x5), .unset, .unset, .unset, .unset, .unset, .unset, .unset, .unset, .unset] [(.int (0 : Int32)), (.ref b1), (.ref b1)]))
  refine own_fs (XS.bipush X1.here hx rfl (hb hby at_6) (Steps.refl _)) ?_
  show own_G p.tables e below _ (T1.setTop (mkF m 8 #[.val (.int x0), .val (.int x1), .val (.int x2), .val (.int x3), .val (.int x4), .val (.int x5), .unset, .unset, .unset, .unset, .unset, .unset, .unset, .unset, .unset] [(.int (97 : Int32)), (.int (0 : Int32)), (.ref b1), (.ref b1)]))
  obtain ⟨cl28, Ar28, q28, S28, O28, H28, G28⟩ := (id V_b1)
  obtain ⟨T29, h29, X29, e29, W29, st29⟩ := stB X1 hx hZ e1 Ar28 (j := (0 : Int32)) (inb_of S28 ⟨by decide, by decide⟩) (g := (mkF m 8 #[.val (.int x0), .val (.int x1), .val (.int x2), .val (.int x3), .val (.int x4), .val (.int x5), .unset, .unset, .unset, .unset, .unset, .unset, .unset, .unset, .unset] [(.int (97 : Int32)), (.int (0 : Int32)), (.ref b1), (.ref b1)])) rfl rfl (hb hby at_8)
  refine own_fs (st29 _ (Steps.refl _)) ?_
  have V29 : Arv Z h29 b1 k1 .byte (68 : Int32) (own_fill 1) (.int (0 : Int32)) := own_fillS 0 (by decide) ▸ Arv.set Ar28 q28 S28 O28 H28 G28 (v := .int (97 : Int32)) (by decide) W29 0 rfl (by rw [own_fill_len _ (by decide)]; decide)
  have N29 := Fr.snoc X29 N0 ge_b1
  have Zb30 : n0 ≤ h29.size := (Nat.le_trans (Nat.le_trans Z0 E1.1) (Keep.of_wr W29).1)
  have Sb30_0 := (Sta.wr W29 (Sta.ext E1 hS_TOKEN_CHARACTERS))
  have Sb30_1 := (Arr.other W29 (Arr.ext E1 hTA) ne_tb)
  show own_G p.tables e below _ (T29.setTop (mkF m 9 #[.val (.int x0), .val (.int x1), .val (.int x2), .val (.int x3), .val (.int x4), .val (.int x5), .unset, .unset, .unset, .unset, .unset, .unset, .unset, .unset, .unset] [(.ref b1)]))
  refine own_fs (XS.dup X29.here hx rfl (hb hby at_9) rfl rfl (Steps.refl _)) ?_
  show own_G p.tables e below _ (T29.setTop (mkF m 10 #[.val (.int x0), .val (.int x1), .val (.int x2), .val (.int x3), .val (.int x4), .val (.int x5), .unset, .unset, .unset, .unset, .unset, .unset, .unset, .unset, .unset] [(.ref b1), (.ref b1)]))
  refine own_fs (XS.iconst X29.here hx rfl (hb hby at_10) (Steps.refl _)) ?_
  show own_G p.tables e below _ (T29.setTop (mkF m 11 #[.val (.int x0), .val (.int x1), .val (.int x2), .val (.int x3), .val (.int x4), .val (.int x5), .unset, .unset, .unset, .unset, .unset, .unset, .unset, .unset, .unset] [(.int (1 : Int32)), (.ref b1), (.ref b1)]))
  refine own_fs (XS.bipush X29.here hx rfl (hb hby at_11) (Steps.refl _)) ?_
  show own_G p.tables e below _ (T29.setTop (mkF m 13 #[.val (.int x0), .val (.int x1), .val (.int x2), .val (.int x3), .val (.int x4), .val (.int x5), .unset, .unset, .unset, .unset, .unset, .unset, .unset, .unset, .unset] [(.int (97 : Int32)), (.int (1 : Int32)), (.ref b1), (.ref b1)]))
  obtain ⟨cl31, Ar31, q31, S31, O31, H31, G31⟩ := (id V29)
  obtain ⟨T32, h32, X32, e32, W32, st32⟩ := stB X29 hx hZ e29 Ar31 (j := (1 : Int32)) (inb_of S31 ⟨by decide, by decide⟩) (g := (mkF m 13 #[.val (.int x0), .val (.int x1), .val (.int x2), .val (.int x3), .val (.int x4), .val (.int x5), .unset, .unset, .unset, .unset, .unset, .unset, .unset, .unset, .unset] [(.int (97 : Int32)), (.int (1 : Int32)), (.ref b1), (.ref b1)])) rfl rfl (hb hby at_13)
  refine own_fs (st32 _ (Steps.refl _)) ?_
  have V32 : Arv Z h32 b1 k1 .byte (68 : Int32) (own_fill 2) (.int (0 : Int32)) := own_fillS 1 (by decide) ▸ Arv.set Ar31 q31 S31 O31 H31 G31 (v := .int (97 : Int32)) (by decide) W32 1 rfl (by rw [own_fill_len _ (by decide)]; decide)
  have N32 := Fr.snoc X32 N29 ge_b1
  have Zb33 : n0 ≤ h32.size := (Nat.le_trans Zb30 (Keep.of_wr W32).1)
  have Sb33_0 := (Sta.wr W32 Sb30_0)
  have Sb33_1 := (Arr.other W32 Sb30_1 ne_tb)
  show own_G p.tables e below _ (T32.setTop (mkF m 14 #[.val (.int x0), .val (.int x1), .val (.int x2), .val (.int x3), .val (.int x4), .val (.int x5), .unset, .unset, .unset, .unset, .unset, .unset, .unset, .unset, .unset] [(.ref b1)]))
  refine own_fs (XS.dup X32.here hx rfl (hb hby at_14) rfl rfl (Steps.refl _)) ?_
  show own_G p.tables e below _ (T32.setTop (mkF m 15 #[.val (.int x0), .val (.int x1), .val (.int x2), .val (.int x3), .val (.int x4), .val (.int x5), .unset, .unset, .unset, .unset, .unset, .unset, .unset, .unset, .unset] [(.ref b1), (.ref b1)]))
  refine own_fs (XS.iconst X32.here hx rfl (hb hby at_15) (Steps.refl _)) ?_
  show own_G p.tables e below _ (T32.setTop (mkF m 16 #[.val (.int x0), .val (.int x1), .val (.int x2), .val (.int x3), .val (.int x4), .val (.int x5), .unset, .unset, .unset, .unset, .unset, .unset, .unset, .unset, .unset] [(.int (2 : Int32)), (.ref b1), (.ref b1)]))
  refine own_fs (XS.bipush X32.here hx rfl (hb hby at_16) (Steps.refl _)) ?_
  show own_G p.tables e below _ (T32.setTop (mkF m 18 #[.val (.int x0), .val (.int x1), .val (.int x2), .val (.int x3), .val (.int x4), .val (.int x5), .unset, .unset, .unset, .unset, .unset, .unset, .unset, .unset, .unset] [(.int (97 : Int32)), (.int (2 : Int32)), (.ref b1), (.ref b1)]))
  obtain ⟨cl34, Ar34, q34, S34, O34, H34, G34⟩ := (id V32)
  obtain ⟨T35, h35, X35, e35, W35, st35⟩ := stB X32 hx hZ e32 Ar34 (j := (2 : Int32)) (inb_of S34 ⟨by decide, by decide⟩) (g := (mkF m 18 #[.val (.int x0), .val (.int x1), .val (.int x2), .val (.int x3), .val (.int x4), .val (.int x5), .unset, .unset, .unset, .unset, .unset, .unset, .unset, .unset, .unset] [(.int (97 : Int32)), (.int (2 : Int32)), (.ref b1), (.ref b1)])) rfl rfl (hb hby at_18)
  refine own_fs (st35 _ (Steps.refl _)) ?_
  have V35 : Arv Z h35 b1 k1 .byte (68 : Int32) (own_fill 3) (.int (0 : Int32)) := own_fillS 2 (by decide) ▸ Arv.set Ar34 q34 S34 O34 H34 G34 (v := .int (97 : Int32)) (by decide) W35 2 rfl (by rw [own_fill_len _ (by decide)]; decide)
  have N35 := Fr.snoc X35 N32 ge_b1
  have Zb36 : n0 ≤ h35.size := (Nat.le_trans Zb33 (Keep.of_wr W35).1)
  have Sb36_0 := (Sta.wr W35 Sb33_0)
  have Sb36_1 := (Arr.other W35 Sb33_1 ne_tb)
  show own_G p.tables e below _ (T35.setTop (mkF m 19 #[.val (.int x0), .val (.int x1), .val (.int x2), .val (.int x3), .val (.int x4), .val (.int x5), .unset, .unset, .unset, .unset, .unset, .unset, .unset, .unset, .unset] [(.ref b1)]))
  refine own_fs (XS.dup X35.here hx rfl (hb hby at_19) rfl rfl (Steps.refl _)) ?_
  show own_G p.tables e below _ (T35.setTop (mkF m 20 #[.val (.int x0), .val (.int x1), .val (.int x2), .val (.int x3), .val (.int x4), .val (.int x5), .unset, .unset, .unset, .unset, .unset, .unset, .unset, .unset, .unset] [(.ref b1), (.ref b1)]))
  refine own_fs (XS.iconst X35.here hx rfl (hb hby at_20) (Steps.refl _)) ?_
  show own_G p.tables e below _ (T35.setTop (mkF m 21 #[.val (.int x0), .val (.int x1), .val (.int x2), .val (.int x3), .val (.int x4), .val (.int x5), .unset, .unset, .unset, .unset, .unset, .unset, .unset, .unset, .unset] [(.int (3 : Int32)), (.ref b1), (.ref b1)]))
  refine own_fs (XS.bipush X35.here hx rfl (hb hby at_21) (Steps.refl _)) ?_
  show own_G p.tables e below _ (T35.setTop (mkF m 23 #[.val (.int x0), .val (.int x1), .val (.int x2), .val (.int x3), .val (.int x4), .val (.int x5), .unset, .unset, .unset, .unset, .unset, .unset, .unset, .unset, .unset] [(.int (97 : Int32)), (.int (3 : Int32)), (.ref b1), (.ref b1)]))
  obtain ⟨cl37, Ar37, q37, S37, O37, H37, G37⟩ := (id V35)
  obtain ⟨T38, h38, X38, e38, W38, st38⟩ := stB X35 hx hZ e35 Ar37 (j := (3 : Int32)) (inb_of S37 ⟨by decide, by decide⟩) (g := (mkF m 23 #[.val (.int x0), .val (.int x1), .val (.int x2), .val (.int x3), .val (.int x4), .val (.int x5), .unset, .unset, .unset, .unset, .unset, .unset, .unset, .unset, .unset] [(.int (97 : Int32)), (.int (3 : Int32)), (.ref b1), (.ref b1)])) rfl rfl (hb hby at_23)
  refine own_fs (st38 _ (Steps.refl _)) ?_
  have V38 : Arv Z h38 b1 k1 .byte (68 : Int32) (own_fill 4) (.int (0 : Int32)) := own_fillS 3 (by decide) ▸ Arv.set Ar37 q37 S37 O37 H37 G37 (v := .int (97 : Int32)) (by decide) W38 3 rfl (by rw [own_fill_len _ (by decide)]; decide)
  have N38 := Fr.snoc X38 N35 ge_b1
  have Zb39 : n0 ≤ h38.size := (Nat.le_trans Zb36 (Keep.of_wr W38).1)
  have Sb39_0 := (Sta.wr W38 Sb36_0)
  have Sb39_1 := (Arr.other W38 Sb36_1 ne_tb)
  show own_G p.tables e below _ (T38.setTop (mkF m 24 #[.val (.int x0), .val (.int x1), .val (.int x2), .val (.int x3), .val (.int x4), .val (.int x5), .unset, .unset, .unset, .unset, .unset, .unset, .unset, .unset, .unset] [(.ref b1)]))
  refine own_fs (XS.dup X38.here hx rfl (hb hby at_24) rfl rfl (Steps.refl _)) ?_
  show own_G p.tables e below _ (T38.setTop (mkF m 25 #[.val (.int x0), .val (.int x1), .val (.int x2), .val (.int x3), .val (.int x4), .val (.int x5), .unset, .unset, .unset, .unset, .unset, .unset, .unset, .unset, .unset] [(.ref b1), (.ref b1)]))
  refine own_fs (XS.iconst X38.here hx rfl (hb hby at_25) (Steps.refl _)) ?_
  show own_G p.tables e below _ (T38.setTop (mkF m 26 #[.val (.int x0), .val (.int x1), .val (.int x2), .val (.int x3), .val (.int x4), .val (.int x5), .unset, .unset, .unset, .unset, .unset, .unset, .unset, .unset, .unset] [(.int (4 : Int32)), (.ref b1), (.ref b1)]))
  refine own_fs (XS.bipush X38.here hx rfl (hb hby at_26) (Steps.refl _)) ?_
  show own_G p.tables e below _ (T38.setTop (mkF m 28 #[.val (.int x0), .val (.int x1), .val (.int x2), .val (.int x3), .val (.int x4), .val (.int x5), .unset, .unset, .unset, .unset, .unset, .unset, .unset, .unset, .unset] [(.int (97 : Int32)), (.int (4 : Int32)), (.ref b1), (.ref b1)]))
  obtain ⟨cl40, Ar40, q40, S40, O40, H40, G40⟩ := (id V38)
  obtain ⟨T41, h41, X41, e41, W41, st41⟩ := stB X38 hx hZ e38 Ar40 (j := (4 : Int32)) (inb_of S40 ⟨by decide, by decide⟩) (g := (mkF m 28 #[.val (.int x0), .val (.int x1), .val (.int x2), .val (.int x3), .val (.int x4), .val (.int x5), .unset, .unset, .unset, .unset, .unset, .unset, .unset, .unset, .unset] [(.int (97 : Int32)), (.int (4 : Int32)), (.ref b1), (.ref b1)])) rfl rfl (hb hby at_28)
  refine own_fs (st41 _ (Steps.refl _)) ?_
  have V41 : Arv Z h41 b1 k1 .byte (68 : Int32) (own_fill 5) (.int (0 : Int32)) := own_fillS 4 (by decide) ▸ Arv.set Ar40 q40 S40 O40 H40 G40 (v := .int (97 : Int32)) (by decide) W41 4 rfl (by rw [own_fill_len _ (by decide)]; decide)
  have N41 := Fr.snoc X41 N38 ge_b1
  have Zb42 : n0 ≤ h41.size := (Nat.le_trans Zb39 (Keep.of_wr W41).1)
  have Sb42_0 := (Sta.wr W41 Sb39_0)
  have Sb42_1 := (Arr.other W41 Sb39_1 ne_tb)
  show own_G p.tables e below _ (T41.setTop (mkF m 29 #[.val (.int x0), .val (.int x1), .val (.int x2), .val (.int x3), .val (.int x4), .val (.int x5), .unset, .unset, .unset, .unset, .unset, .unset, .unset, .unset, .unset] [(.ref b1)]))
  refine own_fs (XS.dup X41.here hx rfl (hb hby at_29) rfl rfl (Steps.refl _)) ?_
  show own_G p.tables e below _ (T41.setTop (mkF m 30 #[.val (.int x0), .val (.int x1), .val (.int x2), .val (.int x3), .val (.int x4), .val (.int x5), .unset, .unset, .unset, .unset, .unset, .unset, .unset, .unset, .unset] [(.ref b1), (.ref b1)]))
  refine own_fs (XS.iconst X41.here hx rfl (hb hby at_30) (Steps.refl _)) ?_
  show own_G p.tables e below _ (T41.setTop (mkF m 31 #[.val (.int x0), .val (.int x1), .val (.int x2), .val (.int x3), .val (.int x4), .val (.int x5), .unset, .unset, .unset, .unset, .unset, .unset, .unset, .unset, .unset] [(.int (5 : Int32)), (.ref b1), (.ref b1)]))
  refine own_fs (XS.bipush X41.here hx rfl (hb hby at_31) (Steps.refl _)) ?_
  show own_G p.tables e below _ (T41.setTop (mkF m 33 #[.val (.int x0), .val (.int x1), .val (.int x2), .val (.int x3), .val (.int x4), .val (.int x5), .unset, .unset, .unset, .unset, .unset, .unset, .unset, .unset, .unset] [(.int (97 : Int32)), (.int (5 : Int32)), (.ref b1), (.ref b1)]))
  obtain ⟨cl43, Ar43, q43, S43, O43, H43, G43⟩ := (id V41)
  obtain ⟨T44, h44, X44, e44, W44, st44⟩ := stB X41 hx hZ e41 Ar43 (j := (5 : Int32)) (inb_of S43 ⟨by decide, by decide⟩) (g := (mkF m 33 #[.val (.int x0), .val (.int x1), .val (.int x2), .val (.int x3), .val (.int x4), .val (.int x5), .unset, .unset, .unset, .unset, .unset, .unset, .unset, .unset, .unset] [(.int (97 : Int32)), (.int (5 : Int32)), (.ref b1), (.ref b1)])) rfl rfl (hb hby at_33)
  refine own_fs (st44 _ (Steps.refl _)) ?_
  have V44 : Arv Z h44 b1 k1 .byte (68 : Int32) (own_fill 6) (.int (0 : Int32)) := own_fillS 5 (by decide) ▸ Arv.set Ar43 q43 S43 O43 H43 G43 (v := .int (97 : Int32)) (by decide) W44 5 rfl (by rw [own_fill_len _ (by decide)]; decide)
  have N44 := Fr.snoc X44 N41 ge_b1
  have Zb45 : n0 ≤ h44.size := (Nat.le_trans Zb42 (Keep.of_wr W44).1)
  have Sb45_0 := (Sta.wr W44 Sb42_0)
  have Sb45_1 := (Arr.other W44 Sb42_1 ne_tb)
  show own_G p.tables e below _ (T44.setTop (mkF m 34 #[.val (.int x0), .val (.int x1), .val (.int x2), .val (.int x3), .val (.int x4), .val (.int x5), .unset, .unset, .unset, .unset, .unset, .unset, .unset, .unset, .unset] [(.ref b1)]))
  refine own_fs (XS.dup X44.here hx rfl (hb hby at_34) rfl rfl (Steps.refl _)) ?_
  show own_G p.tables e below _ (T44.setTop (mkF m 35 #[.val (.int x0), .val (.int x1), .val (.int x2), .val (.int x3), .val (.int x4), .val (.int x5), .unset, .unset, .unset, .unset, .unset, .unset, .unset, .unset, .unset] [(.ref b1), (.ref b1)]))
  refine own_fs (XS.bipush X44.here hx rfl (hb hby at_35) (Steps.refl _)) ?_
  show own_G p.tables e below _ (T44.setTop (mkF m 37 #[.val (.int x0), .val (.int x1), .val (.int x2), .val (.int x3), .val (.int x4), .val (.int x5), .unset, .unset, .unset, .unset, .unset, .unset, .unset, .unset, .unset] [(.int (6 : Int32)), (.ref b1), (.ref b1)]))
  refine own_fs (XS.bipush X44.here hx rfl (hb hby at_37) (Steps.refl _)) ?_
  show own_G p.tables e below _ (T44.setTop (mkF m 39 #[.val (.int x0), .val (.int x1), .val (.int x2), .val (.int x3), .val (.int x4), .val (.int x5), .unset, .unset, .unset, .unset, .unset, .unset, .unset, .unset, .unset] [(.int (97 : Int32)), (.int (6 : Int32)), (.ref b1), (.ref b1)]))
  obtain ⟨cl46, Ar46, q46, S46, O46, H46, G46⟩ := (id V44)
  obtain ⟨T47, h47, X47, e47, W47, st47⟩ := stB X44 hx hZ e44 Ar46 (j := (6 : Int32)) (inb_of S46 ⟨by decide, by decide⟩) (g := (mkF m 39 #[.val (.int x0), .val (.int x1), .val (.int x2), .val (.int x3), .val (.int x4), .val (.int x5), .unset, .unset, .unset, .unset, .unset, .unset, .unset, .unset, .unset] [(.int (97 : Int32)), (.int (6 : Int32)), (.ref b1), (.ref b1)])) rfl rfl (hb hby at_39)
  refine own_fs (st47 _ (Steps.refl _)) ?_
  have V47 : Arv Z h47 b1 k1 .byte (68 : Int32) (own_fill 7) (.int (0 : Int32)) := own_fillS 6 (by decide) ▸ Arv.set Ar46 q46 S46 O46 H46 G46 (v := .int (97 : Int32)) (by decide) W47 6 rfl (by rw [own_fill_len _ (by decide)]; decide)
  have N47 := Fr.snoc X47 N44 ge_b1
  have Zb48 : n0 ≤ h47.size := (Nat.le_trans Zb45 (Keep.of_wr W47).1)
  have Sb48_0 := (Sta.wr W47 Sb45_0)
  have Sb48_1 := (Arr.other W47 Sb45_1 ne_tb)
  show own_G p.tables e below _ (T47.setTop (mkF m 40 #[.val (.int x0), .val (.int x1), .val (.int x2), .val (.int x3), .val (.int x4), .val (.int x5), .unset, .unset, .unset, .unset, .unset, .unset, .unset, .unset, .unset] [(.ref b1)]))
  refine own_fs (XS.dup X47.here hx rfl (hb hby at_40) rfl rfl (Steps.refl _)) ?_
  show own_G p.tables e below _ (T47.setTop (mkF m 41 #[.val (.int x0), .val (.int x1), .val (.int x2), .val (.int x3), .val (.int x4), .val (.int x5), .unset, .unset, .unset, .unset, .unset, .unset, .unset, .unset, .unset] [(.ref b1), (.ref b1)]))
  refine own_fs (XS.bipush X47.here hx rfl (hb hby at_41) (Steps.refl _)) ?_
  show own_G p.tables e below _ (T47.setTop (mkF m 43 #[.val (.int x0), .val (.int x1), .val (.int x2), .val (.int x3), .val (.int x4), .val (.int x5), .unset, .unset, .unset, .unset, .unset, .unset, .unset, .unset, .unset] [(.int (7 : Int32)), (.ref b1), (.ref b1)]))
  refine own_fs (XS.bipush X47.here hx rfl (hb hby at_43) (Steps.refl _)) ?_
  show own_G p.tables e below _ (T47.setTop (mkF m 45 #[.val (.int x0), .val (.int x1), .val (.int x2), .val (.int x3), .val (.int x4), .val (.int x5), .unset, .unset, .unset, .unset, .unset, .unset, .unset, .unset, .unset] [(.int (97 : Int32)), (.int (7 : Int32)), (.ref b1), (.ref b1)]))
  obtain ⟨cl49, Ar49, q49, S49, O49, H49, G49⟩ := (id V47)
  obtain ⟨T50, h50, X50, e50, W50, st50⟩ := stB X47 hx hZ e47 Ar49 (j := (7 : Int32)) (inb_of S49 ⟨by decide, by decide⟩) (g := (mkF m 45 #[.val (.int x0), .val (.int x1), .val (.int x2), .val (.int x3), .val (.int x4), .val (.int x5), .unset, .unset, .unset, .unset, .unset, .unset, .unset, .unset, .unset] [(.int (97 : Int32)), (.int (7 : Int32)), (.ref b1), (.ref b1)])) rfl rfl (hb hby at_45)
  refine own_fs (st50 _ (Steps.refl _)) ?_
  have V50 : Arv Z h50 b1 k1 .byte (68 : Int32) (own_fill 8) (.int (0 : Int32)) := own_fillS 7 (by decide) ▸ Arv.set Ar49 q49 S49 O49 H49 G49 (v := .int (97 : Int32)) (by decide) W50 7 rfl (by rw [own_fill_len _ (by decide)]; decide)
  have N50 := Fr.snoc X50 N47 ge_b1
  have Zb51 : n0 ≤ h50.size := (Nat.le_trans Zb48 (Keep.of_wr W50).1)
  have Sb51_0 := (Sta.wr W50 Sb48_0)
  have Sb51_1 := (Arr.other W50 Sb48_1 ne_tb)
  show own_G p.tables e below _ (T50.setTop (mkF m 46 #[.val (.int x0), .val (.int x1), .val (.int x2), .val (.int x3), .val (.int x4), .val (.int x5), .unset, .unset, .unset, .unset, .unset, .unset, .unset, .unset, .unset] [(.ref b1)]))
  refine own_fs (XS.dup X50.here hx rfl (hb hby at_46) rfl rfl (Steps.refl _)) ?_
  show own_G p.tables e below _ (T50.setTop (mkF m 47 #[.val (.int x0), .val (.int x1), .val (.int x2), .val (.int x3), .val (.int x4), .val (.int x5), .unset, .unset, .unset, .unset, .unset, .unset, .unset, .unset, .unset] [(.ref b1), (.ref b1)]))
  refine own_fs (XS.bipush X50.here hx rfl (hb hby at_47) (Steps.refl _)) ?_
  show own_G p.tables e below _ (T50.setTop (mkF m 49 #[.val (.int x0), .val (.int x1), .val (.int x2), .val (.int x3), .val (.int x4), .val (.int x5), .unset, .unset, .unset, .unset, .unset, .unset, .unset, .unset, .unset] [(.int (8 : Int32)), (.ref b1), (.ref b1)]))
  refine own_fs (XS.bipush X50.here hx rfl (hb hby at_49) (Steps.refl _)) ?_
  show own_G p.tables e below _ (T50.setTop (mkF m 51 #[.val (.int x0), .val (.int x1), .val (.int x2), .val (.int x3), .val (.int x4), .val (.int x5), .unset, .unset, .unset, .unset, .unset, .unset, .unset, .unset, .unset] [(.int (97 : Int32)), (.int (8 : Int32)), (.ref b1), (.ref b1)]))
  obtain ⟨cl52, Ar52, q52, S52, O52, H52, G52⟩ := (id V50)
  obtain ⟨T53, h53, X53, e53, W53, st53⟩ := stB X50 hx hZ e50 Ar52 (j := (8 : Int32)) (inb_of S52 ⟨by decide, by decide⟩) (g := (mkF m 51 #[.val (.int x0), .val (.int x1), .val (.int x2), .val (.int x3), .val (.int x4), .val (.int x5), .unset, .unset, .unset, .unset, .unset, .unset, .unset, .unset, .unset] [(.int (97 : Int32)), (.int (8 : Int32)), (.ref b1), (.ref b1)])) rfl rfl (hb hby at_51)
  refine own_fs (st53 _ (Steps.refl _)) ?_
  have V53 : Arv Z h53 b1 k1 .byte (68 : Int32) (own_fill 9) (.int (0 : Int32)) := own_fillS 8 (by decide) ▸ Arv.set Ar52 q52 S52 O52 H52 G52 (v := .int (97 : Int32)) (by decide) W53 8 rfl (by rw [own_fill_len _ (by decide)]; decide)
  have N53 := Fr.snoc X53 N50 ge_b1
  have Zb54 : n0 ≤ h53.size := (Nat.le_trans Zb51 (Keep.of_wr W53).1)
  have Sb54_0 := (Sta.wr W53 Sb51_0)
  have Sb54_1 := (Arr.other W53 Sb51_1 ne_tb)
  show own_G p.tables e below _ (T53.setTop (mkF m 52 #[.val (.int x0), .val (.int x1), .val (.int x2), .val (.int x3), .val (.int x4), .val (.int x5), .unset, .unset, .unset, .unset, .unset, .unset, .unset, .unset, .unset] [(.ref b1)]))
  refine own_fs (XS.dup X53.here hx rfl (hb hby at_52) rfl rfl (Steps.refl _)) ?_
  show own_G p.tables e below _ (T53.setTop (mkF m 53 #[.val (.int x0), .val (.int x1), .val (.int x2), .val (.int x3), .val (.int x4), .val (.int x5), .unset, .unset, .unset, .unset, .unset, .unset, .unset, .unset, .unset] [(.ref b1), (.ref b1)]))
  refine own_fs (XS.bipush X53.here hx rfl (hb hby at_53) (Steps.refl _)) ?_
  show own_G p.tables e below _ (T53.setTop (mkF m 55 #[.val (.int x0), .val (.int x1), .val (.int x2), .val (.int x3), .val (.int x4), .val (.int x5), .unset, .unset, .unset, .unset, .unset, .unset, .unset, .unset, .unset] [(.int (9 : Int32)), (.ref b1), (.ref b1)]))
  refine own_fs (XS.bipush X53.here hx rfl (hb hby at_55) (Steps.refl _)) ?_
  show own_G p.tables e below _ (T53.setTop (mkF m 57 #[.val (.int x0), .val (.int x1), .val (.int x2), .val (.int x3), .val (.int x4), .val (.int x5), .unset, .unset, .unset, .unset, .unset, .unset, .unset, .unset, .unset] [(.int (97 : Int32)), (.int (9 : Int32)), (.ref b1), (.ref b1)]))
  obtain ⟨cl55, Ar55, q55, S55, O55, H55, G55⟩ := (id V53)
  obtain ⟨T56, h56, X56, e56, W56, st56⟩ := stB X53 hx hZ e53 Ar55 (j := (9 : Int32)) (inb_of S55 ⟨by decide, by decide⟩) (g := (mkF m 57 #[.val (.int x0), .val (.int x1), .val (.int x2), .val (.int x3), .val (.int x4), .val (.int x5), .unset, .unset, .unset, .unset, .unset, .unset, .unset, .unset, .unset] [(.int (97 : Int32)), (.int (9 : Int32)), (.ref b1), (.ref b1)])) rfl rfl (hb hby at_57)
  refine own_fs (st56 _ (Steps.refl _)) ?_
  have V56 : Arv Z h56 b1 k1 .byte (68 : Int32) (own_fill 10) (.int (0 : Int32)) := own_fillS 9 (by decide) ▸ Arv.set Ar55 q55 S55 O55 H55 G55 (v := .int (97 : Int32)) (by decide) W56 9 rfl (by rw [own_fill_len _ (by decide)]; decide)
  have N56 := Fr.snoc X56 N53 ge_b1
  have Zb57 : n0 ≤ h56.size := (Nat.le_trans Zb54 (Keep.of_wr W56).1)
  have Sb57_0 := (Sta.wr W56 Sb54_0)
  have Sb57_1 := (Arr.other W56 Sb54_1 ne_tb)
  show own_G p.tables e below _ (T56.setTop (mkF m 58 #[.val (.int x0), .val (.int x1), .val (.int x2), .val (.int x3), .val (.int x4), .val (.int x5), .unset, .unset, .unset, .unset, .unset, .unset, .unset, .unset, .unset] [(.ref b1)]))
  refine own_fs (XS.dup X56.here hx rfl (hb hby at_58) rfl rfl (Steps.refl _)) ?_
  show own_G p.tables e below _ (T56.setTop (mkF m 59 #[.val (.int x0), .val (.int x1), .val (.int x2), .val (.int x3), .val (.int x4), .val (.int x5), .unset, .unset, .unset, .unset, .unset, .unset, .unset, .unset, .unset] [(.ref b1), (.ref b1)]))
  refine own_fs (XS.bipush X56.here hx rfl (hb hby at_59) (Steps.refl _)) ?_
  show own_G p.tables e below _ (T56.setTop (mkF m 61 #[.val (.int x0), .val (.int x1), .val (.int x2), .val (.int x3), .val (.int x4), .val (.int x5), .unset, .unset, .unset, .unset, .unset, .unset, .unset, .unset, .unset] [(.int (10 : Int32)), (.ref b1), (.ref b1)]))
  refine own_fs (XS.bipush X56.here hx rfl (hb hby at_61) (Steps.refl _)) ?_
  show own_G p.tables e below _ (T56.setTop (mkF m 63 #[.val (.int x0), .val (.int x1), .val (.int x2), .val (.int x3), .val (.int x4), .val (.int x5), .unset, .unset, .unset, .unset, .unset, .unset, .unset, .unset, .unset] [(.int (97 : Int32)), (.int (10 : Int32)), (.ref b1), (.ref b1)]))
  obtain ⟨cl58, Ar58, q58, S58, O58, H58, G58⟩ := (id V56)
  obtain ⟨T59, h59, X59, e59, W59, st59⟩ := stB X56 hx hZ e56 Ar58 (j := (10 : Int32)) (inb_of S58 ⟨by decide, by decide⟩) (g := (mkF m 63 #[.val (.int x0), .val (.int x1), .val (.int x2), .val (.int x3), .val (.int x4), .val (.int x5), .unset, .unset, .unset, .unset, .unset, .unset, .unset, .unset, .unset] [(.int (97 : Int32)), (.int (10 : Int32)), (.ref b1), (.ref b1)])) rfl rfl (hb hby at_63)
  refine own_fs (st59 _ (Steps.refl _)) ?_
  have V59 : Arv Z h59 b1 k1 .byte (68 : Int32) (own_fill 11) (.int (0 : Int32)) := own_fillS 10 (by decide) ▸ Arv.set Ar58 q58 S58 O58 H58 G58 (v := .int (97 : Int32)) (by decide) W59 10 rfl (by rw [own_fill_len _ (by decide)]; decide)
  have N59 := Fr.snoc X59 N56 ge_b1
  have Zb60 : n0 ≤ h59.size := (Nat.le_trans Zb57 (Keep.of_wr W59).1)
  have Sb60_0 := (Sta.wr W59 Sb57_0)
  have Sb60_1 := (Arr.other W59 Sb57_1 ne_tb)
  show own_G p.tables e below _ (T59.setTop (mkF m 64 #[.val (.int x0), .val (.int x1), .val (.int x2), .val (.int x3), .val (.int x4), .val (.int x5), .unset, .unset, .unset, .unset, .unset, .unset, .unset, .unset, .unset] [(.ref b1)]))
  refine own_fs (XS.dup X59.here hx rfl (hb hby at_64) rfl rfl (Steps.refl _)) ?_
  show own_G p.tables e below _ (T59.setTop (mkF m 65 #[.val (.int x0), .val (.int x1), .val (.int x2), .val (.int x3), .val (.int x4), .val (.int x5), .unset, .unset, .unset, .unset, .unset, .unset, .unset, .unset, .unset] [(.ref b1), (.ref b1)]))
  refine own_fs (XS.bipush X59.here hx rfl (hb hby at_65) (Steps.refl _)) ?_
  show own_G p.tables e below _ (T59.setTop (mkF m 67 #[.val (.int x0), .val (.int x1), .val (.int x2), .val (.int x3), .val (.int x4), .val (.int x5), .unset, .unset, .unset, .unset, .unset, .unset, .unset, .unset, .unset] [(.int (11 : Int32)), (.ref b1), (.ref b1)]))
  refine own_fs (XS.bipush X59.here hx rfl (hb hby at_67) (Steps.refl _)) ?_
  show own_G p.tables e below _ (T59.setTop (mkF m 69 #[.val (.int x0), .val (.int x1), .val (.int x2), .val (.int x3), .val (.int x4), .val (.int x5), .unset, .unset, .unset, .unset, .unset, .unset, .unset, .unset, .unset] [(.int (97 : Int32)), (.int (11 : Int32)), (.ref b1), (.ref b1)]))
  obtain ⟨cl61, Ar61, q61, S61, O61, H61, G61⟩ := (id V59)
  obtain ⟨T62, h62, X62, e62, W62, st62⟩ := stB X59 hx hZ e59 Ar61 (j := (11 : Int32)) (inb_of S61 ⟨by decide, by decide⟩) (g := (mkF m 69 #[.val (.int x0), .val (.int x1), .val (.int x2), .val (.int x3), .val (.int x4), .val (.int x5), .unset, .unset, .unset, .unset, .unset, .unset, .unset, .unset, .unset] [(.int (97 : Int32)), (.int (11 : Int32)), (.ref b1), (.ref b1)])) rfl rfl (hb hby at_69)
  refine own_fs (st62 _ (Steps.refl _)) ?_
  have V62 : Arv Z h62 b1 k1 .byte (68 : Int32) (own_fill 12) (.int (0 : Int32)) := own_fillS 11 (by decide) ▸ Arv.set Ar61 q61 S61 O61 H61 G61 (v := .int (97 : Int32)) (by decide) W62 11 rfl (by rw [own_fill_len _ (by decide)]; decide)
  have N62 := Fr.snoc X62 N59 ge_b1
  have Zb63 : n0 ≤ h62.size := (Nat.le_trans Zb60 (Keep.of_wr W62).1)
  have Sb63_0 := (Sta.wr W62 Sb60_0)
  have Sb63_1 := (Arr.other W62 Sb60_1 ne_tb)
  show own_G p.tables e below _ (T62.setTop (mkF m 70 #[.val (.int x0), .val (.int x1), .val (.int x2), .val (.int x3), .val (.int x4), .val (.int x5), .unset, .unset, .unset, .unset, .unset, .unset, .unset, .unset, .unset] [(.ref b1)]))
  refine own_fs (XS.dup X62.here hx rfl (hb hby at_70) rfl rfl (Steps.refl _)) ?_
  show own_G p.tables e below _ (T62.setTop (mkF m 71 #[.val (.int x0), .val (.int x1), .val (.int x2), .val (.int x3), .val (.int x4), .val (.int x5), .unset, .unset, .unset, .unset, .unset, .unset, .unset, .unset, .unset] [(.ref b1), (.ref b1)]))
  refine own_fs (XS.bipush X62.here hx rfl (hb hby at_71) (Steps.refl _)) ?_
  show own_G p.tables e below _ (T62.setTop (mkF m 73 #[.val (.int x0), .val (.int x1), .val (.int x2), .val (.int x3), .val (.int x4), .val (.int x5), .unset, .unset, .unset, .unset, .unset, .unset, .unset, .unset, .unset] [(.int (12 : Int32)), (.ref b1), (.ref b1)]))
  refine own_fs (XS.bipush X62.here hx rfl (hb hby at_73) (Steps.refl _)) ?_
  show own_G p.tables e below _ (T62.setTop (mkF m 75 #[.val (.int x0), .val (.int x1), .val (.int x2), .val (.int x3), .val (.int x4), .val (.int x5), .unset, .unset, .unset, .unset, .unset, .unset, .unset, .unset, .unset] [(.int (97 : Int32)), (.int (12 : Int32)), (.ref b1), (.ref b1)]))
  obtain ⟨cl64, Ar64, q64, S64, O64, H64, G64⟩ := (id V62)
  obtain ⟨T65, h65, X65, e65, W65, st65⟩ := stB X62 hx hZ e62 Ar64 (j := (12 : Int32)) (inb_of S64 ⟨by decide, by decide⟩) (g := (mkF m 75 #[.val (.int x0), .val (.int x1), .val (.int x2), .val (.int x3), .val (.int x4), .val (.int x5), .unset, .unset, .unset, .unset, .unset, .unset, .unset, .unset, .unset] [(.int (97 : Int32)), (.int (12 : Int32)), (.ref b1), (.ref b1)])) rfl rfl (hb hby at_75)
  refine own_fs (st65 _ (Steps.refl _)) ?_
  have V65 : Arv Z h65 b1 k1 .byte (68 : Int32) (own_fill 13) (.int (0 : Int32)) := own_fillS 12 (by decide) ▸ Arv.set Ar64 q64 S64 O64 H64 G64 (v := .int (97 : Int32)) (by decide) W65 12 rfl (by rw [own_fill_len _ (by decide)]; decide)
  have N65 := Fr.snoc X65 N62 ge_b1
  have Zb66 : n0 ≤ h65.size := (Nat.le_trans Zb63 (Keep.of_wr W65).1)
  have Sb66_0 := (Sta.wr W65 Sb63_0)
  have Sb66_1 := (Arr.other W65 Sb63_1 ne_tb)
  show own_G p.tables e below _ (T65.setTop (mkF m 76 #[.val (.int x0), .val (.int x1), .val (.int x2), .val (.int x3), .val (.int x4), .val (.int x5), .unset, .unset, .unset, .unset, .unset, .unset, .unset, .unset, .unset] [(.ref b1)]))
  refine own_fs (XS.dup X65.here hx rfl (hb hby at_76) rfl rfl (Steps.refl _)) ?_
  show own_G p.tables e below _ (T65.setTop (mkF m 77 #[.val (.int x0), .val (.int x1), .val (.int x2), .val (.int x3), .val (.int x4), .val (.int x5), .unset, .unset, .unset, .unset, .unset, .unset, .unset, .unset, .unset] [(.ref b1), (.ref b1)]))
  refine own_fs (XS.bipush X65.here hx rfl (hb hby at_77) (Steps.refl _)) ?_
  show own_G p.tables e below _ (T65.setTop (mkF m 79 #[.val (.int x0), .val (.int x1), .val (.int x2), .val (.int x3), .val (.int x4), .val (.int x5), .unset, .unset, .unset, .unset, .unset, .unset, .unset, .unset, .unset] [(.int (13 : Int32)), (.ref b1), (.ref b1)]))
  refine own_fs (XS.bipush X65.here hx rfl (hb hby at_79) (Steps.refl _)) ?_
  show own_G p.tables e below _ (T65.setTop (mkF m 81 #[.val (.int x0), .val (.int x1), .val (.int x2), .val (.int x3), .val (.int x4), .val (.int x5), .unset, .unset, .unset, .unset, .unset, .unset, .unset, .unset, .unset] [(.int (97 : Int32)), (.int (13 : Int32)), (.ref b1), (.ref b1)]))
  obtain ⟨cl67, Ar67, q67, S67, O67, H67, G67⟩ := (id V65)
  obtain ⟨T68, h68, X68, e68, W68, st68⟩ := stB X65 hx hZ e65 Ar67 (j := (13 : Int32)) (inb_of S67 ⟨by decide, by decide⟩) (g := (mkF m 81 #[.val (.int x0), .val (.int x1), .val (.int x2), .val (.int x3), .val (.int x4), .val (.int x5), .unset, .unset, .unset, .unset, .unset, .unset, .unset, .unset, .unset] [(.int (97 : Int32)), (.int (13 : Int32)), (.ref b1), (.ref b1)])) rfl rfl (hb hby at_81)
  refine own_fs (st68 _ (Steps.refl _)) ?_
  have V68 : Arv Z h68 b1 k1 .byte (68 : Int32) (own_fill 14) (.int (0 : Int32)) := own_fillS 13 (by decide) ▸ Arv.set Ar67 q67 S67 O67 H67 G67 (v := .int (97 : Int32)) (by decide) W68 13 rfl (by rw [own_fill_len _ (by decide)]; decide)
  have N68 := Fr.snoc X68 N65 ge_b1
  have Zb69 : n0 ≤ h68.size := (Nat.le_trans Zb66 (Keep.of_wr W68).1)
  have Sb69_0 := (Sta.wr W68 Sb66_0)
  have Sb69_1 := (Arr.other W68 Sb66_1 ne_tb)
  show own_G p.tables e below _ (T68.setTop (mkF m 82 #[.val (.int x0), .val (.int x1), .val (.int x2), .val (.int x3), .val (.int x4), .val (.int x5), .unset, .unset, .unset, .unset, .unset, .unset, .unset, .unset, .unset] [(.ref b1)]))
  refine own_fs (XS.dup X68.here hx rfl (hb hby at_82) rfl rfl (Steps.refl _)) ?_
  show own_G p.tables e below _ (T68.setTop (mkF m 83 #[.val (.int x0), .val (.int x1), .val (.int x2), .val (.int x3), .val (.int x4), .val (.int x5), .unset, .unset, .unset, .unset, .unset, .unset, .unset, .unset, .unset] [(.ref b1), (.ref b1)]))
  refine own_fs (XS.bipush X68.here hx rfl (hb hby at_83) (Steps.refl _)) ?_
  show own_G p.tables e below _ (T68.setTop (mkF m 85 #[.val (.int x0), .val (.int x1), .val (.int x2), .val (.int x3), .val (.int x4), .val (.int x5), .unset, .unset, .unset, .unset, .unset, .unset, .unset, .unset, .unset] [(.int (14 : Int32)), (.ref b1), (.ref b1)]))
  refine own_fs (XS.bipush X68.here hx rfl (hb hby at_85) (Steps.refl _)) ?_
  show own_G p.tables e below _ (T68.setTop (mkF m 87 #[.val (.int x0), .val (.int x1), .val (.int x2), .val (.int x3), .val (.int x4), .val (.int x5), .unset, .unset, .unset, .unset, .unset, .unset, .unset, .unset, .unset] [(.int (97 : Int32)), (.int (14 : Int32)), (.ref b1), (.ref b1)]))
  obtain ⟨cl70, Ar70, q70, S70, O70, H70, G70⟩ := (id V68)
  obtain ⟨T71, h71, X71, e71, W71, st71⟩ := stB X68 hx hZ e68 Ar70 (j := (14 : Int32)) (inb_of S70 ⟨by decide, by decide⟩) (g := (mkF m 87 #[.val (.int x0), .val (.int x1), .val (.int x2), .val (.int x3), .val (.int x4), .val (.int x5), .unset, .unset, .unset, .unset, .unset, .unset, .unset, .unset, .unset] [(.int (97 : Int32)), (.int (14 : Int32)), (.ref b1), (.ref b1)])) rfl rfl (hb hby at_87)
  refine own_fs (st71 _ (Steps.refl _)) ?_
  have V71 : Arv Z h71 b1 k1 .byte (68 : Int32) (own_fill 15) (.int (0 : Int32)) := own_fillS 14 (by decide) ▸ Arv.set Ar70 q70 S70 O70 H70 G70 (v := .int (97 : Int32)) (by decide) W71 14 rfl (by rw [own_fill_len _ (by decide)]; decide)
  have N71 := Fr.snoc X71 N68 ge_b1
  have Zb72 : n0 ≤ h71.size := (Nat.le_trans Zb69 (Keep.of_wr W71).1)
  have Sb72_0 := (Sta.wr W71 Sb69_0)
  have Sb72_1 := (Arr.other W71 Sb69_1 ne_tb)
  show own_G p.tables e below _ (T71.setTop (mkF m 88 #[.val (.int x0), .val (.int x1), .val (.int x2), .val (.int x3), .val (.int x4), .val (.int x5), .unset, .unset, .unset, .unset, .unset, .unset, .unset, .unset, .unset] [(.ref b1)]))
  refine own_fs (XS.dup X71.here hx rfl (hb hby at_88) rfl rfl (Steps.refl _)) ?_
  show own_G p.tables e below _ (T71.setTop (mkF m 89 #[.val (.int x0), .val (.int x1), .val (.int x2), .val (.int x3), .val (.int x4), .val (.int x5), .unset, .unset, .unset, .unset, .unset, .unset, .unset, .unset, .unset] [(.ref b1), (.ref b1)]))
  refine own_fs (XS.bipush X71.here hx rfl (hb hby at_89) (Steps.refl _)) ?_
  show own_G p.tables e below _ (T71.setTop (mkF m 91 #[.val (.int x0), .val (.int x1), .val (.int x2), .val (.int x3), .val (.int x4), .val (.int x5), .unset, .unset, .unset, .unset, .unset, .unset, .unset, .unset, .unset] [(.int (15 : Int32)), (.ref b1), (.ref b1)]))
  refine own_fs (XS.bipush X71.here hx rfl (hb hby at_91) (Steps.refl _)) ?_
  show own_G p.tables e below _ (T71.setTop (mkF m 93 #[.val (.int x0), .val (.int x1), .val (.int x2), .val (.int x3), .val (.int x4), .val (.int x5), .unset, .unset, .unset, .unset, .unset, .unset, .unset, .unset, .unset] [(.int (97 : Int32)), (.int (15 : Int32)), (.ref b1), (.ref b1)]))
  obtain ⟨cl73, Ar73, q73, S73, O73, H73, G73⟩ := (id V71)
  obtain ⟨T74, h74, X74, e74, W74, st74⟩ := stB X71 hx hZ e71 Ar73 (j := (15 : Int32)) (inb_of S73 ⟨by decide, by decide⟩) (g := (mkF m 93 #[.val (.int x0), .val (.int x1), .val (.int x2), .val (.int x3), .val (.int x4), .val (.int x5), .unset, .unset, .unset, .unset, .unset, .unset, .unset, .unset, .unset] [(.int (97 : Int32)), (.int (15 : Int32)), (.ref b1), (.ref b1)])) rfl rfl (hb hby at_93)
  refine own_fs (st74 _ (Steps.refl _)) ?_
  have V74 : Arv Z h74 b1 k1 .byte (68 : Int32) (own_fill 16) (.int (0 : Int32)) := own_fillS 15 (by decide) ▸ Arv.set Ar73 q73 S73 O73 H73 G73 (v := .int (97 : Int32)) (by decide) W74 15 rfl (by rw [own_fill_len _ (by decide)]; decide)
  have N74 := Fr.snoc X74 N71 ge_b1
  have Zb75 : n0 ≤ h74.size := (Nat.le_trans Zb72 (Keep.of_wr W74).1)
  have Sb75_0 := (Sta.wr W74 Sb72_0)
  have Sb75_1 := (Arr.other W74 Sb72_1 ne_tb)
  show own_G p.tables e below _ (T74.setTop (mkF m 94 #[.val (.int x0), .val (.int x1), .val (.int x2), .val (.int x3), .val (.int x4), .val (.int x5), .unset, .unset, .unset, .unset, .unset, .unset, .unset, .unset, .unset] [(.ref b1)]))
  refine own_fs (XS.dup X74.here hx rfl (hb hby at_94) rfl rfl (Steps.refl _)) ?_
  show own_G p.tables e below _ (T74.setTop (mkF m 95 #[.val (.int x0), .val (.int x1), .val (.int x2), .val (.int x3), .val (.int x4), .val (.int x5), .unset, .unset, .unset, .unset, .unset, .unset, .unset, .unset, .unset] [(.ref b1), (.ref b1)]))
  refine own_fs (XS.bipush X74.here hx rfl (hb hby at_95) (Steps.refl _)) ?_
  show own_G p.tables e below _ (T74.setTop (mkF m 97 #[.val (.int x0), .val (.int x1), .val (.int x2), .val (.int x3), .val (.int x4), .val (.int x5), .unset, .unset, .unset, .unset, .unset, .unset, .unset, .unset, .unset] [(.int (16 : Int32)), (.ref b1), (.ref b1)]))
  refine own_fs (XS.bipush X74.here hx rfl (hb hby at_97) (Steps.refl _)) ?_
  show own_G p.tables e below _ (T74.setTop (mkF m 99 #[.val (.int x0), .val (.int x1), .val (.int x2), .val (.int x3), .val (.int x4), .val (.int x5), .unset, .unset, .unset, .unset, .unset, .unset, .unset, .unset, .unset] [(.int (97 : Int32)), (.int (16 : Int32)), (.ref b1), (.ref b1)]))
  obtain ⟨cl76, Ar76, q76, S76, O76, H76, G76⟩ := (id V74)
  obtain ⟨T77, h77, X77, e77, W77, st77⟩ := stB X74 hx hZ e74 Ar76 (j := (16 : Int32)) (inb_of S76 ⟨by decide, by decide⟩) (g := (mkF m 99 #[.val (.int x0), .val (.int x1), .val (.int x2), .val (.int x3), .val (.int x4), .val (.int x5), .unset, .unset, .unset, .unset, .unset, .unset, .unset, .unset, .unset] [(.int (97 : Int32)), (.int (16 : Int32)), (.ref b1), (.ref b1)])) rfl rfl (hb hby at_99)
  refine own_fs (st77 _ (Steps.refl _)) ?_
  have V77 : Arv Z h77 b1 k1 .byte (68 : Int32) (own_fill 17) (.int (0 : Int32)) := own_fillS 16 (by decide) ▸ Arv.set Ar76 q76 S76 O76 H76 G76 (v := .int (97 : Int32)) (by decide) W77 16 rfl (by rw [own_fill_len _ (by decide)]; decide)
  have N77 := Fr.snoc X77 N74 ge_b1
  have Zb78 : n0 ≤ h77.size := (Nat.le_trans Zb75 (Keep.of_wr W77).1)
  have Sb78_0 := (Sta.wr W77 Sb75_0)
  have Sb78_1 := (Arr.other W77 Sb75_1 ne_tb)
  show own_G p.tables e below _ (T77.setTop (mkF m 100 #[.val (.int x0), .val (.int x1), .val (.int x2), .val (.int x3), .val (.int x4), .val (.int x5), .unset, .unset, .unset, .unset, .unset, .unset, .unset, .unset, .unset] [(.ref b1)]))
  refine own_fs (XS.dup X77.here hx rfl (hb hby at_100) rfl rfl (Steps.refl _)) ?_
  show own_G p.tables e below _ (T77.setTop (mkF m 101 #[.val (.int x0), .val (.int x1), .val (.int x2), .val (.int x3), .val (.int x4), .val (.int x5), .unset, .unset, .unset, .unset, .unset, .unset, .unset, .unset, .unset] [(.ref b1), (.ref b1)]))
  refine own_fs (XS.bipush X77.here hx rfl (hb hby at_101) (Steps.refl _)) ?_
  show own_G p.tables e below _ (T77.setTop (mkF m 103 #[.val (.int x0), .val (.int x1), .val (.int x2), .val (.int x3), .val (.int x4), .val (.int x5), .unset, .unset, .unset, .unset, .unset, .unset, .unset, .unset, .unset] [(.int (17 : Int32)), (.ref b1), (.ref b1)]))
  refine own_fs (XS.bipush X77.here hx rfl (hb hby at_103) (Steps.refl _)) ?_
  show own_G p.tables e below _ (T77.setTop (mkF m 105 #[.val (.int x0), .val (.int x1), .val (.int x2), .val (.int x3), .val (.int x4), .val (.int x5), .unset, .unset, .unset, .unset, .unset, .unset, .unset, .unset, .unset] [(.int (97 : Int32)), (.int (17 : Int32)), (.ref b1), (.ref b1)]))
  obtain ⟨cl79, Ar79, q79, S79, O79, H79, G79⟩ := (id V77)
  obtain ⟨T80, h80, X80, e80, W80, st80⟩ := stB X77 hx hZ e77 Ar79 (j := (17 : Int32)) (inb_of S79 ⟨by decide, by decide⟩) (g := (mkF m 105 #[.val (.int x0), .val (.int x1), .val (.int x2), .val (.int x3), .val (.int x4), .val (.int x5), .unset, .unset, .unset, .unset, .unset, .unset, .unset, .unset, .unset] [(.int (97 : Int32)), (.int (17 : Int32)), (.ref b1), (.ref b1)])) rfl rfl (hb hby at_105)
  refine own_fs (st80 _ (Steps.refl _)) ?_
  have V80 : Arv Z h80 b1 k1 .byte (68 : Int32) (own_fill 18) (.int (0 : Int32)) := own_fillS 17 (by decide) ▸ Arv.set Ar79 q79 S79 O79 H79 G79 (v := .int (97 : Int32)) (by decide) W80 17 rfl (by rw [own_fill_len _ (by decide)]; decide)
  have N80 := Fr.snoc X80 N77 ge_b1
  have Zb81 : n0 ≤ h80.size := (Nat.le_trans Zb78 (Keep.of_wr W80).1)
  have Sb81_0 := (Sta.wr W80 Sb78_0)
  have Sb81_1 := (Arr.other W80 Sb78_1 ne_tb)
  show own_G p.tables e below _ (T80.setTop (mkF m 106 #[.val (.int x0), .val (.int x1), .val (.int x2), .val (.int x3), .val (.int x4), .val (.int x5), .unset, .unset, .unset, .unset, .unset, .unset, .unset, .unset, .unset] [(.ref b1)]))
  refine own_fs (XS.dup X80.here hx rfl (hb hby at_106) rfl rfl (Steps.refl _)) ?_
  show own_G p.tables e below _ (T80.setTop (mkF m 107 #[.val (.int x0), .val (.int x1), .val (.int x2), .val (.int x3), .val (.int x4), .val (.int x5), .unset, .unset, .unset, .unset, .unset, .unset, .unset, .unset, .unset] [(.ref b1), (.ref b1)]))
  refine own_fs (XS.bipush X80.here hx rfl (hb hby at_107) (Steps.refl _)) ?_
  show own_G p.tables e below _ (T80.setTop (mkF m 109 #[.val (.int x0), .val (.int x1), .val (.int x2), .val (.int x3), .val (.int x4), .val (.int x5), .unset, .unset, .unset, .unset, .unset, .unset, .unset, .unset, .unset] [(.int (18 : Int32)), (.ref b1), (.ref b1)]))
  refine own_fs (XS.bipush X80.here hx rfl (hb hby at_109) (Steps.refl _)) ?_
  show own_G p.tables e below _ (T80.setTop (mkF m 111 #[.val (.int x0), .val (.int x1), .val (.int x2), .val (.int x3), .val (.int x4), .val (.int x5), .unset, .unset, .unset, .unset, .unset, .unset, .unset, .unset, .unset] [(.int (97 : Int32)), (.int (18 : Int32)), (.ref b1), (.ref b1)]))
  obtain ⟨cl82, Ar82, q82, S82, O82, H82, G82⟩ := (id V80)
  obtain ⟨T83, h83, X83, e83, W83, st83⟩ := stB X80 hx hZ e80 Ar82 (j := (18 : Int32)) (inb_of S82 ⟨by decide, by decide⟩) (g := (mkF m 111 #[.val (.int x0), .val (.int x1), .val (.int x2), .val (.int x3), .val (.int x4), .val (.int x5), .unset, .unset, .unset, .unset, .unset, .unset, .unset, .unset, .unset] [(.int (97 : Int32)), (.int (18 : Int32)), (.ref b1), (.ref b1)])) rfl rfl (hb hby at_111)
  refine own_fs (st83 _ (Steps.refl _)) ?_
  have V83 : Arv Z h83 b1 k1 .byte (68 : Int32) (own_fill 19) (.int (0 : Int32)) := own_fillS 18 (by decide) ▸ Arv.set Ar82 q82 S82 O82 H82 G82 (v := .int (97 : Int32)) (by decide) W83 18 rfl (by rw [own_fill_len _ (by decide)]; decide)
  have N83 := Fr.snoc X83 N80 ge_b1
  have Zb84 : n0 ≤ h83.size := (Nat.le_trans Zb81 (Keep.of_wr W83).1)
  have Sb84_0 := (Sta.wr W83 Sb81_0)
  have Sb84_1 := (Arr.other W83 Sb81_1 ne_tb)
  show own_G p.tables e below _ (T83.setTop (mkF m 112 #[.val (.int x0), .val (.int x1), .val (.int x2), .val (.int x3), .val (.int x4), .val (.int x5), .unset, .unset, .unset, .unset, .unset, .unset, .unset, .unset, .unset] [(.ref b1)]))
  refine own_fs (XS.dup X83.here hx rfl (hb hby at_112) rfl rfl (Steps.refl _)) ?_
  show own_G p.tables e below _ (T83.setTop (mkF m 113 #[.val (.int x0), .val (.int x1), .val (.int x2), .val (.int x3), .val (.int x4), .val (.int x5), .unset, .unset, .unset, .unset, .unset, .unset, .unset, .unset, .unset] [(.ref b1), (.ref b1)]))
  refine own_fs (XS.bipush X83.here hx rfl (hb hby at_113) (Steps.refl _)) ?_
  show own_G p.tables e below _ (T83.setTop (mkF m 115 #[.val (.int x0), .val (.int x1), .val (.int x2), .val (.int x3), .val (.int x4), .val (.int x5), .unset, .unset, .unset, .unset, .unset, .unset, .unset, .unset, .unset] [(.int (19 : Int32)), (.ref b1), (.ref b1)]))
  refine own_fs (XS.bipush X83.here hx rfl (hb hby at_115) (Steps.refl _)) ?_
  show own_G p.tables e below _ (T83.setTop (mkF m 117 #[.val (.int x0), .val (.int x1), .val (.int x2), .val (.int x3), .val (.int x4), .val (.int x5), .unset, .unset, .unset, .unset, .unset, .unset, .unset, .unset, .unset] [(.int (97 : Int32)), (.int (19 : Int32)), (.ref b1), (.ref b1)]))
  obtain ⟨cl85, Ar85, q85, S85, O85, H85, G85⟩ := (id V83)
  obtain ⟨T86, h86, X86, e86, W86, st86⟩ := stB X83 hx hZ e83 Ar85 (j := (19 : Int32)) (inb_of S85 ⟨by decide, by decide⟩) (g := (mkF m 117 #[.val (.int x0), .val (.int x1), .val (.int x2), .val (.int x3), .val (.int x4), .val (.int x5), .unset, .unset, .unset, .unset, .unset, .unset, .unset, .unset, .unset] [(.int (97 : Int32)), (.int (19 : Int32)), (.ref b1), (.ref b1)])) rfl rfl (hb hby at_117)
  refine own_fs (st86 _ (Steps.refl _)) ?_
  have V86 : Arv Z h86 b1 k1 .byte (68 : Int32) (own_fill 20) (.int (0 : Int32)) := own_fillS 19 (by decide) ▸ Arv.set Ar85 q85 S85 O85 H85 G85 (v := .int (97 : Int32)) (by decide) W86 19 rfl (by rw [own_fill_len _ (by decide)]; decide)
  have N86 := Fr.snoc X86 N83 ge_b1
  have Zb87 : n0 ≤ h86.size := (Nat.le_trans Zb84 (Keep.of_wr W86).1)
  have Sb87_0 := (Sta.wr W86 Sb84_0)
  have Sb87_1 := (Arr.other W86 Sb84_1 ne_tb)
  show own_G p.tables e below _ (T86.setTop (mkF m 118 #[.val (.int x0), .val (.int x1), .val (.int x2), .val (.int x3), .val (.int x4), .val (.int x5), .unset, .unset, .unset, .unset, .unset, .unset, .unset, .unset, .unset] [(.ref b1)]))
  refine own_fs (XS.dup X86.here hx rfl (hb hby at_118) rfl rfl (Steps.refl _)) ?_
  show own_G p.tables e below _ (T86.setTop (mkF m 119 #[.val (.int x0), .val (.int x1), .val (.int x2), .val (.int x3), .val (.int x4), .val (.int x5), .unset, .unset, .unset, .unset, .unset, .unset, .unset, .unset, .unset] [(.ref b1), (.ref b1)]))
  refine own_fs (XS.bipush X86.here hx rfl (hb hby at_119) (Steps.refl _)) ?_
  show own_G p.tables e below _ (T86.setTop (mkF m 121 #[.val (.int x0), .val (.int x1), .val (.int x2), .val (.int x3), .val (.int x4), .val (.int x5), .unset, .unset, .unset, .unset, .unset, .unset, .unset, .unset, .unset] [(.int (20 : Int32)), (.ref b1), (.ref b1)]))
  refine own_fs (XS.bipush X86.here hx rfl (hb hby at_121) (Steps.refl _)) ?_
  show own_G p.tables e below _ (T86.setTop (mkF m 123 #[.val (.int x0), .val (.int x1), .val (.int x2), .val (.int x3), .val (.int x4), .val (.int x5), .unset, .unset, .unset, .unset, .unset, .unset, .unset, .unset, .unset] [(.int (97 : Int32)), (.int (20 : Int32)), (.ref b1), (.ref b1)]))
  obtain ⟨cl88, Ar88, q88, S88, O88, H88, G88⟩ := (id V86)
  obtain ⟨T89, h89, X89, e89, W89, st89⟩ := stB X86 hx hZ e86 Ar88 (j := (20 : Int32)) (inb_of S88 ⟨by decide, by decide⟩) (g := (mkF m 123 #[.val (.int x0), .val (.int x1), .val (.int x2), .val (.int x3), .val (.int x4), .val (.int x5), .unset, .unset, .unset, .unset, .unset, .unset, .unset, .unset, .unset] [(.int (97 : Int32)), (.int (20 : Int32)), (.ref b1), (.ref b1)])) rfl rfl (hb hby at_123)
  refine own_fs (st89 _ (Steps.refl _)) ?_
  have V89 : Arv Z h89 b1 k1 .byte (68 : Int32) (own_fill 21) (.int (0 : Int32)) := own_fillS 20 (by decide) ▸ Arv.set Ar88 q88 S88 O88 H88 G88 (v := .int (97 : Int32)) (by decide) W89 20 rfl (by rw [own_fill_len _ (by decide)]; decide)
  have N89 := Fr.snoc X89 N86 ge_b1
  have Zb90 : n0 ≤ h89.size := (Nat.le_trans Zb87 (Keep.of_wr W89).1)
  have Sb90_0 := (Sta.wr W89 Sb87_0)
  have Sb90_1 := (Arr.other W89 Sb87_1 ne_tb)
  show own_G p.tables e below _ (T89.setTop (mkF m 124 #[.val (.int x0), .val (.int x1), .val (.int x2), .val (.int x3), .val (.int x4), .val (.int x5), .unset, .unset, .unset, .unset, .unset, .unset, .unset, .unset, .unset] [(.ref b1)]))
  refine own_fs (XS.dup X89.here hx rfl (hb hby at_124) rfl rfl (Steps.refl _)) ?_
  show own_G p.tables e below _ (T89.setTop (mkF m 125 #[.val (.int x0), .val (.int x1), .val (.int x2), .val (.int x3), .val (.int x4), .val (.int x5), .unset, .unset, .unset, .unset, .unset, .unset, .unset, .unset, .unset] [(.ref b1), (.ref b1)]))
  refine own_fs (XS.bipush X89.here hx rfl (hb hby at_125) (Steps.refl _)) ?_
  show own_G p.tables e below _ (T89.setTop (mkF m 127 #[.val (.int x0), .val (.int x1), .val (.int x2), .val (.int x3), .val (.int x4), .val (.int x5), .unset, .unset, .unset, .unset, .unset, .unset, .unset, .unset, .unset] [(.int (21 : Int32)), (.ref b1), (.ref b1)]))
  refine own_fs (XS.bipush X89.here hx rfl (hb hby at_127) (Steps.refl _)) ?_
  show own_G p.tables e below _ (T89.setTop (mkF m 129 #[.val (.int x0), .val (.int x1), .val (.int x2), .val (.int x3), .val (.int x4), .val (.int x5), .unset, .unset, .unset, .unset, .unset, .unset, .unset, .unset, .unset] [(.int (97 : Int32)), (.int (21 : Int32)), (.ref b1), (.ref b1)]))
  obtain ⟨cl91, Ar91, q91, S91, O91, H91, G91⟩ := (id V89)
  obtain ⟨T92, h92, X92, e92, W92, st92⟩ := stB X89 hx hZ e89 Ar91 (j := (21 : Int32)) (inb_of S91 ⟨by decide, by decide⟩) (g := (mkF m 129 #[.val (.int x0), .val (.int x1), .val (.int x2), .val (.int x3), .val (.int x4), .val (.int x5), .unset, .unset, .unset, .unset, .unset, .unset, .unset, .unset, .unset] [(.int (97 : Int32)), (.int (21 : Int32)), (.ref b1), (.ref b1)])) rfl rfl (hb hby at_129)
  refine own_fs (st92 _ (Steps.refl _)) ?_
  have V92 : Arv Z h92 b1 k1 .byte (68 : Int32) (own_fill 22) (.int (0 : Int32)) := own_fillS 21 (by decide) ▸ Arv.set Ar91 q91 S91 O91 H91 G91 (v := .int (97 : Int32)) (by decide) W92 21 rfl (by rw [own_fill_len _ (by decide)]; decide)
  have N92 := Fr.snoc X92 N89 ge_b1
  have Zb93 : n0 ≤ h92.size := (Nat.le_trans Zb90 (Keep.of_wr W92).1)
  have Sb93_0 := (Sta.wr W92 Sb90_0)
  have Sb93_1 := (Arr.other W92 Sb90_1 ne_tb)
  show own_G p.tables e below _ (T92.setTop (mkF m 130 #[.val (.int x0), .val (.int x1), .val (.int x2), .val (.int x3), .val (.int x4), .val (.int x5), .unset, .unset, .unset, .unset, .unset, .unset, .unset, .unset, .unset] [(.ref b1)]))
  refine own_fs (XS.dup X92.here hx rfl (hb hby at_130) rfl rfl (Steps.refl _)) ?_
  show own_G p.tables e below _ (T92.setTop (mkF m 131 #[.val (.int x0), .val (.int x1), .val (.int x2), .val (.int x3), .val (.int x4), .val (.int x5), .unset, .unset, .unset, .unset, .unset, .unset, .unset, .unset, .unset] [(.ref b1), (.ref b1)]))
  refine own_fs (XS.bipush X92.here hx rfl (hb hby at_131) (Steps.refl _)) ?_
  show own_G p.tables e below _ (T92.setTop (mkF m 133 #[.val (.int x0), .val (.int x1), .val (.int x2), .val (.int x3), .val (.int x4), .val (.int x5), .unset, .unset, .unset, .unset, .unset, .unset, .unset, .unset, .unset] [(.int (22 : Int32)), (.ref b1), (.ref b1)]))
  refine own_fs (XS.bipush X92.here hx rfl (hb hby at_133) (Steps.refl _)) ?_
  show own_G p.tables e below _ (T92.setTop (mkF m 135 #[.val (.int x0), .val (.int x1), .val (.int x2), .val (.int x3), .val (.int x4), .val (.int x5), .unset, .unset, .unset, .unset, .unset, .unset, .unset, .unset, .unset] [(.int (97 : Int32)), (.int (22 : Int32)), (.ref b1), (.ref b1)]))
  obtain ⟨cl94, Ar94, q94, S94, O94, H94, G94⟩ := (id V92)
  obtain ⟨T95, h95, X95, e95, W95, st95⟩ := stB X92 hx hZ e92 Ar94 (j := (22 : Int32)) (inb_of S94 ⟨by decide, by decide⟩) (g := (mkF m 135 #[.val (.int x0), .val (.int x1), .val (.int x2), .val (.int x3), .val (.int x4), .val (.int x5), .unset, .unset, .unset, .unset, .unset, .unset, .unset, .unset, .unset] [(.int (97 : Int32)), (.int (22 : Int32)), (.ref b1), (.ref b1)])) rfl rfl (hb hby at_135)
  refine own_fs (st95 _ (Steps.refl _)) ?_
  have V95 : Arv Z h95 b1 k1 .byte (68 : Int32) (own_fill 23) (.int (0 : Int32)) := own_fillS 22 (by decide) ▸ Arv.set Ar94 q94 S94 O94 H94 G94 (v := .int (97 : Int32)) (by decide) W95 22 rfl (by rw [own_fill_len _ (by decide)]; decide)
  have N95 := Fr.snoc X95 N92 ge_b1
  have Zb96 : n0 ≤ h95.size := (Nat.le_trans Zb93 (Keep.of_wr W95).1)
  have Sb96_0 := (Sta.wr W95 Sb93_0)
  have Sb96_1 := (Arr.other W95 Sb93_1 ne_tb)
  show own_G p.tables e below _ (T95.setTop (mkF m 136 #[.val (.int x0), .val (.int x1), .val (.int x2), .val (.int x3), .val (.int x4), .val (.int x5), .unset, .unset, .unset, .unset, .unset, .unset, .unset, .unset, .unset] [(.ref b1)]))
  refine own_fs (XS.dup X95.here hx rfl (hb hby at_136) rfl rfl (Steps.refl _)) ?_
  show own_G p.tables e below _ (T95.setTop (mkF m 137 #[.val (.int x0), .val (.int x1), .val (.int x2), .val (.int x3), .val (.int x4), .val (.int x5), .unset, .unset, .unset, .unset, .unset, .unset, .unset, .unset, .unset] [(.ref b1), (.ref b1)]))
  refine own_fs (XS.bipush X95.here hx rfl (hb hby at_137) (Steps.refl _)) ?_
  show own_G p.tables e below _ (T95.setTop (mkF m 139 #[.val (.int x0), .val (.int x1), .val (.int x2), .val (.int x3), .val (.int x4), .val (.int x5), .unset, .unset, .unset, .unset, .unset, .unset, .unset, .unset, .unset] [(.int (23 : Int32)), (.ref b1), (.ref b1)]))
  refine own_fs (XS.bipush X95.here hx rfl (hb hby at_139) (Steps.refl _)) ?_
  show own_G p.tables e below _ (T95.setTop (mkF m 141 #[.val (.int x0), .val (.int x1), .val (.int x2), .val (.int x3), .val (.int x4), .val (.int x5), .unset, .unset, .unset, .unset, .unset, .unset, .unset, .unset, .unset] [(.int (97 : Int32)), (.int (23 : Int32)), (.ref b1), (.ref b1)]))
  obtain ⟨cl97, Ar97, q97, S97, O97, H97, G97⟩ := (id V95)
  obtain ⟨T98, h98, X98, e98, W98, st98⟩ := stB X95 hx hZ e95 Ar97 (j := (23 : Int32)) (inb_of S97 ⟨by decide, by decide⟩) (g := (mkF m 141 #[.val (.int x0), .val (.int x1), .val (.int x2), .val (.int x3), .val (.int x4), .val (.int x5), .unset, .unset, .unset, .unset, .unset, .unset, .unset, .unset, .unset] [(.int (97 : Int32)), (.int (23 : Int32)), (.ref b1), (.ref b1)])) rfl rfl (hb hby at_141)
  refine own_fs (st98 _ (Steps.refl _)) ?_
  have V98 : Arv Z h98 b1 k1 .byte (68 : Int32) (own_fill 24) (.int (0 : Int32)) := own_fillS 23 (by decide) ▸ Arv.set Ar97 q97 S97 O97 H97 G97 (v := .int (97 : Int32)) (by decide) W98 23 rfl (by rw [own_fill_len _ (by decide)]; decide)
  have N98 := Fr.snoc X98 N95 ge_b1
  have Zb99 : n0 ≤ h98.size := (Nat.le_trans Zb96 (Keep.of_wr W98).1)
  have Sb99_0 := (Sta.wr W98 Sb96_0)
  have Sb99_1 := (Arr.other W98 Sb96_1 ne_tb)
  show own_G p.tables e below _ (T98.setTop (mkF m 142 #[.val (.int x0), .val (.int x1), .val (.int x2), .val (.int x3), .val (.int x4), .val (.int x5), .unset, .unset, .unset, .unset, .unset, .unset, .unset, .unset, .unset] [(.ref b1)]))
  refine own_fs (XS.dup X98.here hx rfl (hb hby at_142) rfl rfl (Steps.refl _)) ?_
  show own_G p.tables e below _ (T98.setTop (mkF m 143 #[.val (.int x0), .val (.int x1), .val (.int x2), .val (.int x3), .val (.int x4), .val (.int x5), .unset, .unset, .unset, .unset, .unset, .unset, .unset, .unset, .unset] [(.ref b1), (.ref b1)]))
  refine own_fs (XS.bipush X98.here hx rfl (hb hby at_143) (Steps.refl _)) ?_
  show own_G p.tables e below _ (T98.setTop (mkF m 145 #[.val (.int x0), .val (.int x1), .val (.int x2), .val (.int x3), .val (.int x4), .val (.int x5), .unset, .unset, .unset, .unset, .unset, .unset, .unset, .unset, .unset] [(.int (24 : Int32)), (.ref b1), (.ref b1)]))
  refine own_fs (XS.bipush X98.here hx rfl (hb hby at_145) (Steps.refl _)) ?_
  show own_G p.tables e below _ (T98.setTop (mkF m 147 #[.val (.int x0), .val (.int x1), .val (.int x2), .val (.int x3), .val (.int x4), .val (.int x5), .unset, .unset, .unset, .unset, .unset, .unset, .unset, .unset, .unset] [(.int (97 : Int32)), (.int (24 : Int32)), (.ref b1), (.ref b1)]))
  obtain ⟨cl100, Ar100, q100, S100, O100, H100, G100⟩ := (id V98)
  obtain ⟨T101, h101, X101, e101, W101, st101⟩ := stB X98 hx hZ e98 Ar100 (j := (24 : Int32)) (inb_of S100 ⟨by decide, by decide⟩) (g := (mkF m 147 #[.val (.int x0), .val (.int x1), .val (.int x2), .val (.int x3), .val (.int x4), .val (.int x5), .unset, .unset, .unset, .unset, .unset, .unset, .unset, .unset, .unset] [(.int (97 : Int32)), (.int (24 : Int32)), (.ref b1), (.ref b1)])) rfl rfl (hb hby at_147)
  refine own_fs (st101 _ (Steps.refl _)) ?_
  have V101 : Arv Z h101 b1 k1 .byte (68 : Int32) (own_fill 25) (.int (0 : Int32)) := own_fillS 24 (by decide) ▸ Arv.set Ar100 q100 S100 O100 H100 G100 (v := .int (97 : Int32)) (by decide) W101 24 rfl (by rw [own_fill_len _ (by decide)]; decide)
  have N101 := Fr.snoc X101 N98 ge_b1
  have Zb102 : n0 ≤ h101.size := (Nat.le_trans Zb99 (Keep.of_wr W101).1)
  have Sb102_0 := (Sta.wr W101 Sb99_0)
  have Sb102_1 := (Arr.other W101 Sb99_1 ne_tb)
  show own_G p.tables e below _ (T101.setTop (mkF m 148 #[.val (.int x0), .val (.int x1), .val (.int x2), .val (.int x3), .val (.int x4), .val (.int x5), .unset, .unset, .unset, .unset, .unset, .unset, .unset, .unset, .unset] [(.ref b1)]))
  refine own_fs (XS.dup X101.here hx rfl (hb hby at_148) rfl rfl (Steps.refl _)) ?_
  show own_G p.tables e below _ (T101.setTop (mkF m 149 #[.val (.int x0), .val (.int x1), .val (.int x2), .val (.int x3), .val (.int x4), .val (.int x5), .unset, .unset, .unset, .unset, .unset, .unset, .unset, .unset, .unset] [(.ref b1), (.ref b1)]))
  refine own_fs (XS.bipush X101.here hx rfl (hb hby at_149) (Steps.refl _)) ?_
  show own_G p.tables e below _ (T101.setTop (mkF m 151 #[.val (.int x0), .val (.int x1), .val (.int x2), .val (.int x3), .val (.int x4), .val (.int x5), .unset, .unset, .unset, .unset, .unset, .unset, .unset, .unset, .unset] [(.int (25 : Int32)), (.ref b1), (.ref b1)]))
  refine own_fs (XS.bipush X101.here hx rfl (hb hby at_151) (Steps.refl _)) ?_
  show own_G p.tables e below _ (T101.setTop (mkF m 153 #[.val (.int x0), .val (.int x1), .val (.int x2), .val (.int x3), .val (.int x4), .val (.int x5), .unset, .unset, .unset, .unset, .unset, .unset, .unset, .unset, .unset] [(.int (97 : Int32)), (.int (25 : Int32)), (.ref b1), (.ref b1)]))
  obtain ⟨cl103, Ar103, q103, S103, O103, H103, G103⟩ := (id V101)
  obtain ⟨T104, h104, X104, e104, W104, st104⟩ := stB X101 hx hZ e101 Ar103 (j := (25 : Int32)) (inb_of S103 ⟨by decide, by decide⟩) (g := (mkF m 153 #[.val (.int x0), .val (.int x1), .val (.int x2), .val (.int x3), .val (.int x4), .val (.int x5), .unset, .unset, .unset, .unset, .unset, .unset, .unset, .unset, .unset] [(.int (97 : Int32)), (.int (25 : Int32)), (.ref b1), (.ref b1)])) rfl rfl (hb hby at_153)
  refine own_fs (st104 _ (Steps.refl _)) ?_
  have V104 : Arv Z h104 b1 k1 .byte (68 : Int32) (own_fill 26) (.int (0 : Int32)) := own_fillS 25 (by decide) ▸ Arv.set Ar103 q103 S103 O103 H103 G103 (v := .int (97 : Int32)) (by decide) W104 25 rfl (by rw [own_fill_len _ (by decide)]; decide)
  have N104 := Fr.snoc X104 N101 ge_b1
  have Zb105 : n0 ≤ h104.size := (Nat.le_trans Zb102 (Keep.of_wr W104).1)
  have Sb105_0 := (Sta.wr W104 Sb102_0)
  have Sb105_1 := (Arr.other W104 Sb102_1 ne_tb)
  show own_G p.tables e below _ (T104.setTop (mkF m 154 #[.val (.int x0), .val (.int x1), .val (.int x2), .val (.int x3), .val (.int x4), .val (.int x5), .unset, .unset, .unset, .unset, .unset, .unset, .unset, .unset, .unset] [(.ref b1)]))
  refine own_fs (XS.dup X104.here hx rfl (hb hby at_154) rfl rfl (Steps.refl _)) ?_
  show own_G p.tables e below _ (T104.setTop (mkF m 155 #[.val (.int x0), .val (.int x1), .val (.int x2), .val (.int x3), .val (.int x4), .val (.int x5), .unset, .unset, .unset, .unset, .unset, .unset, .unset, .unset, .unset] [(.ref b1), (.ref b1)]))
  refine own_fs (XS.bipush X104.here hx rfl (hb hby at_155) (Steps.refl _)) ?_
  show own_G p.tables e below _ (T104.setTop (mkF m 157 #[.val (.int x0), .val (.int x1), .val (.int x2), .val (.int x3), .val (.int x4), .val (.int x5), .unset, .unset, .unset, .unset, .unset, .unset, .unset, .unset, .unset] [(.int (26 : Int32)), (.ref b1), (.ref b1)]))
  refine own_fs (XS.bipush X104.here hx rfl (hb hby at_157) (Steps.refl _)) ?_
  show own_G p.tables e below _ (T104.setTop (mkF m 159 #[.val (.int x0), .val (.int x1), .val (.int x2), .val (.int x3), .val (.int x4), .val (.int x5), .unset, .unset, .unset, .unset, .unset, .unset, .unset, .unset, .unset] [(.int (97 : Int32)), (.int (26 : Int32)), (.ref b1), (.ref b1)]))
  obtain ⟨cl106, Ar106, q106, S106, O106, H106, G106⟩ := (id V104)
  obtain ⟨T107, h107, X107, e107, W107, st107⟩ := stB X104 hx hZ e104 Ar106 (j := (26 : Int32)) (inb_of S106 ⟨by decide, by decide⟩) (g := (mkF m 159 #[.val (.int x0), .val (.int x1), .val (.int x2), .val (.int x3), .val (.int x4), .val (.int x5), .unset, .unset, .unset, .unset, .unset, .unset, .unset, .unset, .unset] [(.int (97 : Int32)), (.int (26 : Int32)), (.ref b1), (.ref b1)])) rfl rfl (hb hby at_159)
  refine own_fs (st107 _ (Steps.refl _)) ?_
  have V107 : Arv Z h107 b1 k1 .byte (68 : Int32) (own_fill 27) (.int (0 : Int32)) := own_fillS 26 (by decide) ▸ Arv.set Ar106 q106 S106 O106 H106 G106 (v := .int (97 : Int32)) (by decide) W107 26 rfl (by rw [own_fill_len _ (by decide)]; decide)
  have N107 := Fr.snoc X107 N104 ge_b1
  have Zb108 : n0 ≤ h107.size := (Nat.le_trans Zb105 (Keep.of_wr W107).1)
  have Sb108_0 := (Sta.wr W107 Sb105_0)
  have Sb108_1 := (Arr.other W107 Sb105_1 ne_tb)
  show own_G p.tables e below _ (T107.setTop (mkF m 160 #[.val (.int x0), .val (.int x1), .val (.int x2), .val (.int x3), .val (.int x4), .val (.int x5), .unset, .unset, .unset, .unset, .unset, .unset, .unset, .unset, .unset] [(.ref b1)]))
  refine own_fs (XS.dup X107.here hx rfl (hb hby at_160) rfl rfl (Steps.refl _)) ?_
  show own_G p.tables e below _ (T107.setTop (mkF m 161 #[.val (.int x0), .val (.int x1), .val (.int x2), .val (.int x3), .val (.int x4), .val (.int x5), .unset, .unset, .unset, .unset, .unset, .unset, .unset, .unset, .unset] [(.ref b1), (.ref b1)]))
  refine own_fs (XS.bipush X107.here hx rfl (hb hby at_161) (Steps.refl _)) ?_
  show own_G p.tables e below _ (T107.setTop (mkF m 163 #[.val (.int x0), .val (.int x1), .val (.int x2), .val (.int x3), .val (.int x4), .val (.int x5), .unset, .unset, .unset, .unset, .unset, .unset, .unset, .unset, .unset] [(.int (27 : Int32)), (.ref b1), (.ref b1)]))
  refine own_fs (XS.bipush X107.here hx rfl (hb hby at_163) (Steps.refl _)) ?_
  show own_G p.tables e below _ (T107.setTop (mkF m 165 #[.val (.int x0), .val (.int x1), .val (.int x2), .val (.int x3), .val (.int x4), .val (.int x5), .unset, .unset, .unset, .unset, .unset, .unset, .unset, .unset, .unset] [(.int (97 : Int32)), (.int (27 : Int32)), (.ref b1), (.ref b1)]))
  obtain ⟨cl109, Ar109, q109, S109, O109, H109, G109⟩ := (id V107)
  obtain ⟨T110, h110, X110, e110, W110, st110⟩ := stB X107 hx hZ e107 Ar109 (j := (27 : Int32)) (inb_of S109 ⟨by decide, by decide⟩) (g := (mkF m 165 #[.val (.int x0), .val (.int x1), .val (.int x2), .val (.int x3), .val (.int x4), .val (.int x5), .unset, .unset, .unset, .unset, .unset, .unset, .unset, .unset, .unset] [(.int (97 : Int32)), (.int (27 : Int32)), (.ref b1), (.ref b1)])) rfl rfl (hb hby at_165)
  refine own_fs (st110 _ (Steps.refl _)) ?_
  have V110 : Arv Z h110 b1 k1 .byte (68 : Int32) (own_fill 28) (.int (0 : Int32)) := own_fillS 27 (by decide) ▸ Arv.set Ar109 q109 S109 O109 H109 G109 (v := .int (97 : Int32)) (by decide) W110 27 rfl (by rw [own_fill_len _ (by decide)]; decide)
  have N110 := Fr.snoc X110 N107 ge_b1
  have Zb111 : n0 ≤ h110.size := (Nat.le_trans Zb108 (Keep.of_wr W110).1)
  have Sb111_0 := (Sta.wr W110 Sb108_0)
  have Sb111_1 := (Arr.other W110 Sb108_1 ne_tb)
  show own_G p.tables e below _ (T110.setTop (mkF m 166 #[.val (.int x0), .val (.int x1), .val (.int x2), .val (.int x3), .val (.int x4), .val (.int x5), .unset, .unset, .unset, .unset, .unset, .unset, .unset, .unset, .unset] [(.ref b1)]))
  refine own_fs (XS.dup X110.here hx rfl (hb hby at_166) rfl rfl (Steps.refl _)) ?_
  show own_G p.tables e below _ (T110.setTop (mkF m 167 #[.val (.int x0), .val (.int x1), .val (.int x2), .val (.int x3), .val (.int x4), .val (.int x5), .unset, .unset, .unset, .unset, .unset, .unset, .unset, .unset, .unset] [(.ref b1), (.ref b1)]))
  refine own_fs (XS.bipush X110.here hx rfl (hb hby at_167) (Steps.refl _)) ?_
  show own_G p.tables e below _ (T110.setTop (mkF m 169 #[.val (.int x0), .val (.int x1), .val (.int x2), .val (.int x3), .val (.int x4), .val (.int x5), .unset, .unset, .unset, .unset, .unset, .unset, .unset, .unset, .unset] [(.int (28 : Int32)), (.ref b1), (.ref b1)]))
  refine own_fs (XS.bipush X110.here hx rfl (hb hby at_169) (Steps.refl _)) ?_
  show own_G p.tables e below _ (T110.setTop (mkF m 171 #[.val (.int x0), .val (.int x1), .val (.int x2), .val (.int x3), .val (.int x4), .val (.int x5), .unset, .unset, .unset, .unset, .unset, .unset, .unset, .unset, .unset] [(.int (97 : Int32)), (.int (28 : Int32)), (.ref b1), (.ref b1)]))
  obtain ⟨cl112, Ar112, q112, S112, O112, H112, G112⟩ := (id V110)
  obtain ⟨T113, h113, X113, e113, W113, st113⟩ := stB X110 hx hZ e110 Ar112 (j := (28 : Int32)) (inb_of S112 ⟨by decide, by decide⟩) (g := (mkF m 171 #[.val (.int x0), .val (.int x1), .val (.int x2), .val (.int x3), .val (.int x4), .val (.int x5), .unset, .unset, .unset, .unset, .unset, .unset, .unset, .unset, .unset] [(.int (97 : Int32)), (.int (28 : Int32)), (.ref b1), (.ref b1)])) rfl rfl (hb hby at_171)
  refine own_fs (st113 _ (Steps.refl _)) ?_
  have V113 : Arv Z h113 b1 k1 .byte (68 : Int32) (own_fill 29) (.int (0 : Int32)) := own_fillS 28 (by decide) ▸ Arv.set Ar112 q112 S112 O112 H112 G112 (v := .int (97 : Int32)) (by decide) W113 28 rfl (by rw [own_fill_len _ (by decide)]; decide)
  have N113 := Fr.snoc X113 N110 ge_b1
  have Zb114 : n0 ≤ h113.size := (Nat.le_trans Zb111 (Keep.of_wr W113).1)
  have Sb114_0 := (Sta.wr W113 Sb111_0)
  have Sb114_1 := (Arr.other W113 Sb111_1 ne_tb)
  show own_G p.tables e below _ (T113.setTop (mkF m 172 #[.val (.int x0), .val (.int x1), .val (.int x2), .val (.int x3), .val (.int x4), .val (.int x5), .unset, .unset, .unset, .unset, .unset, .unset, .unset, .unset, .unset] [(.ref b1)]))
  refine own_fs (XS.dup X113.here hx rfl (hb hby at_172) rfl rfl (Steps.refl _)) ?_
  show own_G p.tables e below _ (T113.setTop (mkF m 173 #[.val (.int x0), .val (.int x1), .val (.int x2), .val (.int x3), .val (.int x4), .val (.int x5), .unset, .unset, .unset, .unset, .unset, .unset, .unset, .unset, .unset] [(.ref b1), (.ref b1)]))
  refine own_fs (XS.bipush X113.here hx rfl (hb hby at_173) (Steps.refl _)) ?_
  show own_G p.tables e below _ (T113.setTop (mkF m 175 #[.val (.int x0), .val (.int x1), .val (.int x2), .val (.int x3), .val (.int x4), .val (.int x5), .unset, .unset, .unset, .unset, .unset, .unset, .unset, .unset, .unset] [(.int (29 : Int32)), (.ref b1), (.ref b1)]))
  refine own_fs (XS.bipush X113.here hx rfl (hb hby at_175) (Steps.refl _)) ?_
  show own_G p.tables e below _ (T113.setTop (mkF m 177 #[.val (.int x0), .val (.int x1), .val (.int x2), .val (.int x3), .val (.int x4), .val (.int x5), .unset, .unset, .unset, .unset, .unset, .unset, .unset, .unset, .unset] [(.int (97 : Int32)), (.int (29 : Int32)), (.ref b1), (.ref b1)]))
  obtain ⟨cl115, Ar115, q115, S115, O115, H115, G115⟩ := (id V113)
  obtain ⟨T116, h116, X116, e116, W116, st116⟩ := stB X113 hx hZ e113 Ar115 (j := (29 : Int32)) (inb_of S115 ⟨by decide, by decide⟩) (g := (mkF m 177 #[.val (.int x0), .val (.int x1), .val (.int x2), .val (.int x3), .val (.int x4), .val (.int x5), .unset, .unset, .unset, .unset, .unset, .unset, .unset, .unset, .unset] [(.int (97 : Int32)), (.int (29 : Int32)), (.ref b1), (.ref b1)])) rfl rfl (hb hby at_177)
  refine own_fs (st116 _ (Steps.refl _)) ?_
  have V116 : Arv Z h116 b1 k1 .byte (68 : Int32) (own_fill 30) (.int (0 : Int32)) := own_fillS 29 (by decide) ▸ Arv.set Ar115 q115 S115 O115 H115 G115 (v := .int (97 : Int32)) (by decide) W116 29 rfl (by rw [own_fill_len _ (by decide)]; decide)
  have N116 := Fr.snoc X116 N113 ge_b1
  have Zb117 : n0 ≤ h116.size := (Nat.le_trans Zb114 (Keep.of_wr W116).1)
  have Sb117_0 := (Sta.wr W116 Sb114_0)
  have Sb117_1 := (Arr.other W116 Sb114_1 ne_tb)
  show own_G p.tables e below _ (T116.setTop (mkF m 178 #[.val (.int x0), .val (.int x1), .val (.int x2), .val (.int x3), .val (.int x4), .val (.int x5), .unset, .unset, .unset, .unset, .unset, .unset, .unset, .unset, .unset] [(.ref b1)]))
  refine own_fs (XS.dup X116.here hx rfl (hb hby at_178) rfl rfl (Steps.refl _)) ?_
  show own_G p.tables e below _ (T116.setTop (mkF m 179 #[.val (.int x0), .val (.int x1), .val (.int x2), .val (.int x3), .val (.int x4), .val (.int x5), .unset, .unset, .unset, .unset, .unset, .unset, .unset, .unset, .unset] [(.ref b1), (.ref b1)]))
  refine own_fs (XS.bipush X116.here hx rfl (hb hby at_179) (Steps.refl _)) ?_
  show own_G p.tables e below _ (T116.setTop (mkF m 181 #[.val (.int x0), .val (.int x1), .val (.int x2), .val (.int x3), .val (.int x4), .val (.int x5), .unset, .unset, .unset, .unset, .unset, .unset, .unset, .unset, .unset] [(.int (30 : Int32)), (.ref b1), (.ref b1)]))
  refine own_fs (XS.bipush X116.here hx rfl (hb hby at_181) (Steps.refl _)) ?_
  show own_G p.tables e below _ (T116.setTop (mkF m 183 #[.val (.int x0), .val (.int x1), .val (.int x2), .val (.int x3), .val (.int x4), .val (.int x5), .unset, .unset, .unset, .unset, .unset, .unset, .unset, .unset, .unset] [(.int (97 : Int32)), (.int (30 : Int32)), (.ref b1), (.ref b1)]))
  obtain ⟨cl118, Ar118, q118, S118, O118, H118, G118⟩ := (id V116)
  obtain ⟨T119, h119, X119, e119, W119, st119⟩ := stB X116 hx hZ e116 Ar118 (j := (30 : Int32)) (inb_of S118 ⟨by decide, by decide⟩) (g := (mkF m 183 #[.val (.int x0), .val (.int x1), .val (.int x2), .val (.int x3), .val (.int x4), .val (.int x5), .unset, .unset, .unset, .unset, .unset, .unset, .unset, .unset, .unset] [(.int (97 : Int32)), (.int (30 : Int32)), (.ref b1), (.ref b1)])) rfl rfl (hb hby at_183)
  refine own_fs (st119 _ (Steps.refl _)) ?_
  have V119 : Arv Z h119 b1 k1 .byte (68 : Int32) (own_fill 31) (.int (0 : Int32)) := own_fillS 30 (by decide) ▸ Arv.set Ar118 q118 S118 O118 H118 G118 (v := .int (97 : Int32)) (by decide) W119 30 rfl (by rw [own_fill_len _ (by decide)]; decide)
  have N119 := Fr.snoc X119 N116 ge_b1
  have Zb120 : n0 ≤ h119.size := (Nat.le_trans Zb117 (Keep.of_wr W119).1)
  have Sb120_0 := (Sta.wr W119 Sb117_0)
  have Sb120_1 := (Arr.other W119 Sb117_1 ne_tb)
  show own_G p.tables e below _ (T119.setTop (mkF m 184 #[.val (.int x0), .val (.int x1), .val (.int x2), .val (.int x3), .val (.int x4), .val (.int x5), .unset, .unset, .unset, .unset, .unset, .unset, .unset, .unset, .unset] [(.ref b1)]))
  refine own_fs (XS.dup X119.here hx rfl (hb hby at_184) rfl rfl (Steps.refl _)) ?_
  show own_G p.tables e below _ (T119.setTop (mkF m 185 #[.val (.int x0), .val (.int x1), .val (.int x2), .val (.int x3), .val (.int x4), .val (.int x5), .unset, .unset, .unset, .unset, .unset, .unset, .unset, .unset, .unset] [(.ref b1), (.ref b1)]))
  refine own_fs (XS.bipush X119.here hx rfl (hb hby at_185) (Steps.refl _)) ?_
  show own_G p.tables e below _ (T119.setTop (mkF m 187 #[.val (.int x0), .val (.int x1), .val (.int x2), .val (.int x3), .val (.int x4), .val (.int x5), .unset, .unset, .unset, .unset, .unset, .unset, .unset, .unset, .unset] [(.int (31 : Int32)), (.ref b1), (.ref b1)]))
  refine own_fs (XS.bipush X119.here hx rfl (hb hby at_187) (Steps.refl _)) ?_
  show own_G p.tables e below _ (T119.setTop (mkF m 189 #[.val (.int x0), .val (.int x1), .val (.int x2), .val (.int x3), .val (.int x4), .val (.int x5), .unset, .unset, .unset, .unset, .unset, .unset, .unset, .unset, .unset] [(.int (97 : Int32)), (.int (31 : Int32)), (.ref b1), (.ref b1)]))
  obtain ⟨cl121, Ar121, q121, S121, O121, H121, G121⟩ := (id V119)
  obtain ⟨T122, h122, X122, e122, W122, st122⟩ := stB X119 hx hZ e119 Ar121 (j := (31 : Int32)) (inb_of S121 ⟨by decide, by decide⟩) (g := (mkF m 189 #[.val (.int x0), .val (.int x1), .val (.int x2), .val (.int x3), .val (.int x4), .val (.int x5), .unset, .unset, .unset, .unset, .unset, .unset, .unset, .unset, .unset] [(.int (97 : Int32)), (.int (31 : Int32)), (.ref b1), (.ref b1)])) rfl rfl (hb hby at_189)
  refine own_fs (st122 _ (Steps.refl _)) ?_
  have V122 : Arv Z h122 b1 k1 .byte (68 : Int32) (own_fill 32) (.int (0 : Int32)) := own_fillS 31 (by decide) ▸ Arv.set Ar121 q121 S121 O121 H121 G121 (v := .int (97 : Int32)) (by decide) W122 31 rfl (by rw [own_fill_len _ (by decide)]; decide)
  have N122 := Fr.snoc X122 N119 ge_b1
  have Zb123 : n0 ≤ h122.size := (Nat.le_trans Zb120 (Keep.of_wr W122).1)
  have Sb123_0 := (Sta.wr W122 Sb120_0)
  have Sb123_1 := (Arr.other W122 Sb120_1 ne_tb)
  show own_G p.tables e below _ (T122.setTop (mkF m 190 #[.val (.int x0), .val (.int x1), .val (.int x2), .val (.int x3), .val (.int x4), .val (.int x5), .unset, .unset, .unset, .unset, .unset, .unset, .unset, .unset, .unset] [(.ref b1)]))
  refine own_fs (XS.dup X122.here hx rfl (hb hby at_190) rfl rfl (Steps.refl _)) ?_
  show own_G p.tables e below _ (T122.setTop (mkF m 191 #[.val (.int x0), .val (.int x1), .val (.int x2), .val (.int x3), .val (.int x4), .val (.int x5), .unset, .unset, .unset, .unset, .unset, .unset, .unset, .unset, .unset] [(.ref b1), (.ref b1)]))
  refine own_fs (XS.bipush X122.here hx rfl (hb hby at_191) (Steps.refl _)) ?_
  show own_G p.tables e below _ (T122.setTop (mkF m 193 #[.val (.int x0), .val (.int x1), .val (.int x2), .val (.int x3), .val (.int x4), .val (.int x5), .unset, .unset, .unset, .unset, .unset, .unset, .unset, .unset, .unset] [(.int (32 : Int32)), (.ref b1), (.ref b1)]))
  refine own_fs (XS.bipush X122.here hx rfl (hb hby at_193) (Steps.refl _)) ?_
  show own_G p.tables e below _ (T122.setTop (mkF m 195 #[.val (.int x0), .val (.int x1), .val (.int x2), .val (.int x3), .val (.int x4), .val (.int x5), .unset, .unset, .unset, .unset, .unset, .unset, .unset, .unset, .unset] [(.int (97 : Int32)), (.int (32 : Int32)), (.ref b1), (.ref b1)]))
  obtain ⟨cl124, Ar124, q124, S124, O124, H124, G124⟩ := (id V122)
  obtain ⟨T125, h125, X125, e125, W125, st125⟩ := stB X122 hx hZ e122 Ar124 (j := (32 : Int32)) (inb_of S124 ⟨by decide, by decide⟩) (g := (mkF m 195 #[.val (.int x0), .val (.int x1), .val (.int x2), .val (.int x3), .val (.int x4), .val (.int x5), .unset, .unset, .unset, .unset, .unset, .unset, .unset, .unset, .unset] [(.int (97 : Int32)), (.int (32 : Int32)), (.ref b1), (.ref b1)])) rfl rfl (hb hby at_195)
  refine own_fs (st125 _ (Steps.refl _)) ?_
  have V125 : Arv Z h125 b1 k1 .byte (68 : Int32) (own_fill 33) (.int (0 : Int32)) := own_fillS 32 (by decide) ▸ Arv.set Ar124 q124 S124 O124 H124 G124 (v := .int (97 : Int32)) (by decide) W125 32 rfl (by rw [own_fill_len _ (by decide)]; decide)
  have N125 := Fr.snoc X125 N122 ge_b1
  have Zb126 : n0 ≤ h125.size := (Nat.le_trans Zb123 (Keep.of_wr W125).1)
  have Sb126_0 := (Sta.wr W125 Sb123_0)
  have Sb126_1 := (Arr.other W125 Sb123_1 ne_tb)
  show own_G p.tables e below _ (T125.setTop (mkF m 196 #[.val (.int x0), .val (.int x1), .val (.int x2), .val (.int x3), .val (.int x4), .val (.int x5), .unset, .unset, .unset, .unset, .unset, .unset, .unset, .unset, .unset] [(.ref b1)]))
  refine own_fs (XS.dup X125.here hx rfl (hb hby at_196) rfl rfl (Steps.refl _)) ?_
  show own_G p.tables e below _ (T125.setTop (mkF m 197 #[.val (.int x0), .val (.int x1), .val (.int x2), .val (.int x3), .val (.int x4), .val (.int x5), .unset, .unset, .unset, .unset, .unset, .unset, .unset, .unset, .unset] [(.ref b1), (.ref b1)]))
  refine own_fs (XS.bipush X125.here hx rfl (hb hby at_197) (Steps.refl _)) ?_
  show own_G p.tables e below _ (T125.setTop (mkF m 199 #[.val (.int x0), .val (.int x1), .val (.int x2), .val (.int x3), .val (.int x4), .val (.int x5), .unset, .unset, .unset, .unset, .unset, .unset, .unset, .unset, .unset] [(.int (33 : Int32)), (.ref b1), (.ref b1)]))
  refine own_fs (XS.bipush X125.here hx rfl (hb hby at_199) (Steps.refl _)) ?_
  show own_G p.tables e below _ (T125.setTop (mkF m 201 #[.val (.int x0), .val (.int x1), .val (.int x2), .val (.int x3), .val (.int x4), .val (.int x5), .unset, .unset, .unset, .unset, .unset, .unset, .unset, .unset, .unset] [(.int (97 : Int32)), (.int (33 : Int32)), (.ref b1), (.ref b1)]))
  obtain ⟨cl127, Ar127, q127, S127, O127, H127, G127⟩ := (id V125)
  obtain ⟨T128, h128, X128, e128, W128, st128⟩ := stB X125 hx hZ e125 Ar127 (j := (33 : Int32)) (inb_of S127 ⟨by decide, by decide⟩) (g := (mkF m 201 #[.val (.int x0), .val (.int x1), .val (.int x2), .val (.int x3), .val (.int x4), .val (.int x5), .unset, .unset, .unset, .unset, .unset, .unset, .unset, .unset, .unset] [(.int (97 : Int32)), (.int (33 : Int32)), (.ref b1), (.ref b1)])) rfl rfl (hb hby at_201)
  refine own_fs (st128 _ (Steps.refl _)) ?_
  have V128 : Arv Z h128 b1 k1 .byte (68 : Int32) (own_fill 34) (.int (0 : Int32)) := own_fillS 33 (by decide) ▸ Arv.set Ar127 q127 S127 O127 H127 G127 (v := .int (97 : Int32)) (by decide) W128 33 rfl (by rw [own_fill_len _ (by decide)]; decide)
  have N128 := Fr.snoc X128 N125 ge_b1
  have Zb129 : n0 ≤ h128.size := (Nat.le_trans Zb126 (Keep.of_wr W128).1)
  have Sb129_0 := (Sta.wr W128 Sb126_0)
  have Sb129_1 := (Arr.other W128 Sb126_1 ne_tb)
  show own_G p.tables e below _ (T128.setTop (mkF m 202 #[.val (.int x0), .val (.int x1), .val (.int x2), .val (.int x3), .val (.int x4), .val (.int x5), .unset, .unset, .unset, .unset, .unset, .unset, .unset, .unset, .unset] [(.ref b1)]))
  refine own_fs (XS.dup X128.here hx rfl (hb hby at_202) rfl rfl (Steps.refl _)) ?_
  show own_G p.tables e below _ (T128.setTop (mkF m 203 #[.val (.int x0), .val (.int x1), .val (.int x2), .val (.int x3), .val (.int x4), .val (.int x5), .unset, .unset, .unset, .unset, .unset, .unset, .unset, .unset, .unset] [(.ref b1), (.ref b1)]))
  refine own_fs (XS.bipush X128.here hx rfl (hb hby at_203) (Steps.refl _)) ?_
  show own_G p.tables e below _ (T128.setTop (mkF m 205 #[.val (.int x0), .val (.int x1), .val (.int x2), .val (.int x3), .val (.int x4), .val (.int x5), .unset, .unset, .unset, .unset, .unset, .unset, .unset, .unset, .unset] [(.int (34 : Int32)), (.ref b1), (.ref b1)]))
  refine own_fs (XS.bipush X128.here hx rfl (hb hby at_205) (Steps.refl _)) ?_
  show own_G p.tables e below _ (T128.setTop (mkF m 207 #[.val (.int x0), .val (.int x1), .val (.int x2), .val (.int x3), .val (.int x4), .val (.int x5), .unset, .unset, .unset, .unset, .unset, .unset, .unset, .unset, .unset] [(.int (97 : Int32)), (.int (34 : Int32)), (.ref b1), (.ref b1)]))
  obtain ⟨cl130, Ar130, q130, S130, O130, H130, G130⟩ := (id V128)
  obtain ⟨T131, h131, X131, e131, W131, st131⟩ := stB X128 hx hZ e128 Ar130 (j := (34 : Int32)) (inb_of S130 ⟨by decide, by decide⟩) (g := (mkF m 207 #[.val (.int x0), .val (.int x1), .val (.int x2), .val (.int x3), .val (.int x4), .val (.int x5), .unset, .unset, .unset, .unset, .unset, .unset, .unset, .unset, .unset] [(.int (97 : Int32)), (.int (34 : Int32)), (.ref b1), (.ref b1)])) rfl rfl (hb hby at_207)
  refine own_fs (st131 _ (Steps.refl _)) ?_
  have V131 : Arv Z h131 b1 k1 .byte (68 : Int32) (own_fill 35) (.int (0 : Int32)) := own_fillS 34 (by decide) ▸ Arv.set Ar130 q130 S130 O130 H130 G130 (v := .int (97 : Int32)) (by decide) W131 34 rfl (by rw [own_fill_len _ (by decide)]; decide)
  have N131 := Fr.snoc X131 N128 ge_b1
  have Zb132 : n0 ≤ h131.size := (Nat.le_trans Zb129 (Keep.of_wr W131).1)
  have Sb132_0 := (Sta.wr W131 Sb129_0)
  have Sb132_1 := (Arr.other W131 Sb129_1 ne_tb)
  show own_G p.tables e below _ (T131.setTop (mkF m 208 #[.val (.int x0), .val (.int x1), .val (.int x2), .val (.int x3), .val (.int x4), .val (.int x5), .unset, .unset, .unset, .unset, .unset, .unset, .unset, .unset, .unset] [(.ref b1)]))
  refine own_fs (XS.dup X131.here hx rfl (hb hby at_208) rfl rfl (Steps.refl _)) ?_
  show own_G p.tables e below _ (T131.setTop (mkF m 209 #[.val (.int x0), .val (.int x1), .val (.int x2), .val (.int x3), .val (.int x4), .val (.int x5), .unset, .unset, .unset, .unset, .unset, .unset, .unset, .unset, .unset] [(.ref b1), (.ref b1)]))
  refine own_fs (XS.bipush X131.here hx rfl (hb hby at_209) (Steps.refl _)) ?_
  show own_G p.tables e below _ (T131.setTop (mkF m 211 #[.val (.int x0), .val (.int x1), .val (.int x2), .val (.int x3), .val (.int x4), .val (.int x5), .unset, .unset, .unset, .unset, .unset, .unset, .unset, .unset, .unset] [(.int (35 : Int32)), (.ref b1), (.ref b1)]))
  refine own_fs (XS.bipush X131.here hx rfl (hb hby at_211) (Steps.refl _)) ?_
  show own_G p.tables e below _ (T131.setTop (mkF m 213 #[.val (.int x0), .val (.int x1), .val (.int x2), .val (.int x3), .val (.int x4), .val (.int x5), .unset, .unset, .unset, .unset, .unset, .unset, .unset, .unset, .unset] [(.int (97 : Int32)), (.int (35 : Int32)), (.ref b1), (.ref b1)]))
  obtain ⟨cl133, Ar133, q133, S133, O133, H133, G133⟩ := (id V131)
  obtain ⟨T134, h134, X134, e134, W134, st134⟩ := stB X131 hx hZ e131 Ar133 (j := (35 : Int32)) (inb_of S133 ⟨by decide, by decide⟩) (g := (mkF m 213 #[.val (.int x0), .val (.int x1), .val (.int x2), .val (.int x3), .val (.int x4), .val (.int x5), .unset, .unset, .unset, .unset, .unset, .unset, .unset, .unset, .unset] [(.int (97 : Int32)), (.int (35 : Int32)), (.ref b1), (.ref b1)])) rfl rfl (hb hby at_213)
  refine own_fs (st134 _ (Steps.refl _)) ?_
  have V134 : Arv Z h134 b1 k1 .byte (68 : Int32) (own_fill 36) (.int (0 : Int32)) := own_fillS 35 (by decide) ▸ Arv.set Ar133 q133 S133 O133 H133 G133 (v := .int (97 : Int32)) (by decide) W134 35 rfl (by rw [own_fill_len _ (by decide)]; decide)
  have N134 := Fr.snoc X134 N131 ge_b1
  have Zb135 : n0 ≤ h134.size := (Nat.le_trans Zb132 (Keep.of_wr W134).1)
  have Sb135_0 := (Sta.wr W134 Sb132_0)
  have Sb135_1 := (Arr.other W134 Sb132_1 ne_tb)
  show own_G p.tables e below _ (T134.setTop (mkF m 214 #[.val (.int x0), .val (.int x1), .val (.int x2), .val (.int x3), .val (.int x4), .val (.int x5), .unset, .unset, .unset, .unset, .unset, .unset, .unset, .unset, .unset] [(.ref b1)]))
  refine own_fs (XS.dup X134.here hx rfl (hb hby at_214) rfl rfl (Steps.refl _)) ?_
  show own_G p.tables e below _ (T134.setTop (mkF m 215 #[.val (.int x0), .val (.int x1), .val (.int x2), .val (.int x3), .val (.int x4), .val (.int x5), .unset, .unset, .unset, .unset, .unset, .unset, .unset, .unset, .unset] [(.ref b1), (.ref b1)]))
  refine own_fs (XS.bipush X134.here hx rfl (hb hby at_215) (Steps.refl _)) ?_
  show own_G p.tables e below _ (T134.setTop (mkF m 217 #[.val (.int x0), .val (.int x1), .val (.int x2), .val (.int x3), .val (.int x4), .val (.int x5), .unset, .unset, .unset, .unset, .unset, .unset, .unset, .unset, .unset] [(.int (36 : Int32)), (.ref b1), (.ref b1)]))
  refine own_fs (XS.bipush X134.here hx rfl (hb hby at_217) (Steps.refl _)) ?_
  show own_G p.tables e below _ (T134.setTop (mkF m 219 #[.val (.int x0), .val (.int x1), .val (.int x2), .val (.int x3), .val (.int x4), .val (.int x5), .unset, .unset, .unset, .unset, .unset, .unset, .unset, .unset, .unset] [(.int (97 : Int32)), (.int (36 : Int32)), (.ref b1), (.ref b1)]))
  obtain ⟨cl136, Ar136, q136, S136, O136, H136, G136⟩ := (id V134)
  obtain ⟨T137, h137, X137, e137, W137, st137⟩ := stB X134 hx hZ e134 Ar136 (j := (36 : Int32)) (inb_of S136 ⟨by decide, by decide⟩) (g := (mkF m 219 #[.val (.int x0), .val (.int x1), .val (.int x2), .val (.int x3), .val (.int x4), .val (.int x5), .unset, .unset, .unset, .unset, .unset, .unset, .unset, .unset, .unset] [(.int (97 : Int32)), (.int (36 : Int32)), (.ref b1), (.ref b1)])) rfl rfl (hb hby at_219)
  refine own_fs (st137 _ (Steps.refl _)) ?_
  have V137 : Arv Z h137 b1 k1 .byte (68 : Int32) (own_fill 37) (.int (0 : Int32)) := own_fillS 36 (by decide) ▸ Arv.set Ar136 q136 S136 O136 H136 G136 (v := .int (97 : Int32)) (by decide) W137 36 rfl (by rw [own_fill_len _ (by decide)]; decide)
  have N137 := Fr.snoc X137 N134 ge_b1
  have Zb138 : n0 ≤ h137.size := (Nat.le_trans Zb135 (Keep.of_wr W137).1)
  have Sb138_0 := (Sta.wr W137 Sb135_0)
  have Sb138_1 := (Arr.other W137 Sb135_1 ne_tb)
  show own_G p.tables e below _ (T137.setTop (mkF m 220 #[.val (.int x0), .val (.int x1), .val (.int x2), .val (.int x3), .val (.int x4), .val (.int x5), .unset, .unset, .unset, .unset, .unset, .unset, .unset, .unset, .unset] [(.ref b1)]))
  refine own_fs (XS.dup X137.here hx rfl (hb hby at_220) rfl rfl (Steps.refl _)) ?_
  show own_G p.tables e below _ (T137.setTop (mkF m 221 #[.val (.int x0), .val (.int x1), .val (.int x2), .val (.int x3), .val (.int x4), .val (.int x5), .unset, .unset, .unset, .unset, .unset, .unset, .unset, .unset, .unset] [(.ref b1), (.ref b1)]))
  refine own_fs (XS.bipush X137.here hx rfl (hb hby at_221) (Steps.refl _)) ?_
  show own_G p.tables e below _ (T137.setTop (mkF m 223 #[.val (.int x0), .val (.int x1), .val (.int x2), .val (.int x3), .val (.int x4), .val (.int x5), .unset, .unset, .unset, .unset, .unset, .unset, .unset, .unset, .unset] [(.int (37 : Int32)), (.ref b1), (.ref b1)]))
  refine own_fs (XS.bipush X137.here hx rfl (hb hby at_223) (Steps.refl _)) ?_
  show own_G p.tables e below _ (T137.setTop (mkF m 225 #[.val (.int x0), .val (.int x1), .val (.int x2), .val (.int x3), .val (.int x4), .val (.int x5), .unset, .unset, .unset, .unset, .unset, .unset, .unset, .unset, .unset] [(.int (97 : Int32)), (.int (37 : Int32)), (.ref b1), (.ref b1)]))
  obtain ⟨cl139, Ar139, q139, S139, O139, H139, G139⟩ := (id V137)
  obtain ⟨T140, h140, X140, e140, W140, st140⟩ := stB X137 hx hZ e137 Ar139 (j := (37 : Int32)) (inb_of S139 ⟨by decide, by decide⟩) (g := (mkF m 225 #[.val (.int x0), .val (.int x1), .val (.int x2), .val (.int x3), .val (.int x4), .val (.int x5), .unset, .unset, .unset, .unset, .unset, .unset, .unset, .unset, .unset] [(.int (97 : Int32)), (.int (37 : Int32)), (.ref b1), (.ref b1)])) rfl rfl (hb hby at_225)
  refine own_fs (st140 _ (Steps.refl _)) ?_
  have V140 : Arv Z h140 b1 k1 .byte (68 : Int32) (own_fill 38) (.int (0 : Int32)) := own_fillS 37 (by decide) ▸ Arv.set Ar139 q139 S139 O139 H139 G139 (v := .int (97 : Int32)) (by decide) W140 37 rfl (by rw [own_fill_len _ (by decide)]; decide)
  have N140 := Fr.snoc X140 N137 ge_b1
  have Zb141 : n0 ≤ h140.size := (Nat.le_trans Zb138 (Keep.of_wr W140).1)
  have Sb141_0 := (Sta.wr W140 Sb138_0)
  have Sb141_1 := (Arr.other W140 Sb138_1 ne_tb)
  show own_G p.tables e below _ (T140.setTop (mkF m 226 #[.val (.int x0), .val (.int x1), .val (.int x2), .val (.int x3), .val (.int x4), .val (.int x5), .unset, .unset, .unset, .unset, .unset, .unset, .unset, .unset, .unset] [(.ref b1)]))
  refine own_fs (XS.dup X140.here hx rfl (hb hby at_226) rfl rfl (Steps.refl _)) ?_
  show own_G p.tables e below _ (T140.setTop (mkF m 227 #[.val (.int x0), .val (.int x1), .val (.int x2), .val (.int x3), .val (.int x4), .val (.int x5), .unset, .unset, .unset, .unset, .unset, .unset, .unset, .unset, .unset] [(.ref b1), (.ref b1)]))
  refine own_fs (XS.bipush X140.here hx rfl (hb hby at_227) (Steps.refl _)) ?_
  show own_G p.tables e below _ (T140.setTop (mkF m 229 #[.val (.int x0), .val (.int x1), .val (.int x2), .val (.int x3), .val (.int x4), .val (.int x5), .unset, .unset, .unset, .unset, .unset, .unset, .unset, .unset, .unset] [(.int (38 : Int32)), (.ref b1), (.ref b1)]))
  refine own_fs (XS.bipush X140.here hx rfl (hb hby at_229) (Steps.refl _)) ?_
  show own_G p.tables e below _ (T140.setTop (mkF m 231 #[.val (.int x0), .val (.int x1), .val (.int x2), .val (.int x3), .val (.int x4), .val (.int x5), .unset, .unset, .unset, .unset, .unset, .unset, .unset, .unset, .unset] [(.int (97 : Int32)), (.int (38 : Int32)), (.ref b1), (.ref b1)]))
  obtain ⟨cl142, Ar142, q142, S142, O142, H142, G142⟩ := (id V140)
  obtain ⟨T143, h143, X143, e143, W143, st143⟩ := stB X140 hx hZ e140 Ar142 (j := (38 : Int32)) (inb_of S142 ⟨by decide, by decide⟩) (g := (mkF m 231 #[.val (.int x0), .val (.int x1), .val (.int x2), .val (.int x3), .val (.int x4), .val (.int x5), .unset, .unset, .unset, .unset, .unset, .unset, .unset, .unset, .unset] [(.int (97 : Int32)), (.int (38 : Int32)), (.ref b1), (.ref b1)])) rfl rfl (hb hby at_231)
  refine own_fs (st143 _ (Steps.refl _)) ?_
  have V143 : Arv Z h143 b1 k1 .byte (68 : Int32) (own_fill 39) (.int (0 : Int32)) := own_fillS 38 (by decide) ▸ Arv.set Ar142 q142 S142 O142 H142 G142 (v := .int (97 : Int32)) (by decide) W143 38 rfl (by rw [own_fill_len _ (by decide)]; decide)
  have N143 := Fr.snoc X143 N140 ge_b1
  have Zb144 : n0 ≤ h143.size := (Nat.le_trans Zb141 (Keep.of_wr W143).1)
  have Sb144_0 := (Sta.wr W143 Sb141_0)
  have Sb144_1 := (Arr.other W143 Sb141_1 ne_tb)
  show own_G p.tables e below _ (T143.setTop (mkF m 232 #[.val (.int x0), .val (.int x1), .val (.int x2), .val (.int x3), .val (.int x4), .val (.int x5), .unset, .unset, .unset, .unset, .unset, .unset, .unset, .unset, .unset] [(.ref b1)]))
  refine own_fs (XS.dup X143.here hx rfl (hb hby at_232) rfl rfl (Steps.refl _)) ?_
  show own_G p.tables e below _ (T143.setTop (mkF m 233 #[.val (.int x0), .val (.int x1), .val (.int x2), .val (.int x3), .val (.int x4), .val (.int x5), .unset, .unset, .unset, .unset, .unset, .unset, .unset, .unset, .unset] [(.ref b1), (.ref b1)]))
  refine own_fs (XS.bipush X143.here hx rfl (hb hby at_233) (Steps.refl _)) ?_
  show own_G p.tables e below _ (T143.setTop (mkF m 235 #[.val (.int x0), .val (.int x1), .val (.int x2), .val (.int x3), .val (.int x4), .val (.int x5), .unset, .unset, .unset, .unset, .unset, .unset, .unset, .unset, .unset] [(.int (39 : Int32)), (.ref b1), (.ref b1)]))
  refine own_fs (XS.bipush X143.here hx rfl (hb hby at_235) (Steps.refl _)) ?_
  show own_G p.tables e below _ (T143.setTop (mkF m 237 #[.val (.int x0), .val (.int x1), .val (.int x2), .val (.int x3), .val (.int x4), .val (.int x5), .unset, .unset, .unset, .unset, .unset, .unset, .unset, .unset, .unset] [(.int (97 : Int32)), (.int (39 : Int32)), (.ref b1), (.ref b1)]))
  obtain ⟨cl145, Ar145, q145, S145, O145, H145, G145⟩ := (id V143)
  obtain ⟨T146, h146, X146, e146, W146, st146⟩ := stB X143 hx hZ e143 Ar145 (j := (39 : Int32)) (inb_of S145 ⟨by decide, by decide⟩) (g := (mkF m 237 #[.val (.int x0), .val (.int x1), .val (.int x2), .val (.int x3), .val (.int x4), .val (.int x5), .unset, .unset, .unset, .unset, .unset, .unset, .unset, .unset, .unset] [(.int (97 : Int32)), (.int (39 : Int32)), (.ref b1), (.ref b1)])) rfl rfl (hb hby at_237)
  refine own_fs (st146 _ (Steps.refl _)) ?_
  have V146 : Arv Z h146 b1 k1 .byte (68 : Int32) (own_fill 40) (.int (0 : Int32)) := own_fillS 39 (by decide) ▸ Arv.set Ar145 q145 S145 O145 H145 G145 (v := .int (97 : Int32)) (by decide) W146 39 rfl (by rw [own_fill_len _ (by decide)]; decide)
  have N146 := Fr.snoc X146 N143 ge_b1
  have Zb147 : n0 ≤ h146.size := (Nat.le_trans Zb144 (Keep.of_wr W146).1)
  have Sb147_0 := (Sta.wr W146 Sb144_0)
  have Sb147_1 := (Arr.other W146 Sb144_1 ne_tb)
  show own_G p.tables e below _ (T146.setTop (mkF m 238 #[.val (.int x0), .val (.int x1), .val (.int x2), .val (.int x3), .val (.int x4), .val (.int x5), .unset, .unset, .unset, .unset, .unset, .unset, .unset, .unset, .unset] [(.ref b1)]))
  refine own_fs (XS.dup X146.here hx rfl (hb hby at_238) rfl rfl (Steps.refl _)) ?_
  show own_G p.tables e below _ (T146.setTop (mkF m 239 #[.val (.int x0), .val (.int x1), .val (.int x2), .val (.int x3), .val (.int x4), .val (.int x5), .unset, .unset, .unset, .unset, .unset, .unset, .unset, .unset, .unset] [(.ref b1), (.ref b1)]))
  refine own_fs (XS.bipush X146.here hx rfl (hb hby at_239) (Steps.refl _)) ?_
  show own_G p.tables e below _ (T146.setTop (mkF m 241 #[.val (.int x0), .val (.int x1), .val (.int x2), .val (.int x3), .val (.int x4), .val (.int x5), .unset, .unset, .unset, .unset, .unset, .unset, .unset, .unset, .unset] [(.int (40 : Int32)), (.ref b1), (.ref b1)]))
  refine own_fs (XS.bipush X146.here hx rfl (hb hby at_241) (Steps.refl _)) ?_
  show own_G p.tables e below _ (T146.setTop (mkF m 243 #[.val (.int x0), .val (.int x1), .val (.int x2), .val (.int x3), .val (.int x4), .val (.int x5), .unset, .unset, .unset, .unset, .unset, .unset, .unset, .unset, .unset] [(.int (97 : Int32)), (.int (40 : Int32)), (.ref b1), (.ref b1)]))
  obtain ⟨cl148, Ar148, q148, S148, O148, H148, G148⟩ := (id V146)
  obtain ⟨T149, h149, X149, e149, W149, st149⟩ := stB X146 hx hZ e146 Ar148 (j := (40 : Int32)) (inb_of S148 ⟨by decide, by decide⟩) (g := (mkF m 243 #[.val (.int x0), .val (.int x1), .val (.int x2), .val (.int x3), .val (.int x4), .val (.int x5), .unset, .unset, .unset, .unset, .unset, .unset, .unset, .unset, .unset] [(.int (97 : Int32)), (.int (40 : Int32)), (.ref b1), (.ref b1)])) rfl rfl (hb hby at_243)
  refine own_fs (st149 _ (Steps.refl _)) ?_
  have V149 : Arv Z h149 b1 k1 .byte (68 : Int32) (own_fill 41) (.int (0 : Int32)) := own_fillS 40 (by decide) ▸ Arv.set Ar148 q148 S148 O148 H148 G148 (v := .int (97 : Int32)) (by decide) W149 40 rfl (by rw [own_fill_len _ (by decide)]; decide)
  have N149 := Fr.snoc X149 N146 ge_b1
  have Zb150 : n0 ≤ h149.size := (Nat.le_trans Zb147 (Keep.of_wr W149).1)
  have Sb150_0 := (Sta.wr W149 Sb147_0)
  have Sb150_1 := (Arr.other W149 Sb147_1 ne_tb)
  show own_G p.tables e below _ (T149.setTop (mkF m 244 #[.val (.int x0), .val (.int x1), .val (.int x2), .val (.int x3), .val (.int x4), .val (.int x5), .unset, .unset, .unset, .unset, .unset, .unset, .unset, .unset, .unset] [(.ref b1)]))
  refine own_fs (XS.dup X149.here hx rfl (hb hby at_244) rfl rfl (Steps.refl _)) ?_
  show own_G p.tables e below _ (T149.setTop (mkF m 245 #[.val (.int x0), .val (.int x1), .val (.int x2), .val (.int x3), .val (.int x4), .val (.int x5), .unset, .unset, .unset, .unset, .unset, .unset, .unset, .unset, .unset] [(.ref b1), (.ref b1)]))
  refine own_fs (XS.bipush X149.here hx rfl (hb hby at_245) (Steps.refl _)) ?_
  show own_G p.tables e below _ (T149.setTop (mkF m 247 #[.val (.int x0), .val (.int x1), .val (.int x2), .val (.int x3), .val (.int x4), .val (.int x5), .unset, .unset, .unset, .unset, .unset, .unset, .unset, .unset, .unset] [(.int (41 : Int32)), (.ref b1), (.ref b1)]))
  refine own_fs (XS.bipush X149.here hx rfl (hb hby at_247) (Steps.refl _)) ?_
  show own_G p.tables e below _ (T149.setTop (mkF m 249 #[.val (.int x0), .val (.int x1), .val (.int x2), .val (.int x3), .val (.int x4), .val (.int x5), .unset, .unset, .unset, .unset, .unset, .unset, .unset, .unset, .unset] [(.int (97 : Int32)), (.int (41 : Int32)), (.ref b1), (.ref b1)]))
  obtain ⟨cl151, Ar151, q151, S151, O151, H151, G151⟩ := (id V149)
  obtain ⟨T152, h152, X152, e152, W152, st152⟩ := stB X149 hx hZ e149 Ar151 (j := (41 : Int32)) (inb_of S151 ⟨by decide, by decide⟩) (g := (mkF m 249 #[.val (.int x0), .val (.int x1), .val (.int x2), .val (.int x3), .val (.int x4), .val (.int x5), .unset, .unset, .unset, .unset, .unset, .unset, .unset, .unset, .unset] [(.int (97 : Int32)), (.int (41 : Int32)), (.ref b1), (.ref b1)])) rfl rfl (hb hby at_249)
  refine own_fs (st152 _ (Steps.refl _)) ?_
  have V152 : Arv Z h152 b1 k1 .byte (68 : Int32) (own_fill 42) (.int (0 : Int32)) := own_fillS 41 (by decide) ▸ Arv.set Ar151 q151 S151 O151 H151 G151 (v := .int (97 : Int32)) (by decide) W152 41 rfl (by rw [own_fill_len _ (by decide)]; decide)
  have N152 := Fr.snoc X152 N149 ge_b1
  have Zb153 : n0 ≤ h152.size := (Nat.le_trans Zb150 (Keep.of_wr W152).1)
  have Sb153_0 := (Sta.wr W152 Sb150_0)
  have Sb153_1 := (Arr.other W152 Sb150_1 ne_tb)
  show own_G p.tables e below _ (T152.setTop (mkF m 250 #[.val (.int x0), .val (.int x1), .val (.int x2), .val (.int x3), .val (.int x4), .val (.int x5), .unset, .unset, .unset, .unset, .unset, .unset, .unset, .unset, .unset] [(.ref b1)]))
  refine own_fs (XS.dup X152.here hx rfl (hb hby at_250) rfl rfl (Steps.refl _)) ?_
  show own_G p.tables e below _ (T152.setTop (mkF m 251 #[.val (.int x0), .val (.int x1), .val (.int x2), .val (.int x3), .val (.int x4), .val (.int x5), .unset, .unset, .unset, .unset, .unset, .unset, .unset, .unset, .unset] [(.ref b1), (.ref b1)]))
  refine own_fs (XS.bipush X152.here hx rfl (hb hby at_251) (Steps.refl _)) ?_
  show own_G p.tables e below _ (T152.setTop (mkF m 253 #[.val (.int x0), .val (.int x1), .val (.int x2), .val (.int x3), .val (.int x4), .val (.int x5), .unset, .unset, .unset, .unset, .unset, .unset, .unset, .unset, .unset] [(.int (42 : Int32)), (.ref b1), (.ref b1)]))
  refine own_fs (XS.bipush X152.here hx rfl (hb hby at_253) (Steps.refl _)) ?_
  show own_G p.tables e below _ (T152.setTop (mkF m 255 #[.val (.int x0), .val (.int x1), .val (.int x2), .val (.int x3), .val (.int x4), .val (.int x5), .unset, .unset, .unset, .unset, .unset, .unset, .unset, .unset, .unset] [(.int (97 : Int32)), (.int (42 : Int32)), (.ref b1), (.ref b1)]))
  obtain ⟨cl154, Ar154, q154, S154, O154, H154, G154⟩ := (id V152)
  obtain ⟨T155, h155, X155, e155, W155, st155⟩ := stB X152 hx hZ e152 Ar154 (j := (42 : Int32)) (inb_of S154 ⟨by decide, by decide⟩) (g := (mkF m 255 #[.val (.int x0), .val (.int x1), .val (.int x2), .val (.int x3), .val (.int x4), .val (.int x5), .unset, .unset, .unset, .unset, .unset, .unset, .unset, .unset, .unset] [(.int (97 : Int32)), (.int (42 : Int32)), (.ref b1), (.ref b1)])) rfl rfl (hb hby at_255)
  refine own_fs (st155 _ (Steps.refl _)) ?_
  have V155 : Arv Z h155 b1 k1 .byte (68 : Int32) (own_fill 43) (.int (0 : Int32)) := own_fillS 42 (by decide) ▸ Arv.set Ar154 q154 S154 O154 H154 G154 (v := .int (97 : Int32)) (by decide) W155 42 rfl (by rw [own_fill_len _ (by decide)]; decide)
  have N155 := Fr.snoc X155 N152 ge_b1
  have Zb156 : n0 ≤ h155.size := (Nat.le_trans Zb153 (Keep.of_wr W155).1)
  have Sb156_0 := (Sta.wr W155 Sb153_0)
  have Sb156_1 := (Arr.other W155 Sb153_1 ne_tb)
  show own_G p.tables e below _ (T155.setTop (mkF m 256 #[.val (.int x0), .val (.int x1), .val (.int x2), .val (.int x3), .val (.int x4), .val (.int x5), .unset, .unset, .unset, .unset, .unset, .unset, .unset, .unset, .unset] [(.ref b1)]))
  refine own_fs (XS.dup X155.here hx rfl (hb hby at_256) rfl rfl (Steps.refl _)) ?_
  show own_G p.tables e below _ (T155.setTop (mkF m 257 #[.val (.int x0), .val (.int x1), .val (.int x2), .val (.int x3), .val (.int x4), .val (.int x5), .unset, .unset, .unset, .unset, .unset, .unset, .unset, .unset, .unset] [(.ref b1), (.ref b1)]))
  refine own_fs (XS.bipush X155.here hx rfl (hb hby at_257) (Steps.refl _)) ?_
  show own_G p.tables e below _ (T155.setTop (mkF m 259 #[.val (.int x0), .val (.int x1), .val (.int x2), .val (.int x3), .val (.int x4), .val (.int x5), .unset, .unset, .unset, .unset, .unset, .unset, .unset, .unset, .unset] [(.int (43 : Int32)), (.ref b1), (.ref b1)]))
  refine own_fs (XS.bipush X155.here hx rfl (hb hby at_259) (Steps.refl _)) ?_
  show own_G p.tables e below _ (T155.setTop (mkF m 261 #[.val (.int x0), .val (.int x1), .val (.int x2), .val (.int x3), .val (.int x4), .val (.int x5), .unset, .unset, .unset, .unset, .unset, .unset, .unset, .unset, .unset] [(.int (97 : Int32)), (.int (43 : Int32)), (.ref b1), (.ref b1)]))
  obtain ⟨cl157, Ar157, q157, S157, O157, H157, G157⟩ := (id V155)
  obtain ⟨T158, h158, X158, e158, W158, st158⟩ := stB X155 hx hZ e155 Ar157 (j := (43 : Int32)) (inb_of S157 ⟨by decide, by decide⟩) (g := (mkF m 261 #[.val (.int x0), .val (.int x1), .val (.int x2), .val (.int x3), .val (.int x4), .val (.int x5), .unset, .unset, .unset, .unset, .unset, .unset, .unset, .unset, .unset] [(.int (97 : Int32)), (.int (43 : Int32)), (.ref b1), (.ref b1)])) rfl rfl (hb hby at_261)
  refine own_fs (st158 _ (Steps.refl _)) ?_
  have V158 : Arv Z h158 b1 k1 .byte (68 : Int32) (own_fill 44) (.int (0 : Int32)) := own_fillS 43 (by decide) ▸ Arv.set Ar157 q157 S157 O157 H157 G157 (v := .int (97 : Int32)) (by decide) W158 43 rfl (by rw [own_fill_len _ (by decide)]; decide)
  have N158 := Fr.snoc X158 N155 ge_b1
  have Zb159 : n0 ≤ h158.size := (Nat.le_trans Zb156 (Keep.of_wr W158).1)
  have Sb159_0 := (Sta.wr W158 Sb156_0)
  have Sb159_1 := (Arr.other W158 Sb156_1 ne_tb)
  show own_G p.tables e below _ (T158.setTop (mkF m 262 #[.val (.int x0), .val (.int x1), .val (.int x2), .val (.int x3), .val (.int x4), .val (.int x5), .unset, .unset, .unset, .unset, .unset, .unset, .unset, .unset, .unset] [(.ref b1)]))
  refine own_fs (XS.dup X158.here hx rfl (hb hby at_262) rfl rfl (Steps.refl _)) ?_
  show own_G p.tables e below _ (T158.setTop (mkF m 263 #[.val (.int x0), .val (.int x1), .val (.int x2), .val (.int x3), .val (.int x4), .val (.int x5), .unset, .unset, .unset, .unset, .unset, .unset, .unset, .unset, .unset] [(.ref b1), (.ref b1)]))
  refine own_fs (XS.bipush X158.here hx rfl (hb hby at_263) (Steps.refl _)) ?_
  show own_G p.tables e below _ (T158.setTop (mkF m 265 #[.val (.int x0), .val (.int x1), .val (.int x2), .val (.int x3), .val (.int x4), .val (.int x5), .unset, .unset, .unset, .unset, .unset, .unset, .unset, .unset, .unset] [(.int (44 : Int32)), (.ref b1), (.ref b1)]))
  refine own_fs (XS.bipush X158.here hx rfl (hb hby at_265) (Steps.refl _)) ?_
  show own_G p.tables e below _ (T158.setTop (mkF m 267 #[.val (.int x0), .val (.int x1), .val (.int x2), .val (.int x3), .val (.int x4), .val (.int x5), .unset, .unset, .unset, .unset, .unset, .unset, .unset, .unset, .unset] [(.int (97 : Int32)), (.int (44 : Int32)), (.ref b1), (.ref b1)]))
  obtain ⟨cl160, Ar160, q160, S160, O160, H160, G160⟩ := (id V158)
  obtain ⟨T161, h161, X161, e161, W161, st161⟩ := stB X158 hx hZ e158 Ar160 (j := (44 : Int32)) (inb_of S160 ⟨by decide, by decide⟩) (g := (mkF m 267 #[.val (.int x0), .val (.int x1), .val (.int x2), .val (.int x3), .val (.int x4), .val (.int x5), .unset, .unset, .unset, .unset, .unset, .unset, .unset, .unset, .unset] [(.int (97 : Int32)), (.int (44 : Int32)), (.ref b1), (.ref b1)])) rfl rfl (hb hby at_267)
  refine own_fs (st161 _ (Steps.refl _)) ?_
  have V161 : Arv Z h161 b1 k1 .byte (68 : Int32) (own_fill 45) (.int (0 : Int32)) := own_fillS 44 (by decide) ▸ Arv.set Ar160 q160 S160 O160 H160 G160 (v := .int (97 : Int32)) (by decide) W161 44 rfl (by rw [own_fill_len _ (by decide)]; decide)
  have N161 := Fr.snoc X161 N158 ge_b1
  have Zb162 : n0 ≤ h161.size := (Nat.le_trans Zb159 (Keep.of_wr W161).1)
  have Sb162_0 := (Sta.wr W161 Sb159_0)
  have Sb162_1 := (Arr.other W161 Sb159_1 ne_tb)
  show own_G p.tables e below _ (T161.setTop (mkF m 268 #[.val (.int x0), .val (.int x1), .val (.int x2), .val (.int x3), .val (.int x4), .val (.int x5), .unset, .unset, .unset, .unset, .unset, .unset, .unset, .unset, .unset] [(.ref b1)]))
  refine own_fs (XS.dup X161.here hx rfl (hb hby at_268) rfl rfl (Steps.refl _)) ?_
  show own_G p.tables e below _ (T161.setTop (mkF m 269 #[.val (.int x0), .val (.int x1), .val (.int x2), .val (.int x3), .val (.int x4), .val (.int x5), .unset, .unset, .unset, .unset, .unset, .unset, .unset, .unset, .unset] [(.ref b1), (.ref b1)]))
  refine own_fs (XS.bipush X161.here hx rfl (hb hby at_269) (Steps.refl _)) ?_
  show own_G p.tables e below _ (T161.setTop (mkF m 271 #[.val (.int x0), .val (.int x1), .val (.int x2), .val (.int x3), .val (.int x4), .val (.int x5), .unset, .unset, .unset, .unset, .unset, .unset, .unset, .unset, .unset] [(.int (45 : Int32)), (.ref b1), (.ref b1)]))
  refine own_fs (XS.bipush X161.here hx rfl (hb hby at_271) (Steps.refl _)) ?_
  show own_G p.tables e below _ (T161.setTop (mkF m 273 #[.val (.int x0), .val (.int x1), .val (.int x2), .val (.int x3), .val (.int x4), .val (.int x5), .unset, .unset, .unset, .unset, .unset, .unset, .unset, .unset, .unset] [(.int (97 : Int32)), (.int (45 : Int32)), (.ref b1), (.ref b1)]))
  obtain ⟨cl163, Ar163, q163, S163, O163, H163, G163⟩ := (id V161)
  obtain ⟨T164, h164, X164, e164, W164, st164⟩ := stB X161 hx hZ e161 Ar163 (j := (45 : Int32)) (inb_of S163 ⟨by decide, by decide⟩) (g := (mkF m 273 #[.val (.int x0), .val (.int x1), .val (.int x2), .val (.int x3), .val (.int x4), .val (.int x5), .unset, .unset, .unset, .unset, .unset, .unset, .unset, .unset, .unset] [(.int (97 : Int32)), (.int (45 : Int32)), (.ref b1), (.ref b1)])) rfl rfl (hb hby at_273)
  refine own_fs (st164 _ (Steps.refl _)) ?_
  have V164 : Arv Z h164 b1 k1 .byte (68 : Int32) (own_fill 46) (.int (0 : Int32)) := own_fillS 45 (by decide) ▸ Arv.set Ar163 q163 S163 O163 H163 G163 (v := .int (97 : Int32)) (by decide) W164 45 rfl (by rw [own_fill_len _ (by decide)]; decide)
  have N164 := Fr.snoc X164 N161 ge_b1
  have Zb165 : n0 ≤ h164.size := (Nat.le_trans Zb162 (Keep.of_wr W164).1)
  have Sb165_0 := (Sta.wr W164 Sb162_0)
  have Sb165_1 := (Arr.other W164 Sb162_1 ne_tb)
  show own_G p.tables e below _ (T164.setTop (mkF m 274 #[.val (.int x0), .val (.int x1), .val (.int x2), .val (.int x3), .val (.int x4), .val (.int x5), .unset, .unset, .unset, .unset, .unset, .unset, .unset, .unset, .unset] [(.ref b1)]))
  refine own_fs (XS.dup X164.here hx rfl (hb hby at_274) rfl rfl (Steps.refl _)) ?_
  show own_G p.tables e below _ (T164.setTop (mkF m 275 #[.val (.int x0), .val (.int x1), .val (.int x2), .val (.int x3), .val (.int x4), .val (.int x5), .unset, .unset, .unset, .unset, .unset, .unset, .unset, .unset, .unset] [(.ref b1), (.ref b1)]))
  refine own_fs (XS.bipush X164.here hx rfl (hb hby at_275) (Steps.refl _)) ?_
  show own_G p.tables e below _ (T164.setTop (mkF m 277 #[.val (.int x0), .val (.int x1), .val (.int x2), .val (.int x3), .val (.int x4), .val (.int x5), .unset, .unset, .unset, .unset, .unset, .unset, .unset, .unset, .unset] [(.int (46 : Int32)), (.ref b1), (.ref b1)]))
  refine own_fs (XS.bipush X164.here hx rfl (hb hby at_277) (Steps.refl _)) ?_
  show own_G p.tables e below _ (T164.setTop (mkF m 279 #[.val (.int x0), .val (.int x1), .val (.int x2), .val (.int x3), .val (.int x4), .val (.int x5), .unset, .unset, .unset, .unset, .unset, .unset, .unset, .unset, .unset] [(.int (97 : Int32)), (.int (46 : Int32)), (.ref b1), (.ref b1)]))
  obtain ⟨cl166, Ar166, q166, S166, O166, H166, G166⟩ := (id V164)
  obtain ⟨T167, h167, X167, e167, W167, st167⟩ := stB X164 hx hZ e164 Ar166 (j := (46 : Int32)) (inb_of S166 ⟨by decide, by decide⟩) (g := (mkF m 279 #[.val (.int x0), .val (.int x1), .val (.int x2), .val (.int x3), .val (.int x4), .val (.int x5), .unset, .unset, .unset, .unset, .unset, .unset, .unset, .unset, .unset] [(.int (97 : Int32)), (.int (46 : Int32)), (.ref b1), (.ref b1)])) rfl rfl (hb hby at_279)
  refine own_fs (st167 _ (Steps.refl _)) ?_
  have V167 : Arv Z h167 b1 k1 .byte (68 : Int32) (own_fill 47) (.int (0 : Int32)) := own_fillS 46 (by decide) ▸ Arv.set Ar166 q166 S166 O166 H166 G166 (v := .int (97 : Int32)) (by decide) W167 46 rfl (by rw [own_fill_len _ (by decide)]; decide)
  have N167 := Fr.snoc X167 N164 ge_b1
  have Zb168 : n0 ≤ h167.size := (Nat.le_trans Zb165 (Keep.of_wr W167).1)
  have Sb168_0 := (Sta.wr W167 Sb165_0)
  have Sb168_1 := (Arr.other W167 Sb165_1 ne_tb)
  show own_G p.tables e below _ (T167.setTop (mkF m 280 #[.val (.int x0), .val (.int x1), .val (.int x2), .val (.int x3), .val (.int x4), .val (.int x5), .unset, .unset, .unset, .unset, .unset, .unset, .unset, .unset, .unset] [(.ref b1)]))
  refine own_fs (XS.dup X167.here hx rfl (hb hby at_280) rfl rfl (Steps.refl _)) ?_
  show own_G p.tables e below _ (T167.setTop (mkF m 281 #[.val (.int x0), .val (.int x1), .val (.int x2), .val (.int x3), .val (.int x4), .val (.int x5), .unset, .unset, .unset, .unset, .unset, .unset, .unset, .unset, .unset] [(.ref b1), (.ref b1)]))
  refine own_fs (XS.bipush X167.here hx rfl (hb hby at_281) (Steps.refl _)) ?_
  show own_G p.tables e below _ (T167.setTop (mkF m 283 #[.val (.int x0), .val (.int x1), .val (.int x2), .val (.int x3), .val (.int x4), .val (.int x5), .unset, .unset, .unset, .unset, .unset, .unset, .unset, .unset, .unset] [(.int (47 : Int32)), (.ref b1), (.ref b1)]))
  refine own_fs (XS.bipush X167.here hx rfl (hb hby at_283) (Steps.refl _)) ?_
  show own_G p.tables e below _ (T167.setTop (mkF m 285 #[.val (.int x0), .val (.int x1), .val (.int x2), .val (.int x3), .val (.int x4), .val (.int x5), .unset, .unset, .unset, .unset, .unset, .unset, .unset, .unset, .unset] [(.int (97 : Int32)), (.int (47 : Int32)), (.ref b1), (.ref b1)]))
  obtain ⟨cl169, Ar169, q169, S169, O169, H169, G169⟩ := (id V167)
  obtain ⟨T170, h170, X170, e170, W170, st170⟩ := stB X167 hx hZ e167 Ar169 (j := (47 : Int32)) (inb_of S169 ⟨by decide, by decide⟩) (g := (mkF m 285 #[.val (.int x0), .val (.int x1), .val (.int x2), .val (.int x3), .val (.int x4), .val (.int x5), .unset, .unset, .unset, .unset, .unset, .unset, .unset, .unset, .unset] [(.int (97 : Int32)), (.int (47 : Int32)), (.ref b1), (.ref b1)])) rfl rfl (hb hby at_285)
  refine own_fs (st170 _ (Steps.refl _)) ?_
  have V170 : Arv Z h170 b1 k1 .byte (68 : Int32) (own_fill 48) (.int (0 : Int32)) := own_fillS 47 (by decide) ▸ Arv.set Ar169 q169 S169 O169 H169 G169 (v := .int (97 : Int32)) (by decide) W170 47 rfl (by rw [own_fill_len _ (by decide)]; decide)
  have N170 := Fr.snoc X170 N167 ge_b1
  have Zb171 : n0 ≤ h170.size := (Nat.le_trans Zb168 (Keep.of_wr W170).1)
  have Sb171_0 := (Sta.wr W170 Sb168_0)
  have Sb171_1 := (Arr.other W170 Sb168_1 ne_tb)
  show own_G p.tables e below _ (T170.setTop (mkF m 286 #[.val (.int x0), .val (.int x1), .val (.int x2), .val (.int x3), .val (.int x4), .val (.int x5), .unset, .unset, .unset, .unset, .unset, .unset, .unset, .unset, .unset] [(.ref b1)]))
  refine own_fs (XS.dup X170.here hx rfl (hb hby at_286) rfl rfl (Steps.refl _)) ?_
  show own_G p.tables e below _ (T170.setTop (mkF m 287 #[.val (.int x0), .val (.int x1), .val (.int x2), .val (.int x3), .val (.int x4), .val (.int x5), .unset, .unset, .unset, .unset, .unset, .unset, .unset, .unset, .unset] [(.ref b1), (.ref b1)]))
  refine own_fs (XS.bipush X170.here hx rfl (hb hby at_287) (Steps.refl _)) ?_
  show own_G p.tables e below _ (T170.setTop (mkF m 289 #[.val (.int x0), .val (.int x1), .val (.int x2), .val (.int x3), .val (.int x4), .val (.int x5), .unset, .unset, .unset, .unset, .unset, .unset, .unset, .unset, .unset] [(.int (48 : Int32)), (.ref b1), (.ref b1)]))
  refine own_fs (XS.bipush X170.here hx rfl (hb hby at_289) (Steps.refl _)) ?_
  show own_G p.tables e below _ (T170.setTop (mkF m 291 #[.val (.int x0), .val (.int x1), .val (.int x2), .val (.int x3), .val (.int x4), .val (.int x5), .unset, .unset, .unset, .unset, .unset, .unset, .unset, .unset, .unset] [(.int (97 : Int32)), (.int (48 : Int32)), (.ref b1), (.ref b1)]))
  obtain ⟨cl172, Ar172, q172, S172, O172, H172, G172⟩ := (id V170)
  obtain ⟨T173, h173, X173, e173, W173, st173⟩ := stB X170 hx hZ e170 Ar172 (j := (48 : Int32)) (inb_of S172 ⟨by decide, by decide⟩) (g := (mkF m 291 #[.val (.int x0), .val (.int x1), .val (.int x2), .val (.int x3), .val (.int x4), .val (.int x5), .unset, .unset, .unset, .unset, .unset, .unset, .unset, .unset, .unset] [(.int (97 : Int32)), (.int (48 : Int32)), (.ref b1), (.ref b1)])) rfl rfl (hb hby at_291)
  refine own_fs (st173 _ (Steps.refl _)) ?_
  have V173 : Arv Z h173 b1 k1 .byte (68 : Int32) (own_fill 49) (.int (0 : Int32)) := own_fillS 48 (by decide) ▸ Arv.set Ar172 q172 S172 O172 H172 G172 (v := .int (97 : Int32)) (by decide) W173 48 rfl (by rw [own_fill_len _ (by decide)]; decide)
  have N173 := Fr.snoc X173 N170 ge_b1
  have Zb174 : n0 ≤ h173.size := (Nat.le_trans Zb171 (Keep.of_wr W173).1)
  have Sb174_0 := (Sta.wr W173 Sb171_0)
  have Sb174_1 := (Arr.other W173 Sb171_1 ne_tb)
  show own_G p.tables e below _ (T173.setTop (mkF m 292 #[.val (.int x0), .val (.int x1), .val (.int x2), .val (.int x3), .val (.int x4), .val (.int x5), .unset, .unset, .unset, .unset, .unset, .unset, .unset, .unset, .unset] [(.ref b1)]))
  refine own_fs (XS.dup X173.here hx rfl (hb hby at_292) rfl rfl (Steps.refl _)) ?_
  show own_G p.tables e below _ (T173.setTop (mkF m 293 #[.val (.int x0), .val (.int x1), .val (.int x2), .val (.int x3), .val (.int x4), .val (.int x5), .unset, .unset, .unset, .unset, .unset, .unset, .unset, .unset, .unset] [(.ref b1), (.ref b1)]))
  refine own_fs (XS.bipush X173.here hx rfl (hb hby at_293) (Steps.refl _)) ?_
  show own_G p.tables e below _ (T173.setTop (mkF m 295 #[.val (.int x0), .val (.int x1), .val (.int x2), .val (.int x3), .val (.int x4), .val (.int x5), .unset, .unset, .unset, .unset, .unset, .unset, .unset, .unset, .unset] [(.int (49 : Int32)), (.ref b1), (.ref b1)]))
  refine own_fs (XS.bipush X173.here hx rfl (hb hby at_295) (Steps.refl _)) ?_
  show own_G p.tables e below _ (T173.setTop (mkF m 297 #[.val (.int x0), .val (.int x1), .val (.int x2), .val (.int x3), .val (.int x4), .val (.int x5), .unset, .unset, .unset, .unset, .unset, .unset, .unset, .unset, .unset] [(.int (97 : Int32)), (.int (49 : Int32)), (.ref b1), (.ref b1)]))
  obtain ⟨cl175, Ar175, q175, S175, O175, H175, G175⟩ := (id V173)
  obtain ⟨T176, h176, X176, e176, W176, st176⟩ := stB X173 hx hZ e173 Ar175 (j := (49 : Int32)) (inb_of S175 ⟨by decide, by decide⟩) (g := (mkF m 297 #[.val (.int x0), .val (.int x1), .val (.int x2), .val (.int x3), .val (.int x4), .val (.int x5), .unset, .unset, .unset, .unset, .unset, .unset, .unset, .unset, .unset] [(.int (97 : Int32)), (.int (49 : Int32)), (.ref b1), (.ref b1)])) rfl rfl (hb hby at_297)
  refine own_fs (st176 _ (Steps.refl _)) ?_
  have V176 : Arv Z h176 b1 k1 .byte (68 : Int32) (own_fill 50) (.int (0 : Int32)) := own_fillS 49 (by decide) ▸ Arv.set Ar175 q175 S175 O175 H175 G175 (v := .int (97 : Int32)) (by decide) W176 49 rfl (by rw [own_fill_len _ (by decide)]; decide)
  have N176 := Fr.snoc X176 N173 ge_b1
  have Zb177 : n0 ≤ h176.size := (Nat.le_trans Zb174 (Keep.of_wr W176).1)
  have Sb177_0 := (Sta.wr W176 Sb174_0)
  have Sb177_1 := (Arr.other W176 Sb174_1 ne_tb)
  show own_G p.tables e below _ (T176.setTop (mkF m 298 #[.val (.int x0), .val (.int x1), .val (.int x2), .val (.int x3), .val (.int x4), .val (.int x5), .unset, .unset, .unset, .unset, .unset, .unset, .unset, .unset, .unset] [(.ref b1)]))
  refine own_fs (XS.dup X176.here hx rfl (hb hby at_298) rfl rfl (Steps.refl _)) ?_
  show own_G p.tables e below _ (T176.setTop (mkF m 299 #[.val (.int x0), .val (.int x1), .val (.int x2), .val (.int x3), .val (.int x4), .val (.int x5), .unset, .unset, .unset, .unset, .unset, .unset, .unset, .unset, .unset] [(.ref b1), (.ref b1)]))
  refine own_fs (XS.bipush X176.here hx rfl (hb hby at_299) (Steps.refl _)) ?_
  show own_G p.tables e below _ (T176.setTop (mkF m 301 #[.val (.int x0), .val (.int x1), .val (.int x2), .val (.int x3), .val (.int x4), .val (.int x5), .unset, .unset, .unset, .unset, .unset, .unset, .unset, .unset, .unset] [(.int (50 : Int32)), (.ref b1), (.ref b1)]))
  refine own_fs (XS.bipush X176.here hx rfl (hb hby at_301) (Steps.refl _)) ?_
  show own_G p.tables e below _ (T176.setTop (mkF m 303 #[.val (.int x0), .val (.int x1), .val (.int x2), .val (.int x3), .val (.int x4), .val (.int x5), .unset, .unset, .unset, .unset, .unset, .unset, .unset, .unset, .unset] [(.int (97 : Int32)), (.int (50 : Int32)), (.ref b1), (.ref b1)]))
  obtain ⟨cl178, Ar178, q178, S178, O178, H178, G178⟩ := (id V176)
  obtain ⟨T179, h179, X179, e179, W179, st179⟩ := stB X176 hx hZ e176 Ar178 (j := (50 : Int32)) (inb_of S178 ⟨by decide, by decide⟩) (g := (mkF m 303 #[.val (.int x0), .val (.int x1), .val (.int x2), .val (.int x3), .val (.int x4), .val (.int x5), .unset, .unset, .unset, .unset, .unset, .unset, .unset, .unset, .unset] [(.int (97 : Int32)), (.int (50 : Int32)), (.ref b1), (.ref b1)])) rfl rfl (hb hby at_303)
  refine own_fs (st179 _ (Steps.refl _)) ?_
  have V179 : Arv Z h179 b1 k1 .byte (68 : Int32) (own_fill 51) (.int (0 : Int32)) := own_fillS 50 (by decide) ▸ Arv.set Ar178 q178 S178 O178 H178 G178 (v := .int (97 : Int32)) (by decide) W179 50 rfl (by rw [own_fill_len _ (by decide)]; decide)
  have N179 := Fr.snoc X179 N176 ge_b1
  have Zb180 : n0 ≤ h179.size := (Nat.le_trans Zb177 (Keep.of_wr W179).1)
  have Sb180_0 := (Sta.wr W179 Sb177_0)
  have Sb180_1 := (Arr.other W179 Sb177_1 ne_tb)
  show own_G p.tables e below _ (T179.setTop (mkF m 304 #[.val (.int x0), .val (.int x1), .val (.int x2), .val (.int x3), .val (.int x4), .val (.int x5), .unset, .unset, .unset, .unset, .unset, .unset, .unset, .unset, .unset] [(.ref b1)]))
  refine own_fs (XS.dup X179.here hx rfl (hb hby at_304) rfl rfl (Steps.refl _)) ?_
  show own_G p.tables e below _ (T179.setTop (mkF m 305 #[.val (.int x0), .val (.int x1), .val (.int x2), .val (.int x3), .val (.int x4), .val (.int x5), .unset, .unset, .unset, .unset, .unset, .unset, .unset, .unset, .unset] [(.ref b1), (.ref b1)]))
  refine own_fs (XS.bipush X179.here hx rfl (hb hby at_305) (Steps.refl _)) ?_
  show own_G p.tables e below _ (T179.setTop (mkF m 307 #[.val (.int x0), .val (.int x1), .val (.int x2), .val (.int x3), .val (.int x4), .val (.int x5), .unset, .unset, .unset, .unset, .unset, .unset, .unset, .unset, .unset] [(.int (51 : Int32)), (.ref b1), (.ref b1)]))
  refine own_fs (XS.bipush X179.here hx rfl (hb hby at_307) (Steps.refl _)) ?_
  show own_G p.tables e below _ (T179.setTop (mkF m 309 #[.val (.int x0), .val (.int x1), .val (.int x2), .val (.int x3), .val (.int x4), .val (.int x5), .unset, .unset, .unset, .unset, .unset, .unset, .unset, .unset, .unset] [(.int (97 : Int32)), (.int (51 : Int32)), (.ref b1), (.ref b1)]))
  obtain ⟨cl181, Ar181, q181, S181, O181, H181, G181⟩ := (id V179)
  obtain ⟨T182, h182, X182, e182, W182, st182⟩ := stB X179 hx hZ e179 Ar181 (j := (51 : Int32)) (inb_of S181 ⟨by decide, by decide⟩) (g := (mkF m 309 #[.val (.int x0), .val (.int x1), .val (.int x2), .val (.int x3), .val (.int x4), .val (.int x5), .unset, .unset, .unset, .unset, .unset, .unset, .unset, .unset, .unset] [(.int (97 : Int32)), (.int (51 : Int32)), (.ref b1), (.ref b1)])) rfl rfl (hb hby at_309)
  refine own_fs (st182 _ (Steps.refl _)) ?_
  have V182 : Arv Z h182 b1 k1 .byte (68 : Int32) (own_fill 52) (.int (0 : Int32)) := own_fillS 51 (by decide) ▸ Arv.set Ar181 q181 S181 O181 H181 G181 (v := .int (97 : Int32)) (by decide) W182 51 rfl (by rw [own_fill_len _ (by decide)]; decide)
  have N182 := Fr.snoc X182 N179 ge_b1
  have Zb183 : n0 ≤ h182.size := (Nat.le_trans Zb180 (Keep.of_wr W182).1)
  have Sb183_0 := (Sta.wr W182 Sb180_0)
  have Sb183_1 := (Arr.other W182 Sb180_1 ne_tb)
  show own_G p.tables e below _ (T182.setTop (mkF m 310 #[.val (.int x0), .val (.int x1), .val (.int x2), .val (.int x3), .val (.int x4), .val (.int x5), .unset, .unset, .unset, .unset, .unset, .unset, .unset, .unset, .unset] [(.ref b1)]))
  refine own_fs (XS.dup X182.here hx rfl (hb hby at_310) rfl rfl (Steps.refl _)) ?_
  show own_G p.tables e below _ (T182.setTop (mkF m 311 #[.val (.int x0), .val (.int x1), .val (.int x2), .val (.int x3), .val (.int x4), .val (.int x5), .unset, .unset, .unset, .unset, .unset, .unset, .unset, .unset, .unset] [(.ref b1), (.ref b1)]))
  refine own_fs (XS.bipush X182.here hx rfl (hb hby at_311) (Steps.refl _)) ?_
  show own_G p.tables e below _ (T182.setTop (mkF m 313 #[.val (.int x0), .val (.int x1), .val (.int x2), .val (.int x3), .val (.int x4), .val (.int x5), .unset, .unset, .unset, .unset, .unset, .unset, .unset, .unset, .unset] [(.int (52 : Int32)), (.ref b1), (.ref b1)]))
  refine own_fs (XS.bipush X182.here hx rfl (hb hby at_313) (Steps.refl _)) ?_
  show own_G p.tables e below _ (T182.setTop (mkF m 315 #[.val (.int x0), .val (.int x1), .val (.int x2), .val (.int x3), .val (.int x4), .val (.int x5), .unset, .unset, .unset, .unset, .unset, .unset, .unset, .unset, .unset] [(.int (97 : Int32)), (.int (52 : Int32)), (.ref b1), (.ref b1)]))
  obtain ⟨cl184, Ar184, q184, S184, O184, H184, G184⟩ := (id V182)
  obtain ⟨T185, h185, X185, e185, W185, st185⟩ := stB X182 hx hZ e182 Ar184 (j := (52 : Int32)) (inb_of S184 ⟨by decide, by decide⟩) (g := (mkF m 315 #[.val (.int x0), .val (.int x1), .val (.int x2), .val (.int x3), .val (.int x4), .val (.int x5), .unset, .unset, .unset, .unset, .unset, .unset, .unset, .unset, .unset] [(.int (97 : Int32)), (.int (52 : Int32)), (.ref b1), (.ref b1)])) rfl rfl (hb hby at_315)
  refine own_fs (st185 _ (Steps.refl _)) ?_
  have V185 : Arv Z h185 b1 k1 .byte (68 : Int32) (own_fill 53) (.int (0 : Int32)) := own_fillS 52 (by decide) ▸ Arv.set Ar184 q184 S184 O184 H184 G184 (v := .int (97 : Int32)) (by decide) W185 52 rfl (by rw [own_fill_len _ (by decide)]; decide)
  have N185 := Fr.snoc X185 N182 ge_b1
  have Zb186 : n0 ≤ h185.size := (Nat.le_trans Zb183 (Keep.of_wr W185).1)
  have Sb186_0 := (Sta.wr W185 Sb183_0)
  have Sb186_1 := (Arr.other W185 Sb183_1 ne_tb)
  show own_G p.tables e below _ (T185.setTop (mkF m 316 #[.val (.int x0), .val (.int x1), .val (.int x2), .val (.int x3), .val (.int x4), .val (.int x5), .unset, .unset, .unset, .unset, .unset, .unset, .unset, .unset, .unset] [(.ref b1)]))
  refine own_fs (XS.dup X185.here hx rfl (hb hby at_316) rfl rfl (Steps.refl _)) ?_
  show own_G p.tables e below _ (T185.setTop (mkF m 317 #[.val (.int x0), .val (.int x1), .val (.int x2), .val (.int x3), .val (.int x4), .val (.int x5), .unset, .unset, .unset, .unset, .unset, .unset, .unset, .unset, .unset] [(.ref b1), (.ref b1)]))
  refine own_fs (XS.bipush X185.here hx rfl (hb hby at_317) (Steps.refl _)) ?_
  show own_G p.tables e below _ (T185.setTop (mkF m 319 #[.val (.int x0), .val (.int x1), .val (.int x2), .val (.int x3), .val (.int x4), .val (.int x5), .unset, .unset, .unset, .unset, .unset, .unset, .unset, .unset, .unset] [(.int (53 : Int32)), (.ref b1), (.ref b1)]))
  refine own_fs (XS.bipush X185.here hx rfl (hb hby at_319) (Steps.refl _)) ?_
  show own_G p.tables e below _ (T185.setTop (mkF m 321 #[.val (.int x0), .val (.int x1), .val (.int x2), .val (.int x3), .val (.int x4), .val (.int x5), .unset, .unset, .unset, .unset, .unset, .unset, .unset, .unset, .unset] [(.int (97 : Int32)), (.int (53 : Int32)), (.ref b1), (.ref b1)]))
  obtain ⟨cl187, Ar187, q187, S187, O187, H187, G187⟩ := (id V185)
  obtain ⟨T188, h188, X188, e188, W188, st188⟩ := stB X185 hx hZ e185 Ar187 (j := (53 : Int32)) (inb_of S187 ⟨by decide, by decide⟩) (g := (mkF m 321 #[.val (.int x0), .val (.int x1), .val (.int x2), .val (.int x3), .val (.int x4), .val (.int x5), .unset, .unset, .unset, .unset, .unset, .unset, .unset, .unset, .unset] [(.int (97 : Int32)), (.int (53 : Int32)), (.ref b1), (.ref b1)])) rfl rfl (hb hby at_321)
  refine own_fs (st188 _ (Steps.refl _)) ?_
  have V188 : Arv Z h188 b1 k1 .byte (68 : Int32) (own_fill 54) (.int (0 : Int32)) := own_fillS 53 (by decide) ▸ Arv.set Ar187 q187 S187 O187 H187 G187 (v := .int (97 : Int32)) (by decide) W188 53 rfl (by rw [own_fill_len _ (by decide)]; decide)
  have N188 := Fr.snoc X188 N185 ge_b1
  have Zb189 : n0 ≤ h188.size := (Nat.le_trans Zb186 (Keep.of_wr W188).1)
  have Sb189_0 := (Sta.wr W188 Sb186_0)
  have Sb189_1 := (Arr.other W188 Sb186_1 ne_tb)
  show own_G p.tables e below _ (T188.setTop (mkF m 322 #[.val (.int x0), .val (.int x1), .val (.int x2), .val (.int x3), .val (.int x4), .val (.int x5), .unset, .unset, .unset, .unset, .unset, .unset, .unset, .unset, .unset] [(.ref b1)]))
  refine own_fs (XS.dup X188.here hx rfl (hb hby at_322) rfl rfl (Steps.refl _)) ?_
  show own_G p.tables e below _ (T188.setTop (mkF m 323 #[.val (.int x0), .val (.int x1), .val (.int x2), .val (.int x3), .val (.int x4), .val (.int x5), .unset, .unset, .unset, .unset, .unset, .unset, .unset, .unset, .unset] [(.ref b1), (.ref b1)]))
  refine own_fs (XS.bipush X188.here hx rfl (hb hby at_323) (Steps.refl _)) ?_
  show own_G p.tables e below _ (T188.setTop (mkF m 325 #[.val (.int x0), .val (.int x1), .val (.int x2), .val (.int x3), .val (.int x4), .val (.int x5), .unset, .unset, .unset, .unset, .unset, .unset, .unset, .unset, .unset] [(.int (54 : Int32)), (.ref b1), (.ref b1)]))
  refine own_fs (XS.bipush X188.here hx rfl (hb hby at_325) (Steps.refl _)) ?_
  show own_G p.tables e below _ (T188.setTop (mkF m 327 #[.val (.int x0), .val (.int x1), .val (.int x2), .val (.int x3), .val (.int x4), .val (.int x5), .unset, .unset, .unset, .unset, .unset, .unset, .unset, .unset, .unset] [(.int (97 : Int32)), (.int (54 : Int32)), (.ref b1), (.ref b1)]))
  obtain ⟨cl190, Ar190, q190, S190, O190, H190, G190⟩ := (id V188)
  obtain ⟨T191, h191, X191, e191, W191, st191⟩ := stB X188 hx hZ e188 Ar190 (j := (54 : Int32)) (inb_of S190 ⟨by decide, by decide⟩) (g := (mkF m 327 #[.val (.int x0), .val (.int x1), .val (.int x2), .val (.int x3), .val (.int x4), .val (.int x5), .unset, .unset, .unset, .unset, .unset, .unset, .unset, .unset, .unset] [(.int (97 : Int32)), (.int (54 : Int32)), (.ref b1), (.ref b1)])) rfl rfl (hb hby at_327)
  refine own_fs (st191 _ (Steps.refl _)) ?_
  have V191 : Arv Z h191 b1 k1 .byte (68 : Int32) (own_fill 55) (.int (0 : Int32)) := own_fillS 54 (by decide) ▸ Arv.set Ar190 q190 S190 O190 H190 G190 (v := .int (97 : Int32)) (by decide) W191 54 rfl (by rw [own_fill_len _ (by decide)]; decide)
  have N191 := Fr.snoc X191 N188 ge_b1
  have Zb192 : n0 ≤ h191.size := (Nat.le_trans Zb189 (Keep.of_wr W191).1)
  have Sb192_0 := (Sta.wr W191 Sb189_0)
  have Sb192_1 := (Arr.other W191 Sb189_1 ne_tb)
  show own_G p.tables e below _ (T191.setTop (mkF m 328 #[.val (.int x0), .val (.int x1), .val (.int x2), .val (.int x3), .val (.int x4), .val (.int x5), .unset, .unset, .unset, .unset, .unset, .unset, .unset, .unset, .unset] [(.ref b1)]))
  refine own_fs (XS.dup X191.here hx rfl (hb hby at_328) rfl rfl (Steps.refl _)) ?_
  show own_G p.tables e below _ (T191.setTop (mkF m 329 #[.val (.int x0), .val (.int x1), .val (.int x2), .val (.int x3), .val (.int x4), .val (.int x5), .unset, .unset, .unset, .unset, .unset, .unset, .unset, .unset, .unset] [(.ref b1), (.ref b1)]))
  refine own_fs (XS.bipush X191.here hx rfl (hb hby at_329) (Steps.refl _)) ?_
  show own_G p.tables e below _ (T191.setTop (mkF m 331 #[.val (.int x0), .val (.int x1), .val (.int x2), .val (.int x3), .val (.int x4), .val (.int x5), .unset, .unset, .unset, .unset, .unset, .unset, .unset, .unset, .unset] [(.int (55 : Int32)), (.ref b1), (.ref b1)]))
  refine own_fs (XS.bipush X191.here hx rfl (hb hby at_331) (Steps.refl _)) ?_
  show own_G p.tables e below _ (T191.setTop (mkF m 333 #[.val (.int x0), .val (.int x1), .val (.int x2), .val (.int x3), .val (.int x4), .val (.int x5), .unset, .unset, .unset, .unset, .unset, .unset, .unset, .unset, .unset] [(.int (97 : Int32)), (.int (55 : Int32)), (.ref b1), (.ref b1)]))
  obtain ⟨cl193, Ar193, q193, S193, O193, H193, G193⟩ := (id V191)
  obtain ⟨T194, h194, X194, e194, W194, st194⟩ := stB X191 hx hZ e191 Ar193 (j := (55 : Int32)) (inb_of S193 ⟨by decide, by decide⟩) (g := (mkF m 333 #[.val (.int x0), .val (.int x1), .val (.int x2), .val (.int x3), .val (.int x4), .val (.int x5), .unset, .unset, .unset, .unset, .unset, .unset, .unset, .unset, .unset] [(.int (97 : Int32)), (.int (55 : Int32)), (.ref b1), (.ref b1)])) rfl rfl (hb hby at_333)
  refine own_fs (st194 _ (Steps.refl _)) ?_
  have V194 : Arv Z h194 b1 k1 .byte (68 : Int32) (own_fill 56) (.int (0 : Int32)) := own_fillS 55 (by decide) ▸ Arv.set Ar193 q193 S193 O193 H193 G193 (v := .int (97 : Int32)) (by decide) W194 55 rfl (by rw [own_fill_len _ (by decide)]; decide)
  have N194 := Fr.snoc X194 N191 ge_b1
  have Zb195 : n0 ≤ h194.size := (Nat.le_trans Zb192 (Keep.of_wr W194).1)
  have Sb195_0 := (Sta.wr W194 Sb192_0)
  have Sb195_1 := (Arr.other W194 Sb192_1 ne_tb)
  show own_G p.tables e below _ (T194.setTop (mkF m 334 #[.val (.int x0), .val (.int x1), .val (.int x2), .val (.int x3), .val (.int x4), .val (.int x5), .unset, .unset, .unset, .unset, .unset, .unset, .unset, .unset, .unset] [(.ref b1)]))
  refine own_fs (XS.dup X194.here hx rfl (hb hby at_334) rfl rfl (Steps.refl _)) ?_
  show own_G p.tables e below _ (T194.setTop (mkF m 335 #[.val (.int x0), .val (.int x1), .val (.int x2), .val (.int x3), .val (.int x4), .val (.int x5), .unset, .unset, .unset, .unset, .unset, .unset, .unset, .unset, .unset] [(.ref b1), (.ref b1)]))
  refine own_fs (XS.bipush X194.here hx rfl (hb hby at_335) (Steps.refl _)) ?_
  show own_G p.tables e below _ (T194.setTop (mkF m 337 #[.val (.int x0), .val (.int x1), .val (.int x2), .val (.int x3), .val (.int x4), .val (.int x5), .unset, .unset, .unset, .unset, .unset, .unset, .unset, .unset, .unset] [(.int (56 : Int32)), (.ref b1), (.ref b1)]))
  refine own_fs (XS.bipush X194.here hx rfl (hb hby at_337) (Steps.refl _)) ?_
  show own_G p.tables e below _ (T194.setTop (mkF m 339 #[.val (.int x0), .val (.int x1), .val (.int x2), .val (.int x3), .val (.int x4), .val (.int x5), .unset, .unset, .unset, .unset, .unset, .unset, .unset, .unset, .unset] [(.int (97 : Int32)), (.int (56 : Int32)), (.ref b1), (.ref b1)]))
  obtain ⟨cl196, Ar196, q196, S196, O196, H196, G196⟩ := (id V194)
  obtain ⟨T197, h197, X197, e197, W197, st197⟩ := stB X194 hx hZ e194 Ar196 (j := (56 : Int32)) (inb_of S196 ⟨by decide, by decide⟩) (g := (mkF m 339 #[.val (.int x0), .val (.int x1), .val (.int x2), .val (.int x3), .val (.int x4), .val (.int x5), .unset, .unset, .unset, .unset, .unset, .unset, .unset, .unset, .unset] [(.int (97 : Int32)), (.int (56 : Int32)), (.ref b1), (.ref b1)])) rfl rfl (hb hby at_339)
  refine own_fs (st197 _ (Steps.refl _)) ?_
  have V197 : Arv Z h197 b1 k1 .byte (68 : Int32) (own_fill 57) (.int (0 : Int32)) := own_fillS 56 (by decide) ▸ Arv.set Ar196 q196 S196 O196 H196 G196 (v := .int (97 : Int32)) (by decide) W197 56 rfl (by rw [own_fill_len _ (by decide)]; decide)
  have N197 := Fr.snoc X197 N194 ge_b1
  have Zb198 : n0 ≤ h197.size := (Nat.le_trans Zb195 (Keep.of_wr W197).1)
  have Sb198_0 := (Sta.wr W197 Sb195_0)
  have Sb198_1 := (Arr.other W197 Sb195_1 ne_tb)
  show own_G p.tables e below _ (T197.setTop (mkF m 340 #[.val (.int x0), .val (.int x1), .val (.int x2), .val (.int x3), .val (.int x4), .val (.int x5), .unset, .unset, .unset, .unset, .unset, .unset, .unset, .unset, .unset] [(.ref b1)]))
  refine own_fs (XS.dup X197.here hx rfl (hb hby at_340) rfl rfl (Steps.refl _)) ?_
  show own_G p.tables e below _ (T197.setTop (mkF m 341 #[.val (.int x0), .val (.int x1), .val (.int x2), .val (.int x3), .val (.int x4), .val (.int x5), .unset, .unset, .unset, .unset, .unset, .unset, .unset, .unset, .unset] [(.ref b1), (.ref b1)]))
  refine own_fs (XS.bipush X197.here hx rfl (hb hby at_341) (Steps.refl _)) ?_
  show own_G p.tables e below _ (T197.setTop (mkF m 343 #[.val (.int x0), .val (.int x1), .val (.int x2), .val (.int x3), .val (.int x4), .val (.int x5), .unset, .unset, .unset, .unset, .unset, .unset, .unset, .unset, .unset] [(.int (57 : Int32)), (.ref b1), (.ref b1)]))
  refine own_fs (XS.bipush X197.here hx rfl (hb hby at_343) (Steps.refl _)) ?_
  show own_G p.tables e below _ (T197.setTop (mkF m 345 #[.val (.int x0), .val (.int x1), .val (.int x2), .val (.int x3), .val (.int x4), .val (.int x5), .unset, .unset, .unset, .unset, .unset, .unset, .unset, .unset, .unset] [(.int (97 : Int32)), (.int (57 : Int32)), (.ref b1), (.ref b1)]))
  obtain ⟨cl199, Ar199, q199, S199, O199, H199, G199⟩ := (id V197)
  obtain ⟨T200, h200, X200, e200, W200, st200⟩ := stB X197 hx hZ e197 Ar199 (j := (57 : Int32)) (inb_of S199 ⟨by decide, by decide⟩) (g := (mkF m 345 #[.val (.int x0), .val (.int x1), .val (.int x2), .val (.int x3), .val (.int x4), .val (.int x5), .unset, .unset, .unset, .unset, .unset, .unset, .unset, .unset, .unset] [(.int (97 : Int32)), (.int (57 : Int32)), (.ref b1), (.ref b1)])) rfl rfl (hb hby at_345)
  refine own_fs (st200 _ (Steps.refl _)) ?_
  have V200 : Arv Z h200 b1 k1 .byte (68 : Int32) (own_fill 58) (.int (0 : Int32)) := own_fillS 57 (by decide) ▸ Arv.set Ar199 q199 S199 O199 H199 G199 (v := .int (97 : Int32)) (by decide) W200 57 rfl (by rw [own_fill_len _ (by decide)]; decide)
  have N200 := Fr.snoc X200 N197 ge_b1
  have Zb201 : n0 ≤ h200.size := (Nat.le_trans Zb198 (Keep.of_wr W200).1)
  have Sb201_0 := (Sta.wr W200 Sb198_0)
  have Sb201_1 := (Arr.other W200 Sb198_1 ne_tb)
  show own_G p.tables e below _ (T200.setTop (mkF m 346 #[.val (.int x0), .val (.int x1), .val (.int x2), .val (.int x3), .val (.int x4), .val (.int x5), .unset, .unset, .unset, .unset, .unset, .unset, .unset, .unset, .unset] [(.ref b1)]))
  refine own_fs (XS.dup X200.here hx rfl (hb hby at_346) rfl rfl (Steps.refl _)) ?_
  show own_G p.tables e below _ (T200.setTop (mkF m 347 #[.val (.int x0), .val (.int x1), .val (.int x2), .val (.int x3), .val (.int x4), .val (.int x5), .unset, .unset, .unset, .unset, .unset, .unset, .unset, .unset, .unset] [(.ref b1), (.ref b1)]))
  refine own_fs (XS.bipush X200.here hx rfl (hb hby at_347) (Steps.refl _)) ?_
  show own_G p.tables e below _ (T200.setTop (mkF m 349 #[.val (.int x0), .val (.int x1), .val (.int x2), .val (.int x3), .val (.int x4), .val (.int x5), .unset, .unset, .unset, .unset, .unset, .unset, .unset, .unset, .unset] [(.int (58 : Int32)), (.ref b1), (.ref b1)]))
  refine own_fs (XS.bipush X200.here hx rfl (hb hby at_349) (Steps.refl _)) ?_
  show own_G p.tables e below _ (T200.setTop (mkF m 351 #[.val (.int x0), .val (.int x1), .val (.int x2), .val (.int x3), .val (.int x4), .val (.int x5), .unset, .unset, .unset, .unset, .unset, .unset, .unset, .unset, .unset] [(.int (97 : Int32)), (.int (58 : Int32)), (.ref b1), (.ref b1)]))
  obtain ⟨cl202, Ar202, q202, S202, O202, H202, G202⟩ := (id V200)
  obtain ⟨T203, h203, X203, e203, W203, st203⟩ := stB X200 hx hZ e200 Ar202 (j := (58 : Int32)) (inb_of S202 ⟨by decide, by decide⟩) (g := (mkF m 351 #[.val (.int x0), .val (.int x1), .val (.int x2), .val (.int x3), .val (.int x4), .val (.int x5), .unset, .unset, .unset, .unset, .unset, .unset, .unset, .unset, .unset] [(.int (97 : Int32)), (.int (58 : Int32)), (.ref b1), (.ref b1)])) rfl rfl (hb hby at_351)
  refine own_fs (st203 _ (Steps.refl _)) ?_
  have V203 : Arv Z h203 b1 k1 .byte (68 : Int32) (own_fill 59) (.int (0 : Int32)) := own_fillS 58 (by decide) ▸ Arv.set Ar202 q202 S202 O202 H202 G202 (v := .int (97 : Int32)) (by decide) W203 58 rfl (by rw [own_fill_len _ (by decide)]; decide)
  have N203 := Fr.snoc X203 N200 ge_b1
  have Zb204 : n0 ≤ h203.size := (Nat.le_trans Zb201 (Keep.of_wr W203).1)
  have Sb204_0 := (Sta.wr W203 Sb201_0)
  have Sb204_1 := (Arr.other W203 Sb201_1 ne_tb)
  show own_G p.tables e below _ (T203.setTop (mkF m 352 #[.val (.int x0), .val (.int x1), .val (.int x2), .val (.int x3), .val (.int x4), .val (.int x5), .unset, .unset, .unset, .unset, .unset, .unset, .unset, .unset, .unset] [(.ref b1)]))
  refine own_fs (XS.dup X203.here hx rfl (hb hby at_352) rfl rfl (Steps.refl _)) ?_
  show own_G p.tables e below _ (T203.setTop (mkF m 353 #[.val (.int x0), .val (.int x1), .val (.int x2), .val (.int x3), .val (.int x4), .val (.int x5), .unset, .unset, .unset, .unset, .unset, .unset, .unset, .unset, .unset] [(.ref b1), (.ref b1)]))
  refine own_fs (XS.bipush X203.here hx rfl (hb hby at_353) (Steps.refl _)) ?_
  show own_G p.tables e below _ (T203.setTop (mkF m 355 #[.val (.int x0), .val (.int x1), .val (.int x2), .val (.int x3), .val (.int x4), .val (.int x5), .unset, .unset, .unset, .unset, .unset, .unset, .unset, .unset, .unset] [(.int (59 : Int32)), (.ref b1), (.ref b1)]))
  refine own_fs (XS.bipush X203.here hx rfl (hb hby at_355) (Steps.refl _)) ?_
  show own_G p.tables e below _ (T203.setTop (mkF m 357 #[.val (.int x0), .val (.int x1), .val (.int x2), .val (.int x3), .val (.int x4), .val (.int x5), .unset, .unset, .unset, .unset, .unset, .unset, .unset, .unset, .unset] [(.int (97 : Int32)), (.int (59 : Int32)), (.ref b1), (.ref b1)]))
  obtain ⟨cl205, Ar205, q205, S205, O205, H205, G205⟩ := (id V203)
  obtain ⟨T206, h206, X206, e206, W206, st206⟩ := stB X203 hx hZ e203 Ar205 (j := (59 : Int32)) (inb_of S205 ⟨by decide, by decide⟩) (g := (mkF m 357 #[.val (.int x0), .val (.int x1), .val (.int x2), .val (.int x3), .val (.int x4), .val (.int x5), .unset, .unset, .unset, .unset, .unset, .unset, .unset, .unset, .unset] [(.int (97 : Int32)), (.int (59 : Int32)), (.ref b1), (.ref b1)])) rfl rfl (hb hby at_357)
  refine own_fs (st206 _ (Steps.refl _)) ?_
  have V206 : Arv Z h206 b1 k1 .byte (68 : Int32) (own_fill 60) (.int (0 : Int32)) := own_fillS 59 (by decide) ▸ Arv.set Ar205 q205 S205 O205 H205 G205 (v := .int (97 : Int32)) (by decide) W206 59 rfl (by rw [own_fill_len _ (by decide)]; decide)
  have N206 := Fr.snoc X206 N203 ge_b1
  have Zb207 : n0 ≤ h206.size := (Nat.le_trans Zb204 (Keep.of_wr W206).1)
  have Sb207_0 := (Sta.wr W206 Sb204_0)
  have Sb207_1 := (Arr.other W206 Sb204_1 ne_tb)
  show own_G p.tables e below _ (T206.setTop (mkF m 358 #[.val (.int x0), .val (.int x1), .val (.int x2), .val (.int x3), .val (.int x4), .val (.int x5), .unset, .unset, .unset, .unset, .unset, .unset, .unset, .unset, .unset] [(.ref b1)]))
  refine own_fs (XS.dup X206.here hx rfl (hb hby at_358) rfl rfl (Steps.refl _)) ?_
  show own_G p.tables e below _ (T206.setTop (mkF m 359 #[.val (.int x0), .val (.int x1), .val (.int x2), .val (.int x3), .val (.int x4), .val (.int x5), .unset, .unset, .unset, .unset, .unset, .unset, .unset, .unset, .unset] [(.ref b1), (.ref b1)]))
  refine own_fs (XS.bipush X206.here hx rfl (hb hby at_359) (Steps.refl _)) ?_
  show own_G p.tables e below _ (T206.setTop (mkF m 361 #[.val (.int x0), .val (.int x1), .val (.int x2), .val (.int x3), .val (.int x4), .val (.int x5), .unset, .unset, .unset, .unset, .unset, .unset, .unset, .unset, .unset] [(.int (60 : Int32)), (.ref b1), (.ref b1)]))
  refine own_fs (XS.bipush X206.here hx rfl (hb hby at_361) (Steps.refl _)) ?_
  show own_G p.tables e below _ (T206.setTop (mkF m 363 #[.val (.int x0), .val (.int x1), .val (.int x2), .val (.int x3), .val (.int x4), .val (.int x5), .unset, .unset, .unset, .unset, .unset, .unset, .unset, .unset, .unset] [(.int (97 : Int32)), (.int (60 : Int32)), (.ref b1), (.ref b1)]))
  obtain ⟨cl208, Ar208, q208, S208, O208, H208, G208⟩ := (id V206)
  obtain ⟨T209, h209, X209, e209, W209, st209⟩ := stB X206 hx hZ e206 Ar208 (j := (60 : Int32)) (inb_of S208 ⟨by decide, by decide⟩) (g := (mkF m 363 #[.val (.int x0), .val (.int x1), .val (.int x2), .val (.int x3), .val (.int x4), .val (.int x5), .unset, .unset, .unset, .unset, .unset, .unset, .unset, .unset, .unset] [(.int (97 : Int32)), (.int (60 : Int32)), (.ref b1), (.ref b1)])) rfl rfl (hb hby at_363)
  refine own_fs (st209 _ (Steps.refl _)) ?_
  have V209 : Arv Z h209 b1 k1 .byte (68 : Int32) (own_fill 61) (.int (0 : Int32)) := own_fillS 60 (by decide) ▸ Arv.set Ar208 q208 S208 O208 H208 G208 (v := .int (97 : Int32)) (by decide) W209 60 rfl (by rw [own_fill_len _ (by decide)]; decide)
  have N209 := Fr.snoc X209 N206 ge_b1
  have Zb210 : n0 ≤ h209.size := (Nat.le_trans Zb207 (Keep.of_wr W209).1)
  have Sb210_0 := (Sta.wr W209 Sb207_0)
  have Sb210_1 := (Arr.other W209 Sb207_1 ne_tb)
  show own_G p.tables e below _ (T209.setTop (mkF m 364 #[.val (.int x0), .val (.int x1), .val (.int x2), .val (.int x3), .val (.int x4), .val (.int x5), .unset, .unset, .unset, .unset, .unset, .unset, .unset, .unset, .unset] [(.ref b1)]))
  refine own_fs (XS.dup X209.here hx rfl (hb hby at_364) rfl rfl (Steps.refl _)) ?_
  show own_G p.tables e below _ (T209.setTop (mkF m 365 #[.val (.int x0), .val (.int x1), .val (.int x2), .val (.int x3), .val (.int x4), .val (.int x5), .unset, .unset, .unset, .unset, .unset, .unset, .unset, .unset, .unset] [(.ref b1), (.ref b1)]))
  refine own_fs (XS.bipush X209.here hx rfl (hb hby at_365) (Steps.refl _)) ?_
  show own_G p.tables e below _ (T209.setTop (mkF m 367 #[.val (.int x0), .val (.int x1), .val (.int x2), .val (.int x3), .val (.int x4), .val (.int x5), .unset, .unset, .unset, .unset, .unset, .unset, .unset, .unset, .unset] [(.int (61 : Int32)), (.ref b1), (.ref b1)]))
  refine own_fs (XS.bipush X209.here hx rfl (hb hby at_367) (Steps.refl _)) ?_
  show own_G p.tables e below _ (T209.setTop (mkF m 369 #[.val (.int x0), .val (.int x1), .val (.int x2), .val (.int x3), .val (.int x4), .val (.int x5), .unset, .unset, .unset, .unset, .unset, .unset, .unset, .unset, .unset] [(.int (97 : Int32)), (.int (61 : Int32)), (.ref b1), (.ref b1)]))
  obtain ⟨cl211, Ar211, q211, S211, O211, H211, G211⟩ := (id V209)
  obtain ⟨T212, h212, X212, e212, W212, st212⟩ := stB X209 hx hZ e209 Ar211 (j := (61 : Int32)) (inb_of S211 ⟨by decide, by decide⟩) (g := (mkF m 369 #[.val (.int x0), .val (.int x1), .val (.int x2), .val (.int x3), .val (.int x4), .val (.int x5), .unset, .unset, .unset, .unset, .unset, .unset, .unset, .unset, .unset] [(.int (97 : Int32)), (.int (61 : Int32)), (.ref b1), (.ref b1)])) rfl rfl (hb hby at_369)
  refine own_fs (st212 _ (Steps.refl _)) ?_
  have V212 : Arv Z h212 b1 k1 .byte (68 : Int32) (own_fill 62) (.int (0 : Int32)) := own_fillS 61 (by decide) ▸ Arv.set Ar211 q211 S211 O211 H211 G211 (v := .int (97 : Int32)) (by decide) W212 61 rfl (by rw [own_fill_len _ (by decide)]; decide)
  have N212 := Fr.snoc X212 N209 ge_b1
  have Zb213 : n0 ≤ h212.size := (Nat.le_trans Zb210 (Keep.of_wr W212).1)
  have Sb213_0 := (Sta.wr W212 Sb210_0)
  have Sb213_1 := (Arr.other W212 Sb210_1 ne_tb)
  show own_G p.tables e below _ (T212.setTop (mkF m 370 #[.val (.int x0), .val (.int x1), .val (.int x2), .val (.int x3), .val (.int x4), .val (.int x5), .unset, .unset, .unset, .unset, .unset, .unset, .unset, .unset, .unset] [(.ref b1)]))
  refine own_fs (XS.dup X212.here hx rfl (hb hby at_370) rfl rfl (Steps.refl _)) ?_
  show own_G p.tables e below _ (T212.setTop (mkF m 371 #[.val (.int x0), .val (.int x1), .val (.int x2), .val (.int x3), .val (.int x4), .val (.int x5), .unset, .unset, .unset, .unset, .unset, .unset, .unset, .unset, .unset] [(.ref b1), (.ref b1)]))
  refine own_fs (XS.bipush X212.here hx rfl (hb hby at_371) (Steps.refl _)) ?_
  show own_G p.tables e below _ (T212.setTop (mkF m 373 #[.val (.int x0), .val (.int x1), .val (.int x2), .val (.int x3), .val (.int x4), .val (.int x5), .unset, .unset, .unset, .unset, .unset, .unset, .unset, .unset, .unset] [(.int (62 : Int32)), (.ref b1), (.ref b1)]))
  refine own_fs (XS.bipush X212.here hx rfl (hb hby at_373) (Steps.refl _)) ?_
  show own_G p.tables e below _ (T212.setTop (mkF m 375 #[.val (.int x0), .val (.int x1), .val (.int x2), .val (.int x3), .val (.int x4), .val (.int x5), .unset, .unset, .unset, .unset, .unset, .unset, .unset, .unset, .unset] [(.int (97 : Int32)), (.int (62 : Int32)), (.ref b1), (.ref b1)]))
  obtain ⟨cl214, Ar214, q214, S214, O214, H214, G214⟩ := (id V212)
  obtain ⟨T215, h215, X215, e215, W215, st215⟩ := stB X212 hx hZ e212 Ar214 (j := (62 : Int32)) (inb_of S214 ⟨by decide, by decide⟩) (g := (mkF m 375 #[.val (.int x0), .val (.int x1), .val (.int x2), .val (.int x3), .val (.int x4), .val (.int x5), .unset, .unset, .unset, .unset, .unset, .unset, .unset, .unset, .unset] [(.int (97 : Int32)), (.int (62 : Int32)), (.ref b1), (.ref b1)])) rfl rfl (hb hby at_375)
  refine own_fs (st215 _ (Steps.refl _)) ?_
  have V215 : Arv Z h215 b1 k1 .byte (68 : Int32) (own_fill 63) (.int (0 : Int32)) := own_fillS 62 (by decide) ▸ Arv.set Ar214 q214 S214 O214 H214 G214 (v := .int (97 : Int32)) (by decide) W215 62 rfl (by rw [own_fill_len _ (by decide)]; decide)
  have N215 := Fr.snoc X215 N212 ge_b1
  have Zb216 : n0 ≤ h215.size := (Nat.le_trans Zb213 (Keep.of_wr W215).1)
  have Sb216_0 := (Sta.wr W215 Sb213_0)
  have Sb216_1 := (Arr.other W215 Sb213_1 ne_tb)
  show own_G p.tables e below _ (T215.setTop (mkF m 376 #[.val (.int x0), .val (.int x1), .val (.int x2), .val (.int x3), .val (.int x4), .val (.int x5), .unset, .unset, .unset, .unset, .unset, .unset, .unset, .unset, .unset] [(.ref b1)]))
  refine own_fs (XS.dup X215.here hx rfl (hb hby at_376) rfl rfl (Steps.refl _)) ?_
  show own_G p.tables e below _ (T215.setTop (mkF m 377 #[.val (.int x0), .val (.int x1), .val (.int x2), .val (.int x3), .val (.int x4), .val (.int x5), .unset, .unset, .unset, .unset, .unset, .unset, .unset, .unset, .unset] [(.ref b1), (.ref b1)]))
  refine own_fs (XS.bipush X215.here hx rfl (hb hby at_377) (Steps.refl _)) ?_
  show own_G p.tables e below _ (T215.setTop (mkF m 379 #[.val (.int x0), .val (.int x1), .val (.int x2), .val (.int x3), .val (.int x4), .val (.int x5), .unset, .unset, .unset, .unset, .unset, .unset, .unset, .unset, .unset] [(.int (63 : Int32)), (.ref b1), (.ref b1)]))
  refine own_fs (XS.bipush X215.here hx rfl (hb hby at_379) (Steps.refl _)) ?_
  show own_G p.tables e below _ (T215.setTop (mkF m 381 #[.val (.int x0), .val (.int x1), .val (.int x2), .val (.int x3), .val (.int x4), .val (.int x5), .unset, .unset, .unset, .unset, .unset, .unset, .unset, .unset, .unset] [(.int (97 : Int32)), (.int (63 : Int32)), (.ref b1), (.ref b1)]))
  obtain ⟨cl217, Ar217, q217, S217, O217, H217, G217⟩ := (id V215)
  obtain ⟨T218, h218, X218, e218, W218, st218⟩ := stB X215 hx hZ e215 Ar217 (j := (63 : Int32)) (inb_of S217 ⟨by decide, by decide⟩) (g := (mkF m 381 #[.val (.int x0), .val (.int x1), .val (.int x2), .val (.int x3), .val (.int x4), .val (.int x5), .unset, .unset, .unset, .unset, .unset, .unset, .unset, .unset, .unset] [(.int (97 : Int32)), (.int (63 : Int32)), (.ref b1), (.ref b1)])) rfl rfl (hb hby at_381)
  refine own_fs (st218 _ (Steps.refl _)) ?_
  have V218 : Arv Z h218 b1 k1 .byte (68 : Int32) (own_fill 64) (.int (0 : Int32)) := own_fillS 63 (by decide) ▸ Arv.set Ar217 q217 S217 O217 H217 G217 (v := .int (97 : Int32)) (by decide) W218 63 rfl (by rw [own_fill_len _ (by decide)]; decide)
  have N218 := Fr.snoc X218 N215 ge_b1
  have Zb219 : n0 ≤ h218.size := (Nat.le_trans Zb216 (Keep.of_wr W218).1)
  have Sb219_0 := (Sta.wr W218 Sb216_0)
  have Sb219_1 := (Arr.other W218 Sb216_1 ne_tb)
  show own_G p.tables e below _ (T218.setTop (mkF m 382 #[.val (.int x0), .val (.int x1), .val (.int x2), .val (.int x3), .val (.int x4), .val (.int x5), .unset, .unset, .unset, .unset, .unset, .unset, .unset, .unset, .unset] [(.ref b1)]))
  refine own_fs (XS.dup X218.here hx rfl (hb hby at_382) rfl rfl (Steps.refl _)) ?_
  show own_G p.tables e below _ (T218.setTop (mkF m 383 #[.val (.int x0), .val (.int x1), .val (.int x2), .val (.int x3), .val (.int x4), .val (.int x5), .unset, .unset, .unset, .unset, .unset, .unset, .unset, .unset, .unset] [(.ref b1), (.ref b1)]))
  refine own_fs (XS.bipush X218.here hx rfl (hb hby at_383) (Steps.refl _)) ?_
  show own_G p.tables e below _ (T218.setTop (mkF m 385 #[.val (.int x0), .val (.int x1), .val (.int x2), .val (.int x3), .val (.int x4), .val (.int x5), .unset, .unset, .unset, .unset, .unset, .unset, .unset, .unset, .unset] [(.int (64 : Int32)), (.ref b1), (.ref b1)]))
  refine own_fs (XS.bipush X218.here hx rfl (hb hby at_385) (Steps.refl _)) ?_
  show own_G p.tables e below _ (T218.setTop (mkF m 387 #[.val (.int x0), .val (.int x1), .val (.int x2), .val (.int x3), .val (.int x4), .val (.int x5), .unset, .unset, .unset, .unset, .unset, .unset, .unset, .unset, .unset] [(.int (97 : Int32)), (.int (64 : Int32)), (.ref b1), (.ref b1)]))
  obtain ⟨cl220, Ar220, q220, S220, O220, H220, G220⟩ := (id V218)
  obtain ⟨T221, h221, X221, e221, W221, st221⟩ := stB X218 hx hZ e218 Ar220 (j := (64 : Int32)) (inb_of S220 ⟨by decide, by decide⟩) (g := (mkF m 387 #[.val (.int x0), .val (.int x1), .val (.int x2), .val (.int x3), .val (.int x4), .val (.int x5), .unset, .unset, .unset, .unset, .unset, .unset, .unset, .unset, .unset] [(.int (97 : Int32)), (.int (64 : Int32)), (.ref b1), (.ref b1)])) rfl rfl (hb hby at_387)
  refine own_fs (st221 _ (Steps.refl _)) ?_
  have V221 : Arv Z h221 b1 k1 .byte (68 : Int32) (own_fill 65) (.int (0 : Int32)) := own_fillS 64 (by decide) ▸ Arv.set Ar220 q220 S220 O220 H220 G220 (v := .int (97 : Int32)) (by decide) W221 64 rfl (by rw [own_fill_len _ (by decide)]; decide)
  have N221 := Fr.snoc X221 N218 ge_b1
  have Zb222 : n0 ≤ h221.size := (Nat.le_trans Zb219 (Keep.of_wr W221).1)
  have Sb222_0 := (Sta.wr W221 Sb219_0)
  have Sb222_1 := (Arr.other W221 Sb219_1 ne_tb)
  show own_G p.tables e below _ (T221.setTop (mkF m 388 #[.val (.int x0), .val (.int x1), .val (.int x2), .val (.int x3), .val (.int x4), .val (.int x5), .unset, .unset, .unset, .unset, .unset, .unset, .unset, .unset, .unset] [(.ref b1)]))
  refine own_fs (XS.dup X221.here hx rfl (hb hby at_388) rfl rfl (Steps.refl _)) ?_
  show own_G p.tables e below _ (T221.setTop (mkF m 389 #[.val (.int x0), .val (.int x1), .val (.int x2), .val (.int x3), .val (.int x4), .val (.int x5), .unset, .unset, .unset, .unset, .unset, .unset, .unset, .unset, .unset] [(.ref b1), (.ref b1)]))
  refine own_fs (XS.bipush X221.here hx rfl (hb hby at_389) (Steps.refl _)) ?_
  show own_G p.tables e below _ (T221.setTop (mkF m 391 #[.val (.int x0), .val (.int x1), .val (.int x2), .val (.int x3), .val (.int x4), .val (.int x5), .unset, .unset, .unset, .unset, .unset, .unset, .unset, .unset, .unset] [(.int (65 : Int32)), (.ref b1), (.ref b1)]))
  refine own_fs (XS.bipush X221.here hx rfl (hb hby at_391) (Steps.refl _)) ?_
  show own_G p.tables e below _ (T221.setTop (mkF m 393 #[.val (.int x0), .val (.int x1), .val (.int x2), .val (.int x3), .val (.int x4), .val (.int x5), .unset, .unset, .unset, .unset, .unset, .unset, .unset, .unset, .unset] [(.int (97 : Int32)), (.int (65 : Int32)), (.ref b1), (.ref b1)]))
  obtain ⟨cl223, Ar223, q223, S223, O223, H223, G223⟩ := (id V221)
  obtain ⟨T224, h224, X224, e224, W224, st224⟩ := stB X221 hx hZ e221 Ar223 (j := (65 : Int32)) (inb_of S223 ⟨by decide, by decide⟩) (g := (mkF m 393 #[.val (.int x0), .val (.int x1), .val (.int x2), .val (.int x3), .val (.int x4), .val (.int x5), .unset, .unset, .unset, .unset, .unset, .unset, .unset, .unset, .unset] [(.int (97 : Int32)), (.int (65 : Int32)), (.ref b1), (.ref b1)])) rfl rfl (hb hby at_393)
  refine own_fs (st224 _ (Steps.refl _)) ?_
  have V224 : Arv Z h224 b1 k1 .byte (68 : Int32) (own_fill 66) (.int (0 : Int32)) := own_fillS 65 (by decide) ▸ Arv.set Ar223 q223 S223 O223 H223 G223 (v := .int (97 : Int32)) (by decide) W224 65 rfl (by rw [own_fill_len _ (by decide)]; decide)
  have N224 := Fr.snoc X224 N221 ge_b1
  have Zb225 : n0 ≤ h224.size := (Nat.le_trans Zb222 (Keep.of_wr W224).1)
  have Sb225_0 := (Sta.wr W224 Sb222_0)
  have Sb225_1 := (Arr.other W224 Sb222_1 ne_tb)
  show own_G p.tables e below _ (T224.setTop (mkF m 394 #[.val (.int x0), .val (.int x1), .val (.int x2), .val (.int x3), .val (.int x4), .val (.int x5), .unset, .unset, .unset, .unset, .unset, .unset, .unset, .unset, .unset] [(.ref b1)]))
  refine own_fs (XS.dup X224.here hx rfl (hb hby at_394) rfl rfl (Steps.refl _)) ?_
  show own_G p.tables e below _ (T224.setTop (mkF m 395 #[.val (.int x0), .val (.int x1), .val (.int x2), .val (.int x3), .val (.int x4), .val (.int x5), .unset, .unset, .unset, .unset, .unset, .unset, .unset, .unset, .unset] [(.ref b1), (.ref b1)]))
  refine own_fs (XS.bipush X224.here hx rfl (hb hby at_395) (Steps.refl _)) ?_
  show own_G p.tables e below _ (T224.setTop (mkF m 397 #[.val (.int x0), .val (.int x1), .val (.int x2), .val (.int x3), .val (.int x4), .val (.int x5), .unset, .unset, .unset, .unset, .unset, .unset, .unset, .unset, .unset] [(.int (66 : Int32)), (.ref b1), (.ref b1)]))
  refine own_fs (XS.bipush X224.here hx rfl (hb hby at_397) (Steps.refl _)) ?_
  show own_G p.tables e below _ (T224.setTop (mkF m 399 #[.val (.int x0), .val (.int x1), .val (.int x2), .val (.int x3), .val (.int x4), .val (.int x5), .unset, .unset, .unset, .unset, .unset, .unset, .unset, .unset, .unset] [(.int (97 : Int32)), (.int (66 : Int32)), (.ref b1), (.ref b1)]))
  obtain ⟨cl226, Ar226, q226, S226, O226, H226, G226⟩ := (id V224)
  obtain ⟨T227, h227, X227, e227, W227, st227⟩ := stB X224 hx hZ e224 Ar226 (j := (66 : Int32)) (inb_of S226 ⟨by decide, by decide⟩) (g := (mkF m 399 #[.val (.int x0), .val (.int x1), .val (.int x2), .val (.int x3), .val (.int x4), .val (.int x5), .unset, .unset, .unset, .unset, .unset, .unset, .unset, .unset, .unset] [(.int (97 : Int32)), (.int (66 : Int32)), (.ref b1), (.ref b1)])) rfl rfl (hb hby at_399)
  refine own_fs (st227 _ (Steps.refl _)) ?_
  have V227 : Arv Z h227 b1 k1 .byte (68 : Int32) (own_fill 67) (.int (0 : Int32)) := own_fillS 66 (by decide) ▸ Arv.set Ar226 q226 S226 O226 H226 G226 (v := .int (97 : Int32)) (by decide) W227 66 rfl (by rw [own_fill_len _ (by decide)]; decide)
  have N227 := Fr.snoc X227 N224 ge_b1
  have Zb228 : n0 ≤ h227.size := (Nat.le_trans Zb225 (Keep.of_wr W227).1)
  have Sb228_0 := (Sta.wr W227 Sb225_0)
  have Sb228_1 := (Arr.other W227 Sb225_1 ne_tb)
  show own_G p.tables e below _ (T227.setTop (mkF m 400 #[.val (.int x0), .val (.int x1), .val (.int x2), .val (.int x3), .val (.int x4), .val (.int x5), .unset, .unset, .unset, .unset, .unset, .unset, .unset, .unset, .unset] [(.ref b1)]))
  refine own_fs (XS.dup X227.here hx rfl (hb hby at_400) rfl rfl (Steps.refl _)) ?_
  show own_G p.tables e below _ (T227.setTop (mkF m 401 #[.val (.int x0), .val (.int x1), .val (.int x2), .val (.int x3), .val (.int x4), .val (.int x5), .unset, .unset, .unset, .unset, .unset, .unset, .unset, .unset, .unset] [(.ref b1), (.ref b1)]))
  refine own_fs (XS.bipush X227.here hx rfl (hb hby at_401) (Steps.refl _)) ?_
  show own_G p.tables e below _ (T227.setTop (mkF m 403 #[.val (.int x0), .val (.int x1), .val (.int x2), .val (.int x3), .val (.int x4), .val (.int x5), .unset, .unset, .unset, .unset, .unset, .unset, .unset, .unset, .unset] [(.int (67 : Int32)), (.ref b1), (.ref b1)]))
  refine own_fs (XS.bipush X227.here hx rfl (hb hby at_403) (Steps.refl _)) ?_
  show own_G p.tables e below _ (T227.setTop (mkF m 405 #[.val (.int x0), .val (.int x1), .val (.int x2), .val (.int x3), .val (.int x4), .val (.int x5), .unset, .unset, .unset, .unset, .unset, .unset, .unset, .unset, .unset] [(.int (97 : Int32)), (.int (67 : Int32)), (.ref b1), (.ref b1)]))
  obtain ⟨cl229, Ar229, q229, S229, O229, H229, G229⟩ := (id V227)
  obtain ⟨T230, h230, X230, e230, W230, st230⟩ := stB X227 hx hZ e227 Ar229 (j := (67 : Int32)) (inb_of S229 ⟨by decide, by decide⟩) (g := (mkF m 405 #[.val (.int x0), .val (.int x1), .val (.int x2), .val (.int x3), .val (.int x4), .val (.int x5), .unset, .unset, .unset, .unset, .unset, .unset, .unset, .unset, .unset] [(.int (97 : Int32)), (.int (67 : Int32)), (.ref b1), (.ref b1)])) rfl rfl (hb hby at_405)
  refine own_fs (st230 _ (Steps.refl _)) ?_
  have V230 : Arv Z h230 b1 k1 .byte (68 : Int32) (own_fill 68) (.int (0 : Int32)) := own_fillS 67 (by decide) ▸ Arv.set Ar229 q229 S229 O229 H229 G229 (v := .int (97 : Int32)) (by decide) W230 67 rfl (by rw [own_fill_len _ (by decide)]; decide)
  have N230 := Fr.snoc X230 N227 ge_b1
  have Zb231 : n0 ≤ h230.size := (Nat.le_trans Zb228 (Keep.of_wr W230).1)
  have Sb231_0 := (Sta.wr W230 Sb228_0)
  have Sb231_1 := (Arr.other W230 Sb228_1 ne_tb)
  exact J406 _ _ _ X230 e230 N230 V230 Sb231_0 Sb231_1 Zb231
set_option maxRecDepth 65536 in
set_option maxHeartbeats 40000000 in
theorem comes_1 {Post : Tables → Env → Array Value → State → Outcome → State → Prop} (hpost : ∀ tb e args s v u, (limb_1_1.after args s (.returned v) u = true ∧ limb_1_2.after args s (.returned v) u = true ∧ True) → FrameEnd s (.returned v) u (Jvm.fieldLocs frame_1_writes args s ++ Jvm.arrayLocs frame_1_arrays args s ++ Jvm.staticLocs frame_1_statics s) 16 256 → Post tb e args s (.returned v) u) :
    ArmFor flags0 classFile x code maxLocals ret World_1 tables_1 room_1 Calls_1 rest_1 Pre_1 Post := by
  intro l hfl _ _ p e ha hc hk s m args below hf hA hF happ hP
  obtain ⟨hcalls, hrest, hpre⟩ := hP
  obtain ⟨-, -, -, hnamed, -, -, -, hat⟩ := (Spec.applies_iff hf).mp happ
  obtain ⟨hg, hn⟩ := and_e (Cond.before_iff.mp (show (Jvm.Cond.and given_1 narrow_1).before args s = true from hpre))
  obtain ⟨hcount, hg0⟩ := and_e hg
  obtain ⟨ga0, hg1⟩ := and_e hg0
  obtain ⟨ga1, hg2⟩ := and_e hg1
  obtain ⟨ga2, hg3⟩ := and_e hg2
  obtain ⟨ga3, hg4⟩ := and_e hg3
  obtain ⟨ga4, hg5⟩ := and_e hg4
  obtain ⟨w0, w1, w2, w3, w4, w5, rfl⟩ : ∃ w0 w1 w2 w3 w4 w5 : Value, args = #[w0, w1, w2, w3, w4, w5] := by
    have hs : args.size = 6 := by simpa [Cond.value, given_1] using hcount
    obtain ⟨L⟩ := args
    match L, hs with
    | [w0, w1, w2, w3, w4, w5], _ => exact ⟨w0, w1, w2, w3, w4, w5, rfl⟩
  have hw := fun d (hd : d ∈ tables_1) => atoms_spec (ws := Jvm.Cond.code x code maxLocals ret :: tables_1) hat d (List.mem_cons_of_mem _ hd)
  have hfit : Fit s := fun {y c} hc i hi => by
    obtain ⟨ha, rfl⟩ := Array.getElem?_eq_some_iff.mp hc
    have q := List.all_eq_true.mp ((Array.all_eq_true_iff_forall_mem.mp hF) _ (Array.getElem_mem ha)) i (List.mem_range.mpr hi)
    simpa [Array.getElem?_eq_getElem hi] using q
  obtain ⟨i0, ei0⟩ := is_v ga0
  obtain rfl : w0 = (.int i0) := Option.some.inj ei0
  obtain ⟨i1, ei1⟩ := is_v ga1
  obtain rfl : w1 = (.int i1) := Option.some.inj ei1
  obtain ⟨i2, ei2⟩ := is_v ga2
  obtain rfl : w2 = (.int i2) := Option.some.inj ei2
  obtain ⟨i3, ei3⟩ := is_v ga3
  obtain rfl : w3 = (.int i3) := Option.some.inj ei3
  obtain ⟨i4, ei4⟩ := is_v ga4
  obtain rfl : w4 = (.int i4) := Option.some.inj ei4
  obtain ⟨i5, ei5⟩ := is_v hg5
  obtain rfl : w5 = (.int i5) := Option.some.inj ei5
  obtain ⟨t0, hn⟩ := and_e hn
  obtain ⟨t1, hn⟩ := and_e hn
  obtain ⟨t2, hn⟩ := and_e hn
  obtain ⟨t3, hn⟩ := and_e hn
  obtain ⟨t4, hn⟩ := and_e hn
  obtain ⟨t5, hn⟩ := and_e hn
  obtain ⟨t6, hn⟩ := and_e hn
  obtain ⟨t7, hn⟩ := and_e hn
  obtain ⟨t8, hn⟩ := and_e hn
  obtain ⟨t9, hn⟩ := and_e hn
  obtain ⟨t10, hn⟩ := and_e hn
  obtain ⟨t11, hn⟩ := and_e hn
  obtain ⟨t12, hn⟩ := and_e hn
  have t13 := hn
  obtain ⟨tb, eT⟩ := arr_v t0
  obtain ⟨tc, hTA⟩ := Arr.start eT t0
  have hS : Sta s s.heap "convoke/model/Tokens" "TOKEN_CHARACTERS" "[Z" (.ref tb) := Sta.start eT (Or.inr ⟨(hw _ (List.mem_of_getElem? (i := 4) rfl)), (hw _ (List.mem_of_getElem? (i := 7) rfl))⟩)
  have hL := eqv_i (Term.int_eval 128) t1
  obtain ⟨xq, tc', l1, l2, l4⟩ := Term.length_spec hL
  cases eT.symm.trans l1
  cases (hTA.fin (Vm.Alike.refl _)).symm.trans l2
  have l3 := own_len31 eT (hTA.fin (Vm.Alike.refl _)) hL
  have hsz : tc.slots.size = 128 := by
    have := congrArg Int32.toInt (Value.int.inj l4)
    rw [len_toInt l3, show (128 : Int32).toInt = 128 from by decide] at this
    omega
  have et : ∀ idx, (Jvm.Term.static "convoke/model/Tokens" "TOKEN_CHARACTERS" "[Z").eval #[Value.int i0, Value.int i1, Value.int i2, Value.int i3, Value.int i4, Value.int i5] s none idx s = some (.ref tb) := fun _ => eT
  have hT : own_T tc := by
    refine ⟨hsz, fun k hk => ?_⟩
    rw [own_tct ⟨k, hk⟩]
    show tc.slots[k]? = some (.int (if 48 ≤ k ∧ k < 58 ∨ 65 ≤ k ∧ k < 91 ∨ 97 ≤ k ∧ k < 123 ∨ k = 45 ∨ k = 46 ∨ k = 95 then (1 : Int32) else (0 : Int32)))
    rcases Nat.lt_or_ge k 45 with c0 | c0
    · rw [if_neg (by omega)]
      exact own_tabL hfit et hTA hsz t2 k hk (by rw [show (45 : Int32).toInt = 45 from by decide]; omega)
    rcases Nat.lt_or_ge k 46 with c1 | c1
    · rw [if_pos (by omega)]
      obtain rfl : k = 45 := by omega
      exact own_tab1 eT hTA t3
    rcases Nat.lt_or_ge k 47 with c2 | c2
    · rw [if_pos (by omega)]
      obtain rfl : k = 46 := by omega
      exact own_tab1 eT hTA t4
    rcases Nat.lt_or_ge k 48 with c3 | c3
    · rw [if_neg (by omega)]
      obtain rfl : k = 47 := by omega
      exact own_tab1 eT hTA t5
    rcases Nat.lt_or_ge k 58 with c4 | c4
    · rw [if_pos (by omega)]
      exact own_tab3 hfit et hTA hsz t6 k hk (by rw [show (48 : Int32).toInt = 48 from by decide]; omega) (by rw [show (58 : Int32).toInt = 58 from by decide]; omega)
    rcases Nat.lt_or_ge k 65 with c5 | c5
    · rw [if_neg (by omega)]
      exact own_tab3 hfit et hTA hsz t7 k hk (by rw [show (58 : Int32).toInt = 58 from by decide]; omega) (by rw [show (65 : Int32).toInt = 65 from by decide]; omega)
    rcases Nat.lt_or_ge k 91 with c6 | c6
    · rw [if_pos (by omega)]
      exact own_tab3 hfit et hTA hsz t8 k hk (by rw [show (65 : Int32).toInt = 65 from by decide]; omega) (by rw [show (91 : Int32).toInt = 91 from by decide]; omega)
    rcases Nat.lt_or_ge k 95 with c7 | c7
    · rw [if_neg (by omega)]
      exact own_tab3 hfit et hTA hsz t9 k hk (by rw [show (91 : Int32).toInt = 91 from by decide]; omega) (by rw [show (95 : Int32).toInt = 95 from by decide]; omega)
    rcases Nat.lt_or_ge k 96 with c8 | c8
    · rw [if_pos (by omega)]
      obtain rfl : k = 95 := by omega
      exact own_tab1 eT hTA t10
    rcases Nat.lt_or_ge k 97 with c9 | c9
    · rw [if_neg (by omega)]
      obtain rfl : k = 96 := by omega
      exact own_tab1 eT hTA t11
    rcases Nat.lt_or_ge k 123 with c10 | c10
    · rw [if_pos (by omega)]
      exact own_tab3 hfit et hTA hsz t12 k hk (by rw [show (97 : Int32).toInt = 97 from by decide]; omega) (by rw [show (123 : Int32).toInt = 123 from by decide]; omega)
    rw [if_neg (by omega)]
    exact own_tabH hfit et hTA hsz t13 k hk (by rw [show (123 : Int32).toInt = 123 from by decide]; omega)
  obtain ⟨n, o, h1, h2, h3, _, L, rfl, ⟨rfl, N⟩, hq⟩ := own_law l s _ hw tables_1 i0 i1 i2 i3 i4 i5 tb tc s.heap s.heap.size (Nat.le_refl _) hS hTA hT p e ha hc hk s m _ below hf ((Spec.applies_iff_loose hf).mp happ).1 ⟨rfl, State.Warmed39.refl s, rfl⟩ trivial
  refine ⟨n, _, h1, h2, h3, hpost _ _ _ _ _ _ ⟨Cond.after_iff.mpr rfl, Cond.after_iff.mpr (eq_i res_at (Term.int_eval (1)) rfl), trivial⟩ ⟨hq.1, hq.2.1, (hq.2.2.sift fun y hy => Or.inr (N y hy)).mono (by decide) (by decide)⟩⟩
theorem main_1_1 : Claimed_1_1 := comes_1 fun _ _ _ _ _ _ h hF => ⟨h.1, hF⟩
theorem main_1_2 : Claimed_1_2 := comes_1 fun _ _ _ _ _ _ h hF => ⟨h.2.1, hF⟩
end Jvm.Pilot.@@N@@
namespace Jvm.Pilot.@@N@@
open Jvm Jvm.ClassFile Sem Op Lib Jvm.Free Jvm.Stand Jvm.Pilot.@@N@@.Jvm.D
/-! MADE BY PROGRAM (witnessworld.py) out of the Statement's table words and the real class files: 11 classes; the members and pool entries that the words name. The judged class is class 1, her method 3. -/
namespace start1
open Jvm.ClassFile
def u (s : String) : CpInfo := .utf8 (stringToUtf16 s)
/-- a pool by its gaps: so many unusable entries, then the entry; so many at the end -/
def gap : Nat → List CpInfo → List CpInfo
  | 0, r => r
  | n + 1, r => .unusable :: gap n r
def poolList (es : List (Nat × CpInfo)) (last : Nat) : List CpInfo := es.foldr (fun e r => gap e.1 (e.2 :: r)) (gap last [])
def pool (es : List (Nat × CpInfo)) (last : Nat) : Array CpInfo := ⟨poolList es last⟩
def fileOf (pool : Array CpInfo) (this : Nat) (attrs : Array Attribute := #[]) (ms : Array MethodInfo := #[]) (fl : Nat := 33) (sup : Nat := 0) (ifs : Array Nat := #[]) (fds : Array FieldInfo := #[]) : ClassFile where
  minorVersion := 0
  majorVersion := 65
  constantPool := pool
  accessFlags := fl
  thisClass := this
  superClass := sup
  interfaces := ifs
  fields := fds
  methods := ms
  attributes := attrs
def plain (name : String) (sup : Option ClassId) : Class where
  name := name
  kind := .ordinary
  loader := none
  accessFlags := 33
  super := sup
  interfaces := #[]
  cf := none
  fields := #[]
  methods := #[]
  instanceTypes := #[]
  staticTypes := #[]
  resolved := #[]
  callSites := []
  init := .initialized
  statics := none
  mirror := none

def pool0 : Array CpInfo := pool [(5, u "<init>"), (0, u "()V"), (1, .class_ 10), (1, u "java/lang/Object")] 113

def k0m0 : Method := { name := "<init>", desc := "()V", sig := { parameters := [], returnType := none }, accessFlags := 1, code := none }
/-- java/lang/Object -/
def k0 : Class := { plain "java/lang/Object" none with
  accessFlags := 33
  interfaces := #[]
  cf := some (fileOf pool0 8 #[] #[{ accessFlags := 1, nameIndex := 5, descriptorIndex := 6, attributes := #[] }] 33 0 #[] #[])
  fields := #[]
  methods := #[k0m0]
  instanceTypes := #[]
  staticTypes := #[]
  resolved := Array.replicate 124 none
  statics := none }

def pool1 : Array CpInfo := pool [(2, .class_ 4), (1, u "java/lang/Object"), (0, u "<init>"), (0, u "()V"), (0, .integer 2147483647), (0, .methodref 9 10), (0, .class_ 11), (0, .nameAndType 12 13), (0, u "convoke/model/Tokens"), (0, u "isToken"), (0, u "([BII)Z"), (0, .methodref 15 16), (0, .class_ 17), (0, .nameAndType 18 19), (0, u "convoke/model/TokensIsTokenPinLaw"), (0, u "inside"), (0, u "(III)Z"), (0, .methodref 15 21), (0, .nameAndType 22 23), (0, u "valid"), (0, u "(B)Z"), (3, u "law"), (0, u "(IIIIII)Z")] 4

def k1m0 : Method := { name := "<init>", desc := "()V", sig := { parameters := [], returnType := none }, accessFlags := 2, code := none }
def k1c1 : Code := { maxStack := 2, maxLocals := 1, code := method_2_code, exceptionTable := #[], attributes := #[] }
def k1m1 : Method := { name := "valid", desc := "(B)Z", sig := { parameters := [.byte], returnType := some .boolean }, accessFlags := 10, code := some k1c1 }
def k1c2 : Code := { maxStack := 3, maxLocals := 3, code := method_3_code, exceptionTable := #[], attributes := #[] }
def k1m2 : Method := { name := "inside", desc := "(III)Z", sig := { parameters := [.int, .int, .int], returnType := some .boolean }, accessFlags := 10, code := some k1c2 }
def k1c3 : Code := { maxStack := 4, maxLocals := 15, code := code, exceptionTable := #[], attributes := #[] }
def k1m3 : Method := { name := "law", desc := "(IIIIII)Z", sig := { parameters := [.int, .int, .int, .int, .int, .int], returnType := some .boolean }, accessFlags := 9, code := some k1c3 }
/-- convoke/model/TokensIsTokenPinLaw -/
def k1 : Class := { plain "convoke/model/TokensIsTokenPinLaw" (some 0) with
  accessFlags := 49
  interfaces := #[]
  cf := some (fileOf pool1 15 #[] #[{ accessFlags := 2, nameIndex := 5, descriptorIndex := 6, attributes := #[] }, { accessFlags := 10, nameIndex := 22, descriptorIndex := 23, attributes := #[] }, { accessFlags := 10, nameIndex := 18, descriptorIndex := 19, attributes := #[] }, { accessFlags := 9, nameIndex := 27, descriptorIndex := 28, attributes := #[] }] 49 2 #[] #[])
  fields := #[]
  methods := #[k1m0, k1m1, k1m2, k1m3]
  instanceTypes := #[]
  staticTypes := #[]
  resolved := Array.replicate 33 none
  statics := none }

def pool2 : Array CpInfo := pool [(2, .class_ 4), (1, u "java/lang/Object"), (0, u "<init>"), (0, u "()V"), (1, .class_ 10), (1, u "convoke/model/Tokens"), (0, u "isToken"), (16, .fieldref 8 29), (0, .nameAndType 30 31), (0, u "TOKEN_CHARACTERS"), (0, u "[Z"), (24, u "MAX_LENGTH"), (0, u "I"), (2, u "ASCII"), (6, u "([BII)Z")] 19

def k2m0 : Method := { name := "<init>", desc := "()V", sig := { parameters := [], returnType := none }, accessFlags := 2, code := none }
def k2c1 : Code := { maxStack := 3, maxLocals := 5, code := prog_27_method_3_code, exceptionTable := #[], attributes := #[] }
def k2m1 : Method := { name := "isToken", desc := "([BII)Z", sig := { parameters := [(.array .byte), .int, .int], returnType := some .boolean }, accessFlags := 8, code := some k2c1 }
/-- convoke/model/Tokens -/
def k2 : Class := { plain "convoke/model/Tokens" (some 0) with
  accessFlags := 49
  interfaces := #[]
  cf := some (fileOf pool2 8 #[] #[{ accessFlags := 2, nameIndex := 5, descriptorIndex := 6, attributes := #[] }, { accessFlags := 8, nameIndex := 11, descriptorIndex := 67, attributes := #[] }] 49 2 #[] #[{ accessFlags := 25, nameIndex := 56, descriptorIndex := 57, attributes := #[] }, { accessFlags := 26, nameIndex := 60, descriptorIndex := 57, attributes := #[] }, { accessFlags := 26, nameIndex := 30, descriptorIndex := 31, attributes := #[] }])
  fields := #[{ name := "MAX_LENGTH", type := .int, accessFlags := 25, slot := 0, constantValue := 0 }, { name := "ASCII", type := .int, accessFlags := 26, slot := 1, constantValue := 0 }, { name := "TOKEN_CHARACTERS", type := (.array .boolean), accessFlags := 26, slot := 2, constantValue := 0 }]
  methods := #[k2m0, k2m1]
  instanceTypes := #[]
  staticTypes := #[.int, .int, (.array .boolean)]
  resolved := Array.replicate 87 none
  statics := some 0 }

def pool3 : Array CpInfo := pool [(1, u "java/lang/Cloneable"), (0, .class_ 1), (0, u "java/lang/Object"), (0, .class_ 3)] 3

/-- java/lang/Cloneable -/
def k3 : Class := { plain "java/lang/Cloneable" (some 0) with
  accessFlags := 1537
  interfaces := #[]
  cf := some (fileOf pool3 2 #[] #[] 1537 4 #[] #[])
  fields := #[]
  methods := #[]
  instanceTypes := #[]
  staticTypes := #[]
  resolved := Array.replicate 8 none
  statics := none }

def pool4 : Array CpInfo := pool [(1, u "java/io/Serializable"), (0, .class_ 1), (0, u "java/lang/Object"), (0, .class_ 3)] 3

/-- java/io/Serializable -/
def k4 : Class := { plain "java/io/Serializable" (some 0) with
  accessFlags := 1537
  interfaces := #[]
  cf := some (fileOf pool4 2 #[] #[] 1537 4 #[] #[])
  fields := #[]
  methods := #[]
  instanceTypes := #[]
  staticTypes := #[]
  resolved := Array.replicate 8 none
  statics := none }

/-- the primitive boolean -/
def k5 : Class := { plain "boolean" none with kind := .primitive 'Z', accessFlags := 0x411 }
/-- [Z -/
def k6 : Class := { plain "[Z" (some 0) with kind := .array 5 .boolean, interfaces := #[3, 4], accessFlags := 1041 }

/-- the primitive byte -/
def k7 : Class := { plain "byte" none with kind := .primitive 'B', accessFlags := 0x411 }
/-- [B -/
def k8 : Class := { plain "[B" (some 0) with kind := .array 7 .byte, interfaces := #[3, 4], accessFlags := 1041 }

/-- the primitive int -/
def k9 : Class := { plain "int" none with kind := .primitive 'I', accessFlags := 0x411 }
/-- [I -/
def k10 : Class := { plain "[I" (some 0) with kind := .array 9 .int, interfaces := #[3, 4], accessFlags := 1041 }

def heap : Heap := #[{ cls := 2, slots := #[.int 0, .int 0, .ref 1], vm := .statics 2 },
  { cls := 6, slots := #[.int 0, .int 0, .int 0, .int 0, .int 0, .int 0, .int 0, .int 0, .int 0, .int 0, .int 0, .int 0, .int 0, .int 0, .int 0, .int 0, .int 0, .int 0, .int 0, .int 0, .int 0, .int 0, .int 0, .int 0, .int 0, .int 0, .int 0, .int 0, .int 0, .int 0, .int 0, .int 0, .int 0, .int 0, .int 0, .int 0, .int 0, .int 0, .int 0, .int 0, .int 0, .int 0, .int 0, .int 0, .int 0, .int 1, .int 1, .int 0, .int 1, .int 1, .int 1, .int 1, .int 1, .int 1, .int 1, .int 1, .int 1, .int 1, .int 0, .int 0, .int 0, .int 0, .int 0, .int 0, .int 0, .int 1, .int 1, .int 1, .int 1, .int 1, .int 1, .int 1, .int 1, .int 1, .int 1, .int 1, .int 1, .int 1, .int 1, .int 1, .int 1, .int 1, .int 1, .int 1, .int 1, .int 1, .int 1, .int 1, .int 1, .int 1, .int 1, .int 0, .int 0, .int 0, .int 0, .int 1, .int 0, .int 1, .int 1, .int 1, .int 1, .int 1, .int 1, .int 1, .int 1, .int 1, .int 1, .int 1, .int 1, .int 1, .int 1, .int 1, .int 1, .int 1, .int 1, .int 1, .int 1, .int 1, .int 1, .int 1, .int 1, .int 1, .int 1, .int 0, .int 0, .int 0, .int 0, .int 0], vm := .none }]
def classes : Array Class := #[k0, k1, k2, k3, k4, k5, k6, k7, k8, k9, k10]
def interned : List (Array UInt16 × Addr) := []
def slotsUsed : Nat := 131
def theMethod : MethodId := ⟨1, 3⟩
def args0 : Array Value := #[.int 5, .int 6, .int 7, .int 8, .int 9, .int 3]
def aboutOver (below : List Frame) : State where
  vm := { classes := classes, interned := interned.toArray }
  heap := heap
  slotsUsed := slotsUsed
  threads := #[{ frames := .invoking theMethod args0 :: below }]
def below0 : List Frame := [.native { method := ⟨0, 0⟩, args := #[] }]
def about1 : State := aboutOver below0
def p0 : Program := .bare "" "" ""
def e0 : Env := launch0.env 0 0 0
theorem w_frames : about1.frames = Frame.invoking theMethod args0 :: below0 := rfl
set_option maxRecDepth 65536 in
theorem w_args : argsFit about1.vm theMethod args0 = true := by decide +kernel
set_option maxRecDepth 65536 in
theorem w_heap : heapFits about1 = true := by decide +kernel
set_option maxRecDepth 65536 in
theorem w_runnable : about1.curStatus? = some .runnable := by decide +kernel
set_option maxRecDepth 65536 in
theorem w_alone : about1.alone = true := by decide +kernel
set_option maxRecDepth 65536 in
theorem w_named : about1.methodNamed? x = some theMethod := by decide +kernel
set_option maxRecDepth 65536 in
theorem w_hears : about1.hears theMethod below0 = true := by decide +kernel
set_option maxRecDepth 65536 in
theorem w_ripe : about1.ripe theMethod args0 below0 = true := by decide +kernel
theorem w_running : about1.status = .running := rfl
set_option maxRecDepth 65536 in
theorem w_room : about1.hasRoom e0.platform room_1 = true :=
  launch0.hasRoom_least _ room_1 (by decide +kernel) (by decide +kernel) (by decide +kernel) (by decide +kernel) (by decide +kernel) (by decide +kernel)
theorem allAtoms_all (ts : List Jvm.Cond) (a : Array Jvm.Value) (st : Jvm.State) : (allAtoms ts).before a st = ts.all (fun c => c.before a st) := by
  induction ts with
  | nil => rfl
  | cons c t ih =>
    show (Jvm.Cond.and c (allAtoms t)).before a st = _
    rw [Jvm.Cond.before_and, ih, List.all_cons]
def words1 : List Jvm.Cond := Jvm.Cond.code x code maxLocals ret :: tables_1
/-- a 'code' word, met by the world's own term for the bytes: nothing is compared byte by byte -/
theorem code_word {y : MethodName} {bytes : ByteArray} {mx : Nat} {rt : Option FieldType} {a : Array Value} {s : State} {m : MethodId} {meth : Method} {c : Code} (h1 : s.methodNamed? y = some m) (h2 : s.vm.method? m = some meth) (h3 : meth.code = some c) (h4 : c.code = bytes)
    (h5 : (c.maxLocals == mx && c.exceptionTable.isEmpty && decide (c.maxStack ≤ mostOperands) && decide (meth.sig.returnType = rt) && !meth.locks && decide (parseMethodDescriptor y.desc = some meth.sig)) = true) : (Jvm.Cond.code y bytes mx rt).before a s = true := by
  simp only [Bool.and_eq_true, beq_iff_eq, Bool.not_eq_true', decide_eq_true_eq] at h5
  obtain ⟨⟨⟨⟨⟨g1, g2⟩, g3⟩, g4⟩, g5⟩, g6⟩ := h5
  simp [Cond.before, Cond.holds, Cond.value, h1, h2, h3, h4, g1, g2, g3, g4, g5, g6]
def isCode : Jvm.Cond → Bool
  | .code _ _ _ _ => true
  | _ => false
theorem all_split {L : List Jvm.Cond} {P : Jvm.Cond → Bool} (h1 : L.all (fun c => isCode c || P c) = true) (h2 : ∀ c ∈ L.filter isCode, P c = true) : L.all P = true := by
  refine List.all_eq_true.mpr fun c hc => ?_
  have h := List.all_eq_true.mp h1 c hc
  rcases Bool.eq_false_or_eq_true (isCode c) with hi | hi
  · exact h2 c (List.mem_filter.mpr ⟨hc, hi⟩)
  · simpa [hi] using h
set_option maxRecDepth 65536 in
theorem w_c0 : (Jvm.Cond.code x code maxLocals ret).before args0 about1 = true := code_word (m := ⟨1, 3⟩) (meth := k1m3) (c := k1c3) (by decide +kernel) rfl rfl rfl (by decide +kernel)
set_option maxRecDepth 65536 in
theorem w_c1 : (Jvm.Cond.code ({ cls := "convoke/model/Tokens", name := "isToken", desc := "([BII)Z" } : Jvm.MethodName) prog_27_method_3_code (5 : Nat) (Option.some Jvm.ClassFile.FieldType.boolean)).before args0 about1 = true := code_word (m := ⟨2, 1⟩) (meth := k2m1) (c := k2c1) (by decide +kernel) rfl rfl rfl (by decide +kernel)
set_option maxRecDepth 65536 in
theorem w_c2 : (Jvm.Cond.code ({ cls := "convoke/model/TokensIsTokenPinLaw", name := "inside", desc := "(III)Z" } : Jvm.MethodName) method_3_code (3 : Nat) (Option.some Jvm.ClassFile.FieldType.boolean)).before args0 about1 = true := code_word (m := ⟨1, 2⟩) (meth := k1m2) (c := k1c2) (by decide +kernel) rfl rfl rfl (by decide +kernel)
set_option maxRecDepth 65536 in
theorem w_c3 : (Jvm.Cond.code ({ cls := "convoke/model/TokensIsTokenPinLaw", name := "valid", desc := "(B)Z" } : Jvm.MethodName) method_2_code (1 : Nat) (Option.some Jvm.ClassFile.FieldType.boolean)).before args0 about1 = true := code_word (m := ⟨1, 1⟩) (meth := k1m1) (c := k1c1) (by decide +kernel) rfl rfl rfl (by decide +kernel)
def codes1 : List Jvm.Cond := [Jvm.Cond.code x code maxLocals ret, Jvm.Cond.code ({ cls := "convoke/model/Tokens", name := "isToken", desc := "([BII)Z" } : Jvm.MethodName) prog_27_method_3_code (5 : Nat) (Option.some Jvm.ClassFile.FieldType.boolean), Jvm.Cond.code ({ cls := "convoke/model/TokensIsTokenPinLaw", name := "inside", desc := "(III)Z" } : Jvm.MethodName) method_3_code (3 : Nat) (Option.some Jvm.ClassFile.FieldType.boolean), Jvm.Cond.code ({ cls := "convoke/model/TokensIsTokenPinLaw", name := "valid", desc := "(B)Z" } : Jvm.MethodName) method_2_code (1 : Nat) (Option.some Jvm.ClassFile.FieldType.boolean)]
set_option maxRecDepth 65536 in
theorem codes_eq : words1.filter isCode = codes1 := rfl
theorem w_codes : ∀ c ∈ words1.filter isCode, c.before args0 about1 = true := by
  rw [codes_eq]
  intro c hc
  simp only [codes1, List.mem_cons, List.not_mem_nil, or_false] at hc
  rcases hc with rfl | rfl | rfl | rfl
  · exact w_c0
  · exact w_c1
  · exact w_c2
  · exact w_c3
set_option maxRecDepth 65536 in
theorem w_t1 : words1.all (fun c => isCode c || c.before args0 about1) = true := by decide +kernel
theorem w_tables : (allAtoms (Jvm.Cond.code x code maxLocals ret :: tables_1)).before args0 about1 = true := by
  rw [allAtoms_all]
  show words1.all (fun c => c.before args0 about1) = true
  refine all_split ?_ w_codes
  rw [w_t1]
set_option maxRecDepth 65536 in
theorem w_case : (Jvm.Cond.and given_1 narrow_1).before args0 about1 = true := by decide +kernel
theorem w_applies : (headSpec (Jvm.Cond.code x code maxLocals ret :: tables_1) room_1).applies x e0.platform about1 = true :=
  (Spec.applies_iff w_frames).mpr ⟨w_running, w_runnable, w_alone, w_named, w_hears, w_ripe, w_room, w_tables⟩
theorem atStart : AtStart classFile x code maxLocals ret World_1 tables_1 room_1 Calls_1 rest_1 Pre_1 launch0 p0 e0 about1 theMethod args0 below0 :=
  ⟨lists_1, trivial, launch0.admits_env _ _ _, launch0.least_env, fairChoices_fair.cas, fairChoices_fair.clock, w_frames, w_args, w_heap, w_applies, trivial, trivial, w_case⟩
end start1
theorem witness_1 : WitnessClaimed_1 := ⟨start1.p0, start1.e0, start1.about1, start1.theMethod, start1.args0, start1.below0, start1.atStart⟩
end Jvm.Pilot.@@N@@
