import JvmDerived
import JvmDerived.Pilot.@@N@@Statement
import JvmDerived.Pilot.@@N@@Code
set_option linter.unusedVariables false
set_option linter.unusedSimpArgs false
namespace Jvm.RoadKit
open Sem ClassFile Op Lib Jvm.Stand Jvm.Free Jvm.LawKit
section New
variable {p : Program} {l : Launch} {e : Env} {R : Room} {s : State} {m : MethodId} {args : Array Value} {below : List Frame} {meth : Method} {c : Code} {T : State} {locs : List Loc} {cells slots : Nat}
theorem retI (X : Stand p l e R s m args below meth c T locs cells slots) (hx : p.tables.exec = Jvm.exec) {pc : Nat} {Ls : Array Slot} {z : Int32} {rest : List Value} (hret : meth.sig.returnType = some .int) (hd : decode c.code pc = .ok (.ireturn, 1)) {fs : List Frame}
    (hl : ∀ (f : JFrame) (acts : List Action), f.method = m → f.locked = none → f.entered = [] → (doReturn e (T.setTop f) acts (some (.int z))).1 = T.setFrames fs) : Steps p.tables e below (T.setTop (mkF m pc Ls (.int z :: rest))) (T.setFrames fs) := by
  have hm' : T.vm.method? m = some meth := X.method'
  have hn : narrow .int (.int z) = .int z := rfl
  show Steps p.tables e below (T.setTop { method := m, pc := pc, locals := Ls, stack := _ :: rest, locked := none }) _
  jvm_step X.here [X.here.top, hx, hd, hm', hret, hn]
  first | (intro acts; rw [hl _ acts rfl rfl rfl]) | rw [hl _ _ rfl rfl rfl]
  exact Steps.refl _
/-- from the state A the body comes to its end, and Q holds there -/
def own_G (tb : Tables) (e : Env) (below : List Frame) (Q : Outcome → State → Prop) (A : State) : Prop := ∃ s₂ o, Steps tb e below A s₂ ∧ s₂.status = .running ∧ Ended s₂ below o ∧ Q o s₂
theorem own_fs {tb : Tables} {Q : Outcome → State → Prop} {A B : State} (h : Steps tb e below A B) (g : own_G tb e below Q B) : own_G tb e below Q A := by
  obtain ⟨s₂, o, h1, r⟩ := g
  exact ⟨s₂, o, h.trans h1, r⟩
/-- what a body's contract says of its end -/
def own_P (s : State) (QQ : Option Value → Heap → List Loc → Prop) (rc rs : Nat) (o : Outcome) (U : State) : Prop := ∃ v L, o = .returned v ∧ QQ v U.heap L ∧ FrameEnd s o U L rc rs
variable {QQ : Option Value → Heap → List Loc → Prop} {rc rs : Nat} {h : Heap}
theorem own_start {tb : Tables} {g g' : JFrame} (q : g = g') (k : own_G tb e below (own_P s QQ rc rs) (T.setTop g')) : ∃ s₂ o, Steps tb e below (T.setTop g) s₂ ∧ s₂.status = .running ∧ Ended s₂ below o ∧ ∃ v L, o = .returned v ∧ QQ v s₂.heap L ∧ FrameEnd s o s₂ L rc rs := q ▸ k
theorem own_retI (X : Stand p l e R s m args below meth c T locs cells slots) (hx : p.tables.exec = Jvm.exec) {pc : Nat} {Ls : Array Slot} {z : Int32} {rest : List Value} (hret : meth.sig.returnType = some .int) (hlk : meth.locks = false) (hd : decode c.code pc = .ok (.ireturn, 1)) (hc : cells ≤ rc) (hs : slots ≤ rs) (eT : T.heap = h) (hQ : QQ (some (.int z)) h locs) :
    own_G p.tables e below (own_P s QQ rc rs) (T.setTop (mkF m pc Ls (.int z :: rest))) := by
  obtain ⟨fs, hr, hrun, hended, hW, hsame⟩ := X.leave (v := some (.int z)) (fun h => by rw [hret] at h; cases h) hlk
  exact ⟨_, _, retI X hx hret hd hr, hrun, hended, _, _, rfl, (by show QQ _ T.heap _; rw [eT]; exact hQ), ⟨_, rfl⟩, hW, hsame.mono hc hs⟩
theorem own_retN (X : Stand p l e R s m args below meth c T locs cells slots) (hx : p.tables.exec = Jvm.exec) {pc : Nat} {Ls : Array Slot} {z : Int32} {t : FieldType} {rest : List Value} (hret : meth.sig.returnType = some t) (hlk : meth.locks = false) (ht : t = .boolean ∨ t = .byte ∨ t = .char ∨ t = .short) (hd : decode c.code pc = .ok (.ireturn, 1)) (hc : cells ≤ rc) (hs : slots ≤ rs) (eT : T.heap = h) (hQ : QQ (some (.int (nar t z))) h locs) :
    own_G p.tables e below (own_P s QQ rc rs) (T.setTop (mkF m pc Ls (.int z :: rest))) := by
  obtain ⟨fs, hr, hrun, hended, hW, hsame⟩ := X.leave (v := some (.int (nar t z))) (fun h => by rw [hret] at h; cases h) hlk
  exact ⟨_, _, retN X hx hret ht hd hr, hrun, hended, _, _, rfl, (by show QQ _ T.heap _; rw [eT]; exact hQ), ⟨_, rfl⟩, hW, hsame.mono hc hs⟩
theorem own_retJ (X : Stand p l e R s m args below meth c T locs cells slots) (hx : p.tables.exec = Jvm.exec) {pc : Nat} {Ls : Array Slot} {z : Int64} {rest : List Value} (hret : meth.sig.returnType = some .long) (hlk : meth.locks = false) (hd : decode c.code pc = .ok (.lreturn, 1)) (hc : cells ≤ rc) (hs : slots ≤ rs) (eT : T.heap = h) (hQ : QQ (some (.long z)) h locs) :
    own_G p.tables e below (own_P s QQ rc rs) (T.setTop (mkF m pc Ls (.long z :: rest))) := by
  obtain ⟨fs, hr, hrun, hended, hW, hsame⟩ := X.leave (v := some (.long z)) (fun h => by rw [hret] at h; cases h) hlk
  exact ⟨_, _, retOut X hx hret rfl (Or.inr (Or.inl ⟨rfl, rfl, z, rfl⟩)) hd hr, hrun, hended, _, _, rfl, (by show QQ _ T.heap _; rw [eT]; exact hQ), ⟨_, rfl⟩, hW, hsame.mono hc hs⟩
theorem own_narR {t : FieldType} {w : Value} (hw : w.isRef = true) : narrow t w = w := by rcases ref_cases hw with rfl | ⟨a, rfl⟩ <;> cases t <;> rfl
theorem own_fitR {t : FieldType} {w : Value} (hw : w.isRef = true) (ht : t.isReference = true := by rfl) : fits t w = true := by rcases ref_cases hw with rfl | ⟨a, rfl⟩ <;> cases t <;> first | rfl | cases ht
theorem own_retA (X : Stand p l e R s m args below meth c T locs cells slots) (hx : p.tables.exec = Jvm.exec) {pc : Nat} {Ls : Array Slot} {w : Value} {t : FieldType} {rest : List Value} (hret : meth.sig.returnType = some t) (hlk : meth.locks = false) (ht : t.isReference = true) (hw : w.isRef = true) (hd : decode c.code pc = .ok (.areturn, 1)) (hc : cells ≤ rc) (hs : slots ≤ rs) (eT : T.heap = h) (hQ : QQ (some w) h locs) :
    own_G p.tables e below (own_P s QQ rc rs) (T.setTop (mkF m pc Ls (w :: rest))) := by
  obtain ⟨fs, hr, hrun, hended, hW, hsame⟩ := X.leave (v := some w) (fun h => by rw [hret] at h; cases h) hlk
  exact ⟨_, _, retOut X hx hret (own_narR hw) (Or.inr (Or.inr (Or.inr (Or.inr ⟨rfl, ht, hw⟩)))) hd hr, hrun, hended, _, _, rfl, (by show QQ _ T.heap _; rw [eT]; exact hQ), ⟨_, rfl⟩, hW, hsame.mono hc hs⟩
theorem own_retV (X : Stand p l e R s m args below meth c T locs cells slots) (hx : p.tables.exec = Jvm.exec) {pc : Nat} {Ls : Array Slot} (hret : meth.sig.returnType = none) (hlk : meth.locks = false) (hd : decode c.code pc = .ok (.return_, 1)) (hc : cells ≤ rc) (hs : slots ≤ rs) (eT : T.heap = h) (hQ : QQ none h locs) :
    own_G p.tables e below (own_P s QQ rc rs) (T.setTop (mkF m pc Ls [])) := by
  obtain ⟨fs, hr, hrun, hended, hW, hsame⟩ := X.leave (v := none) (fun _ => rfl) hlk
  exact ⟨_, _, X.returnOut hx hret hd hr, hrun, hended, _, _, rfl, (by show QQ _ T.heap _; rw [eT]; exact hQ), ⟨_, rfl⟩, hW, hsame.mono hc hs⟩
theorem own_nar0 : nar .boolean (0 : Int32) = (0 : Int32) := rfl
theorem own_nar1 : nar .boolean (1 : Int32) = (1 : Int32) := rfl
end New
end Jvm.RoadKit
namespace Jvm.Pilot.@@N@@
open Jvm Jvm.ClassFile Sem Op Lib Jvm.Free Jvm.Stand Jvm.LawKit Jvm.RoadKit Bundle Jvm.Pilot.@@N@@.Jvm.D
theorem own_pn0 : plainName "com/example/cast3/cast3/Relation" = true := by first | (simp [plainName, overriddenIn]; done) | decide +kernel
theorem own_d1_0 : decode prog_21_method_4_code 0 = .ok (.lload_n 2, 1) := by decide +kernel
theorem own_d1_1 : decode prog_21_method_4_code 1 = .ok (.lload_n 0, 1) := by decide +kernel
theorem own_d1_2 : decode prog_21_method_4_code 2 = .ok (.lcmp, 1) := by decide +kernel
theorem own_d1_3 : decode prog_21_method_4_code 3 = .ok (.ifCond .ne 11, 3) := by decide +kernel
theorem own_d1_6 : decode prog_21_method_4_code 6 = .ok (.getstatic 3, 3) := by decide +kernel
theorem own_d1_9 : decode prog_21_method_4_code 9 = .ok (.astore 6, 2) := by decide +kernel
theorem own_d1_11 : decode prog_21_method_4_code 11 = .ok (.goto 52, 3) := by decide +kernel
theorem own_d1_63 : decode prog_21_method_4_code 63 = .ok (.aload 6, 2) := by decide +kernel
theorem own_d1_65 : decode prog_21_method_4_code 65 = .ok (.areturn, 1) := by decide +kernel
theorem own_d1_14 : decode prog_21_method_4_code 14 = .ok (.iload 4, 2) := by decide +kernel
theorem own_d1_16 : decode prog_21_method_4_code 16 = .ok (.ifCond .eq 16, 3) := by decide +kernel
theorem own_d1_32 : decode prog_21_method_4_code 32 = .ok (.iload 4, 2) := by decide +kernel
theorem own_d1_34 : decode prog_21_method_4_code 34 = .ok (.ifCond .eq 11, 3) := by decide +kernel
theorem own_d1_45 : decode prog_21_method_4_code 45 = .ok (.iload 5, 2) := by decide +kernel
theorem own_d1_47 : decode prog_21_method_4_code 47 = .ok (.ifCond .eq 11, 3) := by decide +kernel
theorem own_d1_58 : decode prog_21_method_4_code 58 = .ok (.getstatic 16, 3) := by decide +kernel
theorem own_d1_61 : decode prog_21_method_4_code 61 = .ok (.astore 6, 2) := by decide +kernel
theorem own_d1_50 : decode prog_21_method_4_code 50 = .ok (.getstatic 13, 3) := by decide +kernel
theorem own_d1_53 : decode prog_21_method_4_code 53 = .ok (.astore 6, 2) := by decide +kernel
theorem own_d1_55 : decode prog_21_method_4_code 55 = .ok (.goto 8, 3) := by decide +kernel
theorem own_d1_19 : decode prog_21_method_4_code 19 = .ok (.iload 5, 2) := by decide +kernel
theorem own_d1_21 : decode prog_21_method_4_code 21 = .ok (.ifCond .eq 11, 3) := by decide +kernel
theorem own_d1_37 : decode prog_21_method_4_code 37 = .ok (.getstatic 10, 3) := by decide +kernel
theorem own_d1_40 : decode prog_21_method_4_code 40 = .ok (.astore 6, 2) := by decide +kernel
theorem own_d1_42 : decode prog_21_method_4_code 42 = .ok (.goto 21, 3) := by decide +kernel
theorem own_d1_24 : decode prog_21_method_4_code 24 = .ok (.getstatic 7, 3) := by decide +kernel
theorem own_d1_27 : decode prog_21_method_4_code 27 = .ok (.astore 6, 2) := by decide +kernel
theorem own_d1_29 : decode prog_21_method_4_code 29 = .ok (.goto 34, 3) := by decide +kernel
theorem own_pn1 : plainName "com/example/cast3/cast3/RelationOfPinLaw" = true := by first | (simp [plainName, overriddenIn]; done) | decide +kernel
theorem own_pd0 : parseMethodDescriptor "(JJZZ)Lcom/example/cast3/cast3/Relation;" = some ⟨[.long, .long, .boolean, .boolean], some (.object "com/example/cast3/cast3/Relation")⟩ := by decide +kernel
def own_of (aS aM aF aW aN : Addr) (v l : Int64) (vf fv : Int32) : Addr := if l = v then aS else if vf = (0 : Int32) then (if fv = (0 : Int32) then aN else aW) else if fv = (0 : Int32) then aF else aM
theorem own_dec (a b : Int64) : (a = b ∧ b = a) ∨ (¬ (a = b) ∧ ¬ (b = a)) := by
  by_cases h : a = b
  · exact Or.inl ⟨h, h.symm⟩
  · exact Or.inr ⟨h, fun q => h q.symm⟩
theorem own_ord {args : Array Value} {s : State} {t : Term} {a : Addr} {k : Int32} (h : (Jvm.Cond.eq (Term.field t "java/lang/Enum" "ordinal" "I") (Term.int k)).value args s none s [] = some true) (ht : t.eval args s none [] s = some (.ref a)) : Fld s s.heap a "java/lang/Enum" "ordinal" "I" (.int k) := by
  obtain ⟨x, y, e1, e2, k1, k2⟩ := cmp_v (Or.inl h)
  cases (Term.int_eval k).symm.trans e2
  obtain ⟨z, rfl⟩ := k2
  have q : z = k := gotT (Cond.eq_ints e1 (Term.int_eval k)) h
  subst q
  rw [fld_at ht] at e1
  exact Fld.start e1

theorem own_rof_ef (m : MethodId) (x0 : Int64) (x1 : Int64) (x2 : Int32) (x3 : Int32) : entryFrame m #[(.long x0), (.long x1), (.int x2), (.int x3)] 7 = mkF m 0 #[.val (.long x0), .second, .val (.long x1), .second, .val (.int x2), .val (.int x3), .unset] [] := by first | (simp [entryFrame, mkF, argsToLocals, Value.category]; done) | rfl
def own_rof_Q (Z : State) (aS : Addr) (aM : Addr) (aF : Addr) (aW : Addr) (aN : Addr) (vw : Int64) (l1 : Int64) (vf : Int32) (fv : Int32) (h0 : Heap) (n0 : Nat) (v : Option Value) (h : Heap) (L : List Loc) : Prop := (v = some (.ref (own_of aS aM aF aW aN vw l1 vf fv)) ∧ Fr n0 L ∧ h = h0)
set_option maxRecDepth 65536 in
set_option maxHeartbeats 40000000 in
theorem own_rof (l : Launch) (Z : State) (a0 : Array Value) (hw : ∀ d ∈ tables_1, d.before a0 Z = true) (ws : List Jvm.Cond) (aS : Addr) (aM : Addr) (aF : Addr) (aW : Addr) (aN : Addr) (vw : Int64) (l1 : Int64) (vf : Int32) (fv : Int32) (h0 : Heap) (n0 : Nat) (Z0 : n0 ≤ h0.size) (hS_SELF : Sta Z h0 "com/example/cast3/cast3/Relation" "SELF" "Lcom/example/cast3/cast3/Relation;" (.ref aS)) (hS_MUTUAL : Sta Z h0 "com/example/cast3/cast3/Relation" "MUTUAL" "Lcom/example/cast3/cast3/Relation;" (.ref aM)) (hS_FOLLOWING : Sta Z h0 "com/example/cast3/cast3/Relation" "FOLLOWING" "Lcom/example/cast3/cast3/Relation;" (.ref aF)) (hS_FOLLOWER : Sta Z h0 "com/example/cast3/cast3/Relation" "FOLLOWER" "Lcom/example/cast3/cast3/Relation;" (.ref aW)) (hS_NONE : Sta Z h0 "com/example/cast3/cast3/Relation" "NONE" "Lcom/example/cast3/cast3/Relation;" (.ref aN)) :
    MetFree l (⟨"com/example/cast3/cast3/Relation", "of", "(JJZZ)Lcom/example/cast3/cast3/Relation;"⟩ : MethodName) (head1 (Jvm.Cond.code (⟨"com/example/cast3/cast3/Relation", "of", "(JJZZ)Lcom/example/cast3/cast3/Relation;"⟩ : MethodName) prog_21_method_4_code 7 (some (.object "com/example/cast3/cast3/Relation")) :: ws) ({ frames := 0, cells := 0, slots := 0, locals := 0 } : Room)) (fun a U => a = #[(.long vw), (.long l1), (.int vf), (.int fv)] ∧ Z.Warmed39 U.vm ∧ U.heap = h0) (fun _ _ _ _ _ => True) (fun _ U o U' => ∃ v L, o = .returned v ∧ own_rof_Q Z aS aM aF aW aN vw l1 vf fv h0 n0 v U'.heap L ∧ FrameEnd U o U' L ({ frames := 0, cells := 0, slots := 0, locals := 0 } : Room).cells ({ frames := 0, cells := 0, slots := 0, locals := 0 } : Room).slots) := by
  refine MetFree.of_bodySF (plainFor_of_name own_pn0) hisR ?_
  intro p e s m args below meth c s₁ Bd hml0 hP hK
  obtain ⟨rfl, hZ, hh⟩ := hP
  have hx := Bd.exec
  have hby := Bd.bytes
  have hlk : meth.locks = false := BodyLoose.notSynchronized Bd
  have hml : c.maxLocals = 7 := hml0
  have hown : s.vm.findClass "com/example/cast3/cast3/Relation" = some m.cls := findClass_of_methodNamed Bd.named
  have hnm := (name_of_methodNamed Bd.named Bd.method).1
  have X0 : Stand p l e ({ frames := 0, cells := 0, slots := 0, locals := 0 } : Room) s m #[(.long vw), (.long l1), (.int vf), (.int fv)] below meth c s₁ [] 0 0 := Stand.of_body Bd
  have e0 : s₁.heap = h0 := by rw [← hh, Bd.state]; rfl
  have N0 := Fr.nil n0
  refine own_start (QQ := own_rof_Q Z aS aM aF aW aN vw l1 vf fv h0 n0) (rc := ({ frames := 0, cells := 0, slots := 0, locals := 0 } : Room).cells) (rs := ({ frames := 0, cells := 0, slots := 0, locals := 0 } : Room).slots) (own_rof_ef m vw l1 vf fv ) ?_
  show own_G p.tables e below _ (s₁.setTop (mkF m 0 #[.val (.long vw), .second, .val (.long l1), .second, .val (.int vf), .val (.int fv), .unset] []))
  refine own_fs (XS.lloadN X0.here hx rfl (hb hby own_d1_0) rfl (Steps.refl _)) ?_
  show own_G p.tables e below _ (s₁.setTop (mkF m 1 #[.val (.long vw), .second, .val (.long l1), .second, .val (.int vf), .val (.int fv), .unset] [(.long l1)]))
  refine own_fs (XS.lloadN X0.here hx rfl (hb hby own_d1_1) rfl (Steps.refl _)) ?_
  show own_G p.tables e below _ (s₁.setTop (mkF m 2 #[.val (.long vw), .second, .val (.long l1), .second, .val (.int vf), .val (.int fv), .unset] [(.long vw), (.long l1)]))
  refine own_fs (XT.lcmp X0.here hx rfl (hb hby own_d1_2) rfl (Steps.refl _)) ?_
  show own_G p.tables e below _ (s₁.setTop (mkF m 3 #[.val (.long vw), .second, .val (.long l1), .second, .val (.int vf), .val (.int fv), .unset] [(.int (XT.cmpL l1 vw))]))
  by_cases hc3 : l1 = vw
  · refine own_fs (XS.ifNo X0.here hx rfl (hb hby own_d1_3) rfl (XT.ll_ne_f hc3) (Steps.refl _)) ?_
    show own_G p.tables e below _ (s₁.setTop (mkF m 6 #[.val (.long vw), .second, .val (.long l1), .second, .val (.int vf), .val (.int fv), .unset] []))
    obtain ⟨T1, X1, e1, st1⟩ := getS2 X0 hx hZ hown (host := "") (Or.inl (hw _ (List.mem_of_getElem? (i := 14) rfl))) Via.refl e0 hS_SELF (g := (mkF m 6 #[.val (.long vw), .second, .val (.long l1), .second, .val (.int vf), .val (.int fv), .unset] [])) rfl (hb hby own_d1_6)
    refine own_fs (st1 _ (Steps.refl _)) ?_
    show own_G p.tables e below _ (T1.setTop (mkF m 9 #[.val (.long vw), .second, .val (.long l1), .second, .val (.int vf), .val (.int fv), .unset] [(.ref aS)]))
    refine own_fs (XS.astore X1.here hx rfl (hb hby own_d1_9) rfl rfl (l' := #[.val (.long vw), .second, .val (.long l1), .second, .val (.int vf), .val (.int fv), .val (.ref aS)]) rfl (Steps.refl _)) ?_
    show own_G p.tables e below _ (T1.setTop (mkF m 11 #[.val (.long vw), .second, .val (.long l1), .second, .val (.int vf), .val (.int fv), .val (.ref aS)] []))
    refine own_fs (XS.goto X1.here hx rfl (pc0 := 11) (pc' := 63) rfl (hb hby own_d1_11) (by decide) (by decide) (Steps.refl _)) ?_
    show own_G p.tables e below _ (T1.setTop (mkF m 63 #[.val (.long vw), .second, .val (.long l1), .second, .val (.int vf), .val (.int fv), .val (.ref aS)] []))
    refine own_fs (XS.aload X1.here hx rfl (hb hby own_d1_63) rfl rfl (Steps.refl _)) ?_
    show own_G p.tables e below _ (T1.setTop (mkF m 65 #[.val (.long vw), .second, .val (.long l1), .second, .val (.int vf), .val (.int fv), .val (.ref aS)] [(.ref aS)]))
    exact own_retA X1 hx (t := (.object "com/example/cast3/cast3/Relation")) Bd.returns hlk rfl rfl (hb hby own_d1_65) (by decide) (by decide) e1 ⟨(by simp only [own_of, hc3, ↓reduceIte]), N0, rfl⟩
  · refine own_fs (XS.ifYes X0.here hx rfl (pc0 := 3) (pc' := 14) rfl (hb hby own_d1_3) rfl (XT.ll_ne_t hc3) (by decide) (by decide) (Steps.refl _)) ?_
    show own_G p.tables e below _ (s₁.setTop (mkF m 14 #[.val (.long vw), .second, .val (.long l1), .second, .val (.int vf), .val (.int fv), .unset] []))
    refine own_fs (XS.iload X0.here hx rfl (hb hby own_d1_14) rfl (Steps.refl _)) ?_
    show own_G p.tables e below _ (s₁.setTop (mkF m 16 #[.val (.long vw), .second, .val (.long l1), .second, .val (.int vf), .val (.int fv), .unset] [(.int vf)]))
    by_cases hc16 : vf = (0 : Int32)
    · refine own_fs (XS.ifYes X0.here hx rfl (pc0 := 16) (pc' := 32) rfl (hb hby own_d1_16) rfl (XT.i0_eq_t hc16) (by decide) (by decide) (Steps.refl _)) ?_
      show own_G p.tables e below _ (s₁.setTop (mkF m 32 #[.val (.long vw), .second, .val (.long l1), .second, .val (.int vf), .val (.int fv), .unset] []))
      refine own_fs (XS.iload X0.here hx rfl (hb hby own_d1_32) rfl (Steps.refl _)) ?_
      show own_G p.tables e below _ (s₁.setTop (mkF m 34 #[.val (.long vw), .second, .val (.long l1), .second, .val (.int vf), .val (.int fv), .unset] [(.int vf)]))
      refine own_fs (XS.ifYes X0.here hx rfl (pc0 := 34) (pc' := 45) rfl (hb hby own_d1_34) rfl (XT.i0_eq_t hc16) (by decide) (by decide) (Steps.refl _)) ?_
      show own_G p.tables e below _ (s₁.setTop (mkF m 45 #[.val (.long vw), .second, .val (.long l1), .second, .val (.int vf), .val (.int fv), .unset] []))
      refine own_fs (XS.iload X0.here hx rfl (hb hby own_d1_45) rfl (Steps.refl _)) ?_
      show own_G p.tables e below _ (s₁.setTop (mkF m 47 #[.val (.long vw), .second, .val (.long l1), .second, .val (.int vf), .val (.int fv), .unset] [(.int fv)]))
      by_cases hc47 : fv = (0 : Int32)
      · refine own_fs (XS.ifYes X0.here hx rfl (pc0 := 47) (pc' := 58) rfl (hb hby own_d1_47) rfl (XT.i0_eq_t hc47) (by decide) (by decide) (Steps.refl _)) ?_
        show own_G p.tables e below _ (s₁.setTop (mkF m 58 #[.val (.long vw), .second, .val (.long l1), .second, .val (.int vf), .val (.int fv), .unset] []))
        obtain ⟨T2, X2, e2, st2⟩ := getS2 X0 hx hZ hown (host := "") (Or.inl (hw _ (List.mem_of_getElem? (i := 4) rfl))) Via.refl e0 hS_NONE (g := (mkF m 58 #[.val (.long vw), .second, .val (.long l1), .second, .val (.int vf), .val (.int fv), .unset] [])) rfl (hb hby own_d1_58)
        refine own_fs (st2 _ (Steps.refl _)) ?_
        show own_G p.tables e below _ (T2.setTop (mkF m 61 #[.val (.long vw), .second, .val (.long l1), .second, .val (.int vf), .val (.int fv), .unset] [(.ref aN)]))
        refine own_fs (XS.astore X2.here hx rfl (hb hby own_d1_61) rfl rfl (l' := #[.val (.long vw), .second, .val (.long l1), .second, .val (.int vf), .val (.int fv), .val (.ref aN)]) rfl (Steps.refl _)) ?_
        show own_G p.tables e below _ (T2.setTop (mkF m 63 #[.val (.long vw), .second, .val (.long l1), .second, .val (.int vf), .val (.int fv), .val (.ref aN)] []))
        refine own_fs (XS.aload X2.here hx rfl (hb hby own_d1_63) rfl rfl (Steps.refl _)) ?_
        show own_G p.tables e below _ (T2.setTop (mkF m 65 #[.val (.long vw), .second, .val (.long l1), .second, .val (.int vf), .val (.int fv), .val (.ref aN)] [(.ref aN)]))
        exact own_retA X2 hx (t := (.object "com/example/cast3/cast3/Relation")) Bd.returns hlk rfl rfl (hb hby own_d1_65) (by decide) (by decide) e2 ⟨(by simp only [own_of, hc16, hc3, hc47, ↓reduceIte]), N0, rfl⟩
      · refine own_fs (XS.ifNo X0.here hx rfl (hb hby own_d1_47) rfl (XT.i0_eq_f hc47) (Steps.refl _)) ?_
        show own_G p.tables e below _ (s₁.setTop (mkF m 50 #[.val (.long vw), .second, .val (.long l1), .second, .val (.int vf), .val (.int fv), .unset] []))
        obtain ⟨T3, X3, e3, st3⟩ := getS2 X0 hx hZ hown (host := "") (Or.inl (hw _ (List.mem_of_getElem? (i := 16) rfl))) Via.refl e0 hS_FOLLOWER (g := (mkF m 50 #[.val (.long vw), .second, .val (.long l1), .second, .val (.int vf), .val (.int fv), .unset] [])) rfl (hb hby own_d1_50)
        refine own_fs (st3 _ (Steps.refl _)) ?_
        show own_G p.tables e below _ (T3.setTop (mkF m 53 #[.val (.long vw), .second, .val (.long l1), .second, .val (.int vf), .val (.int fv), .unset] [(.ref aW)]))
        refine own_fs (XS.astore X3.here hx rfl (hb hby own_d1_53) rfl rfl (l' := #[.val (.long vw), .second, .val (.long l1), .second, .val (.int vf), .val (.int fv), .val (.ref aW)]) rfl (Steps.refl _)) ?_
        show own_G p.tables e below _ (T3.setTop (mkF m 55 #[.val (.long vw), .second, .val (.long l1), .second, .val (.int vf), .val (.int fv), .val (.ref aW)] []))
        refine own_fs (XS.goto X3.here hx rfl (pc0 := 55) (pc' := 63) rfl (hb hby own_d1_55) (by decide) (by decide) (Steps.refl _)) ?_
        show own_G p.tables e below _ (T3.setTop (mkF m 63 #[.val (.long vw), .second, .val (.long l1), .second, .val (.int vf), .val (.int fv), .val (.ref aW)] []))
        refine own_fs (XS.aload X3.here hx rfl (hb hby own_d1_63) rfl rfl (Steps.refl _)) ?_
        show own_G p.tables e below _ (T3.setTop (mkF m 65 #[.val (.long vw), .second, .val (.long l1), .second, .val (.int vf), .val (.int fv), .val (.ref aW)] [(.ref aW)]))
        exact own_retA X3 hx (t := (.object "com/example/cast3/cast3/Relation")) Bd.returns hlk rfl rfl (hb hby own_d1_65) (by decide) (by decide) e3 ⟨(by simp only [own_of, hc16, hc3, hc47, ↓reduceIte]), N0, rfl⟩
    · refine own_fs (XS.ifNo X0.here hx rfl (hb hby own_d1_16) rfl (XT.i0_eq_f hc16) (Steps.refl _)) ?_
      show own_G p.tables e below _ (s₁.setTop (mkF m 19 #[.val (.long vw), .second, .val (.long l1), .second, .val (.int vf), .val (.int fv), .unset] []))
      refine own_fs (XS.iload X0.here hx rfl (hb hby own_d1_19) rfl (Steps.refl _)) ?_
      show own_G p.tables e below _ (s₁.setTop (mkF m 21 #[.val (.long vw), .second, .val (.long l1), .second, .val (.int vf), .val (.int fv), .unset] [(.int fv)]))
      by_cases hc21 : fv = (0 : Int32)
      · refine own_fs (XS.ifYes X0.here hx rfl (pc0 := 21) (pc' := 32) rfl (hb hby own_d1_21) rfl (XT.i0_eq_t hc21) (by decide) (by decide) (Steps.refl _)) ?_
        show own_G p.tables e below _ (s₁.setTop (mkF m 32 #[.val (.long vw), .second, .val (.long l1), .second, .val (.int vf), .val (.int fv), .unset] []))
        refine own_fs (XS.iload X0.here hx rfl (hb hby own_d1_32) rfl (Steps.refl _)) ?_
        show own_G p.tables e below _ (s₁.setTop (mkF m 34 #[.val (.long vw), .second, .val (.long l1), .second, .val (.int vf), .val (.int fv), .unset] [(.int vf)]))
        refine own_fs (XS.ifNo X0.here hx rfl (hb hby own_d1_34) rfl (XT.i0_eq_f hc16) (Steps.refl _)) ?_
        show own_G p.tables e below _ (s₁.setTop (mkF m 37 #[.val (.long vw), .second, .val (.long l1), .second, .val (.int vf), .val (.int fv), .unset] []))
        obtain ⟨T4, X4, e4, st4⟩ := getS2 X0 hx hZ hown (host := "") (Or.inl (hw _ (List.mem_of_getElem? (i := 17) rfl))) Via.refl e0 hS_FOLLOWING (g := (mkF m 37 #[.val (.long vw), .second, .val (.long l1), .second, .val (.int vf), .val (.int fv), .unset] [])) rfl (hb hby own_d1_37)
        refine own_fs (st4 _ (Steps.refl _)) ?_
        show own_G p.tables e below _ (T4.setTop (mkF m 40 #[.val (.long vw), .second, .val (.long l1), .second, .val (.int vf), .val (.int fv), .unset] [(.ref aF)]))
        refine own_fs (XS.astore X4.here hx rfl (hb hby own_d1_40) rfl rfl (l' := #[.val (.long vw), .second, .val (.long l1), .second, .val (.int vf), .val (.int fv), .val (.ref aF)]) rfl (Steps.refl _)) ?_
        show own_G p.tables e below _ (T4.setTop (mkF m 42 #[.val (.long vw), .second, .val (.long l1), .second, .val (.int vf), .val (.int fv), .val (.ref aF)] []))
        refine own_fs (XS.goto X4.here hx rfl (pc0 := 42) (pc' := 63) rfl (hb hby own_d1_42) (by decide) (by decide) (Steps.refl _)) ?_
        show own_G p.tables e below _ (T4.setTop (mkF m 63 #[.val (.long vw), .second, .val (.long l1), .second, .val (.int vf), .val (.int fv), .val (.ref aF)] []))
        refine own_fs (XS.aload X4.here hx rfl (hb hby own_d1_63) rfl rfl (Steps.refl _)) ?_
        show own_G p.tables e below _ (T4.setTop (mkF m 65 #[.val (.long vw), .second, .val (.long l1), .second, .val (.int vf), .val (.int fv), .val (.ref aF)] [(.ref aF)]))
        exact own_retA X4 hx (t := (.object "com/example/cast3/cast3/Relation")) Bd.returns hlk rfl rfl (hb hby own_d1_65) (by decide) (by decide) e4 ⟨(by simp only [own_of, hc16, hc21, hc3, ↓reduceIte]), N0, rfl⟩
      · refine own_fs (XS.ifNo X0.here hx rfl (hb hby own_d1_21) rfl (XT.i0_eq_f hc21) (Steps.refl _)) ?_
        show own_G p.tables e below _ (s₁.setTop (mkF m 24 #[.val (.long vw), .second, .val (.long l1), .second, .val (.int vf), .val (.int fv), .unset] []))
        obtain ⟨T5, X5, e5, st5⟩ := getS2 X0 hx hZ hown (host := "") (Or.inl (hw _ (List.mem_of_getElem? (i := 15) rfl))) Via.refl e0 hS_MUTUAL (g := (mkF m 24 #[.val (.long vw), .second, .val (.long l1), .second, .val (.int vf), .val (.int fv), .unset] [])) rfl (hb hby own_d1_24)
        refine own_fs (st5 _ (Steps.refl _)) ?_
        show own_G p.tables e below _ (T5.setTop (mkF m 27 #[.val (.long vw), .second, .val (.long l1), .second, .val (.int vf), .val (.int fv), .unset] [(.ref aM)]))
        refine own_fs (XS.astore X5.here hx rfl (hb hby own_d1_27) rfl rfl (l' := #[.val (.long vw), .second, .val (.long l1), .second, .val (.int vf), .val (.int fv), .val (.ref aM)]) rfl (Steps.refl _)) ?_
        show own_G p.tables e below _ (T5.setTop (mkF m 29 #[.val (.long vw), .second, .val (.long l1), .second, .val (.int vf), .val (.int fv), .val (.ref aM)] []))
        refine own_fs (XS.goto X5.here hx rfl (pc0 := 29) (pc' := 63) rfl (hb hby own_d1_29) (by decide) (by decide) (Steps.refl _)) ?_
        show own_G p.tables e below _ (T5.setTop (mkF m 63 #[.val (.long vw), .second, .val (.long l1), .second, .val (.int vf), .val (.int fv), .val (.ref aM)] []))
        refine own_fs (XS.aload X5.here hx rfl (hb hby own_d1_63) rfl rfl (Steps.refl _)) ?_
        show own_G p.tables e below _ (T5.setTop (mkF m 65 #[.val (.long vw), .second, .val (.long l1), .second, .val (.int vf), .val (.int fv), .val (.ref aM)] [(.ref aM)]))
        exact own_retA X5 hx (t := (.object "com/example/cast3/cast3/Relation")) Bd.returns hlk rfl rfl (hb hby own_d1_65) (by decide) (by decide) e5 ⟨(by simp only [own_of, hc16, hc21, hc3, ↓reduceIte]), N0, rfl⟩
theorem own_law_ef (m : MethodId) (x0 : Int64) (x1 : Int64) (x2 : Int32) : entryFrame m #[(.long x0), (.long x1), (.int x2)] maxLocals = mkF m 0 #[.val (.long x0), .second, .val (.long x1), .second, .val (.int x2), .unset, .unset, .unset, .unset, .unset, .unset, .unset] [] := by first | (simp [entryFrame, mkF, argsToLocals, Value.category, maxLocals]; done) | rfl
def own_law_Q (Z : State) (p1 : Int64) (p2 : Int64) (fl : Int32) (aS : Addr) (aM : Addr) (aF : Addr) (aW : Addr) (aN : Addr) (h0 : Heap) (n0 : Nat) (v : Option Value) (h : Heap) (L : List Loc) : Prop := (v = some (.int (1 : Int32)) ∧ Fr n0 L)
set_option maxRecDepth 65536 in
set_option maxHeartbeats 40000000 in
theorem own_law (l : Launch) (Z : State) (a0 : Array Value) (hw : ∀ d ∈ tables_1, d.before a0 Z = true) (ws : List Jvm.Cond) (p1 : Int64) (p2 : Int64) (fl : Int32) (aS : Addr) (aM : Addr) (aF : Addr) (aW : Addr) (aN : Addr) (h0 : Heap) (n0 : Nat) (Z0 : n0 ≤ h0.size) (hS_SELF : Sta Z h0 "com/example/cast3/cast3/Relation" "SELF" "Lcom/example/cast3/cast3/Relation;" (.ref aS)) (hS_MUTUAL : Sta Z h0 "com/example/cast3/cast3/Relation" "MUTUAL" "Lcom/example/cast3/cast3/Relation;" (.ref aM)) (hS_FOLLOWING : Sta Z h0 "com/example/cast3/cast3/Relation" "FOLLOWING" "Lcom/example/cast3/cast3/Relation;" (.ref aF)) (hS_FOLLOWER : Sta Z h0 "com/example/cast3/cast3/Relation" "FOLLOWER" "Lcom/example/cast3/cast3/Relation;" (.ref aW)) (hS_NONE : Sta Z h0 "com/example/cast3/cast3/Relation" "NONE" "Lcom/example/cast3/cast3/Relation;" (.ref aN)) (hne_aS_aM : aS ≠ aM) (hne_aS_aF : aS ≠ aF) (hne_aS_aW : aS ≠ aW) (hne_aS_aN : aS ≠ aN) (hne_aM_aF : aM ≠ aF) (hne_aM_aW : aM ≠ aW) (hne_aM_aN : aM ≠ aN) (hne_aF_aW : aF ≠ aW) (hne_aF_aN : aF ≠ aN) (hne_aW_aN : aW ≠ aN) :
    MetFree l x (head1 (Jvm.Cond.code x code maxLocals ret :: ws) room_1) (fun a U => a = #[(.long p1), (.long p2), (.int fl)] ∧ Z.Warmed39 U.vm ∧ U.heap = h0) (fun _ _ _ _ _ => True) (fun _ U o U' => ∃ v L, o = .returned v ∧ own_law_Q Z p1 p2 fl aS aM aF aW aN h0 n0 v U'.heap L ∧ FrameEnd U o U' L room_1.cells room_1.slots) := by
  refine MetFree.of_bodySF (plainFor_of_name own_pn1) hisR ?_
  intro p e s m args below meth c s₁ Bd hml0 hP hK
  obtain ⟨rfl, hZ, hh⟩ := hP
  have hx := Bd.exec
  have hby := Bd.bytes
  have hlk : meth.locks = false := BodyLoose.notSynchronized Bd
  have hml : c.maxLocals = 12 := hml0
  have hown : s.vm.findClass "com/example/cast3/cast3/RelationOfPinLaw" = some m.cls := findClass_of_methodNamed Bd.named
  have hnm := (name_of_methodNamed Bd.named Bd.method).1
  have X0 : Stand p l e room_1 s m #[(.long p1), (.long p2), (.int fl)] below meth c s₁ [] 0 0 := Stand.of_body Bd
  have e0 : s₁.heap = h0 := by rw [← hh, Bd.state]; rfl
  have N0 := Fr.nil n0
  refine own_start (QQ := own_law_Q Z p1 p2 fl aS aM aF aW aN h0 n0) (rc := room_1.cells) (rs := room_1.slots) (own_law_ef m p1 p2 fl ) ?_
  show own_G p.tables e below _ (s₁.setTop (mkF m 0 #[.val (.long p1), .second, .val (.long p2), .second, .val (.int fl), .unset, .unset, .unset, .unset, .unset, .unset, .unset] []))
  refine own_fs (XS.iload X0.here hx rfl (hb hby at_0) rfl (Steps.refl _)) ?_
  show own_G p.tables e below _ (s₁.setTop (mkF m 2 #[.val (.long p1), .second, .val (.long p2), .second, .val (.int fl), .unset, .unset, .unset, .unset, .unset, .unset, .unset] [(.int fl)]))
  refine own_fs (XS.iconst X0.here hx rfl (hb hby at_2) (Steps.refl _)) ?_
  show own_G p.tables e below _ (s₁.setTop (mkF m 3 #[.val (.long p1), .second, .val (.long p2), .second, .val (.int fl), .unset, .unset, .unset, .unset, .unset, .unset, .unset] [(.int (1 : Int32)), (.int fl)]))
  refine own_fs (XS.iand X0.here hx rfl (hb hby at_3) rfl (Steps.refl _)) ?_
  show own_G p.tables e below _ (s₁.setTop (mkF m 4 #[.val (.long p1), .second, .val (.long p2), .second, .val (.int fl), .unset, .unset, .unset, .unset, .unset, .unset, .unset] [(.int (fl &&& (1 : Int32)))]))
  by_cases hc4 : (fl &&& (1 : Int32)) = (0 : Int32)
  · refine own_fs (XS.ifYes X0.here hx rfl (pc0 := 4) (pc' := 11) rfl (hb hby at_4) rfl (XT.i0_eq_t hc4) (by decide) (by decide) (Steps.refl _)) ?_
    show own_G p.tables e below _ (s₁.setTop (mkF m 11 #[.val (.long p1), .second, .val (.long p2), .second, .val (.int fl), .unset, .unset, .unset, .unset, .unset, .unset, .unset] []))
    refine own_fs (XS.iconst X0.here hx rfl (hb hby at_11) (Steps.refl _)) ?_
    show own_G p.tables e below _ (s₁.setTop (mkF m 12 #[.val (.long p1), .second, .val (.long p2), .second, .val (.int fl), .unset, .unset, .unset, .unset, .unset, .unset, .unset] [(.int (0 : Int32))]))
    refine own_fs (XS.istore X0.here hx rfl (hb hby at_12) rfl (l' := #[.val (.long p1), .second, .val (.long p2), .second, .val (.int fl), .val (.int (0 : Int32)), .unset, .unset, .unset, .unset, .unset, .unset]) rfl (Steps.refl _)) ?_
    show own_G p.tables e below _ (s₁.setTop (mkF m 14 #[.val (.long p1), .second, .val (.long p2), .second, .val (.int fl), .val (.int (0 : Int32)), .unset, .unset, .unset, .unset, .unset, .unset] []))
    refine own_fs (XS.iload X0.here hx rfl (hb hby at_14) rfl (Steps.refl _)) ?_
    show own_G p.tables e below _ (s₁.setTop (mkF m 16 #[.val (.long p1), .second, .val (.long p2), .second, .val (.int fl), .val (.int (0 : Int32)), .unset, .unset, .unset, .unset, .unset, .unset] [(.int fl)]))
    refine own_fs (XS.iconst X0.here hx rfl (hb hby at_16) (Steps.refl _)) ?_
    show own_G p.tables e below _ (s₁.setTop (mkF m 17 #[.val (.long p1), .second, .val (.long p2), .second, .val (.int fl), .val (.int (0 : Int32)), .unset, .unset, .unset, .unset, .unset, .unset] [(.int (2 : Int32)), (.int fl)]))
    refine own_fs (XS.iand X0.here hx rfl (hb hby at_17) rfl (Steps.refl _)) ?_
    show own_G p.tables e below _ (s₁.setTop (mkF m 18 #[.val (.long p1), .second, .val (.long p2), .second, .val (.int fl), .val (.int (0 : Int32)), .unset, .unset, .unset, .unset, .unset, .unset] [(.int (fl &&& (2 : Int32)))]))
    by_cases hc18 : (fl &&& (2 : Int32)) = (0 : Int32)
    · refine own_fs (XS.ifYes X0.here hx rfl (pc0 := 18) (pc' := 25) rfl (hb hby at_18) rfl (XT.i0_eq_t hc18) (by decide) (by decide) (Steps.refl _)) ?_
      show own_G p.tables e below _ (s₁.setTop (mkF m 25 #[.val (.long p1), .second, .val (.long p2), .second, .val (.int fl), .val (.int (0 : Int32)), .unset, .unset, .unset, .unset, .unset, .unset] []))
      refine own_fs (XS.iconst X0.here hx rfl (hb hby at_25) (Steps.refl _)) ?_
      show own_G p.tables e below _ (s₁.setTop (mkF m 26 #[.val (.long p1), .second, .val (.long p2), .second, .val (.int fl), .val (.int (0 : Int32)), .unset, .unset, .unset, .unset, .unset, .unset] [(.int (0 : Int32))]))
      refine own_fs (XS.istore X0.here hx rfl (hb hby at_26) rfl (l' := #[.val (.long p1), .second, .val (.long p2), .second, .val (.int fl), .val (.int (0 : Int32)), .val (.int (0 : Int32)), .unset, .unset, .unset, .unset, .unset]) rfl (Steps.refl _)) ?_
      have J40 : ∀ (lb : Int64), own_G p.tables e below (own_P s (own_law_Q Z p1 p2 fl aS aM aF aW aN h0 n0) room_1.cells room_1.slots) (s₁.setTop (mkF m 40 #[.val (.long p1), .second, .val (.long p2), .second, .val (.int fl), .val (.int (0 : Int32)), .val (.int (0 : Int32)), .unset, .unset, .unset, .unset, .unset] [(.long lb)])) := by
        intro lb
        show own_G p.tables e below _ (s₁.setTop (mkF m 40 #[.val (.long p1), .second, .val (.long p2), .second, .val (.int fl), .val (.int (0 : Int32)), .val (.int (0 : Int32)), .unset, .unset, .unset, .unset, .unset] [(.long lb)]))
        refine own_fs (XS.lstore X0.here hx rfl (hb hby at_40) rfl (l' := #[.val (.long p1), .second, .val (.long p2), .second, .val (.int fl), .val (.int (0 : Int32)), .val (.int (0 : Int32)), .val (.long lb), .second, .unset, .unset, .unset]) rfl (Steps.refl _)) ?_
        show own_G p.tables e below _ (s₁.setTop (mkF m 42 #[.val (.long p1), .second, .val (.long p2), .second, .val (.int fl), .val (.int (0 : Int32)), .val (.int (0 : Int32)), .val (.long lb), .second, .unset, .unset, .unset] []))
        rcases own_dec p1 lb with ⟨cc, cc'⟩ | ⟨cc, cc'⟩
        · show own_G p.tables e below _ (s₁.setTop (mkF m 42 #[.val (.long p1), .second, .val (.long p2), .second, .val (.int fl), .val (.int (0 : Int32)), .val (.int (0 : Int32)), .val (.long lb), .second, .unset, .unset, .unset] []))
          refine own_fs (XS.lloadN X0.here hx rfl (hb hby at_42) rfl (Steps.refl _)) ?_
          show own_G p.tables e below _ (s₁.setTop (mkF m 43 #[.val (.long p1), .second, .val (.long p2), .second, .val (.int fl), .val (.int (0 : Int32)), .val (.int (0 : Int32)), .val (.long lb), .second, .unset, .unset, .unset] [(.long p1)]))
          refine own_fs (XS.lload X0.here hx rfl (hb hby at_43) rfl (Steps.refl _)) ?_
          show own_G p.tables e below _ (s₁.setTop (mkF m 45 #[.val (.long p1), .second, .val (.long p2), .second, .val (.int fl), .val (.int (0 : Int32)), .val (.int (0 : Int32)), .val (.long lb), .second, .unset, .unset, .unset] [(.long lb), (.long p1)]))
          refine own_fs (XS.iload X0.here hx rfl (hb hby at_45) rfl (Steps.refl _)) ?_
          show own_G p.tables e below _ (s₁.setTop (mkF m 47 #[.val (.long p1), .second, .val (.long p2), .second, .val (.int fl), .val (.int (0 : Int32)), .val (.int (0 : Int32)), .val (.long lb), .second, .unset, .unset, .unset] [(.int (0 : Int32)), (.long lb), (.long p1)]))
          refine own_fs (XS.iload X0.here hx rfl (hb hby at_47) rfl (Steps.refl _)) ?_
          show own_G p.tables e below _ (s₁.setTop (mkF m 49 #[.val (.long p1), .second, .val (.long p2), .second, .val (.int fl), .val (.int (0 : Int32)), .val (.int (0 : Int32)), .val (.long lb), .second, .unset, .unset, .unset] [(.int (0 : Int32)), (.int (0 : Int32)), (.long lb), (.long p1)]))
          have Zs3 : n0 ≤ h0.size := Z0
          obtain ⟨_, _, ⟨T2, L2, k2, n2⟩, -, X2, ⟨Lc2, hQ2, l2, y2, z2⟩, st2⟩ := Jvm.LawKit.callS X0 hx (y := (⟨"com/example/cast3/cast3/Relation", "of", "(JJZZ)Lcom/example/cast3/cast3/Relation;"⟩ : MethodName)) hown (mvT hZ (hw _ (List.mem_of_getElem? (i := 0) rfl))) (mvT hZ (hw _ (List.mem_of_getElem? (i := 1) rfl))) (mvT hZ (hw _ (List.mem_of_getElem? (i := 2) rfl))) (mvT hZ (hw _ (List.mem_of_getElem? (i := 3) rfl))) (by decide) (backOf (W := 0) (own_rof l Z a0 hw [] aS aM aF aW aN p1 lb (0 : Int32) (0 : Int32) h0 n0 Zs3 hS_SELF hS_MUTUAL hS_FOLLOWING hS_FOLLOWER hS_NONE) hZ (hw _ (List.mem_of_getElem? (i := 3) rfl)) (hw _ (List.mem_of_getElem? (i := 2) rfl)) (by decide) (by decide)) (g := (mkF m 49 #[.val (.long p1), .second, .val (.long p2), .second, .val (.int fl), .val (.int (0 : Int32)), .val (.int (0 : Int32)), .val (.long lb), .second, .unset, .unset, .unset] [(.int (0 : Int32)), (.int (0 : Int32)), (.long lb), (.long p1)])) rfl (by rw [hml]; rfl) (argsL := [(.long p1), (.long lb), (.int (0 : Int32)), (.int (0 : Int32))]) (rest := []) (lenOf own_pd0 rfl) rfl (by show 2 * 0 + _ ≤ _; exact Nat.le_of_eq rfl) (hb hby at_49) (fun _ _ => ⟨rfl, e0, (by decide : 0 + 0 ≤ _), (by decide : 0 + 0 ≤ _)⟩)
          dsimp only [Pt.U, Pt.locs, Pt.cells, Pt.slots] at X2 l2 y2 z2 st2 hQ2
          subst l2 y2 z2
          obtain ⟨rfl, Nq2, e2⟩ := hQ2
          have N2 := Fr.app N0 Nq2
          refine own_fs (st2 _ (Steps.refl _)) ?_
          show own_G p.tables e below _ (T2.setTop (mkF m 52 #[.val (.long p1), .second, .val (.long p2), .second, .val (.int fl), .val (.int (0 : Int32)), .val (.int (0 : Int32)), .val (.long lb), .second, .unset, .unset, .unset] [(.ref (own_of aS aM aF aW aN p1 lb (0 : Int32) (0 : Int32)))]))
          rw [show own_of aS aM aF aW aN p1 lb (0 : Int32) (0 : Int32) = aS from by simp [own_of, cc']]
          show own_G p.tables e below _ (T2.setTop (mkF m 52 #[.val (.long p1), .second, .val (.long p2), .second, .val (.int fl), .val (.int (0 : Int32)), .val (.int (0 : Int32)), .val (.long lb), .second, .unset, .unset, .unset] [(.ref aS)]))
          refine own_fs (XS.astore X2.here hx rfl (hb hby at_52) rfl rfl (l' := #[.val (.long p1), .second, .val (.long p2), .second, .val (.int fl), .val (.int (0 : Int32)), .val (.int (0 : Int32)), .val (.long lb), .second, .val (.ref aS), .unset, .unset]) rfl (Steps.refl _)) ?_
          show own_G p.tables e below _ (T2.setTop (mkF m 54 #[.val (.long p1), .second, .val (.long p2), .second, .val (.int fl), .val (.int (0 : Int32)), .val (.int (0 : Int32)), .val (.long lb), .second, .val (.ref aS), .unset, .unset] []))
          refine own_fs (XS.aload X2.here hx rfl (hb hby at_54) rfl rfl (Steps.refl _)) ?_
          show own_G p.tables e below _ (T2.setTop (mkF m 56 #[.val (.long p1), .second, .val (.long p2), .second, .val (.int fl), .val (.int (0 : Int32)), .val (.int (0 : Int32)), .val (.long lb), .second, .val (.ref aS), .unset, .unset] [(.ref aS)]))
          refine own_fs (XS.ifnonnullYes X2.here hx rfl (pc0 := 56) (pc' := 61) rfl (hb hby at_56) rfl (by decide) (by decide) (Steps.refl _)) ?_
          show own_G p.tables e below _ (T2.setTop (mkF m 61 #[.val (.long p1), .second, .val (.long p2), .second, .val (.int fl), .val (.int (0 : Int32)), .val (.int (0 : Int32)), .val (.long lb), .second, .val (.ref aS), .unset, .unset] []))
          refine own_fs (XS.lloadN X2.here hx rfl (hb hby at_61) rfl (Steps.refl _)) ?_
          show own_G p.tables e below _ (T2.setTop (mkF m 62 #[.val (.long p1), .second, .val (.long p2), .second, .val (.int fl), .val (.int (0 : Int32)), .val (.int (0 : Int32)), .val (.long lb), .second, .val (.ref aS), .unset, .unset] [(.long p1)]))
          refine own_fs (XS.lload X2.here hx rfl (hb hby at_62) rfl (Steps.refl _)) ?_
          show own_G p.tables e below _ (T2.setTop (mkF m 64 #[.val (.long p1), .second, .val (.long p2), .second, .val (.int fl), .val (.int (0 : Int32)), .val (.int (0 : Int32)), .val (.long lb), .second, .val (.ref aS), .unset, .unset] [(.long lb), (.long p1)]))
          refine own_fs (XT.lcmp X2.here hx rfl (hb hby at_64) rfl (Steps.refl _)) ?_
          show own_G p.tables e below _ (T2.setTop (mkF m 65 #[.val (.long p1), .second, .val (.long p2), .second, .val (.int fl), .val (.int (0 : Int32)), .val (.int (0 : Int32)), .val (.long lb), .second, .val (.ref aS), .unset, .unset] [(.int (XT.cmpL p1 lb))]))
          refine own_fs (XS.ifNo X2.here hx rfl (hb hby at_65) rfl (XT.ll_ne_f cc) (Steps.refl _)) ?_
          show own_G p.tables e below _ (T2.setTop (mkF m 68 #[.val (.long p1), .second, .val (.long p2), .second, .val (.int fl), .val (.int (0 : Int32)), .val (.int (0 : Int32)), .val (.long lb), .second, .val (.ref aS), .unset, .unset] []))
          refine own_fs (XS.aload X2.here hx rfl (hb hby at_68) rfl rfl (Steps.refl _)) ?_
          show own_G p.tables e below _ (T2.setTop (mkF m 70 #[.val (.long p1), .second, .val (.long p2), .second, .val (.int fl), .val (.int (0 : Int32)), .val (.int (0 : Int32)), .val (.long lb), .second, .val (.ref aS), .unset, .unset] [(.ref aS)]))
          obtain ⟨T4, X4, e4, st4⟩ := getS2 X2 hx hZ hown (host := "") (Or.inl (hw _ (List.mem_of_getElem? (i := 6) rfl))) Via.refl e2 hS_SELF (g := (mkF m 70 #[.val (.long p1), .second, .val (.long p2), .second, .val (.int fl), .val (.int (0 : Int32)), .val (.int (0 : Int32)), .val (.long lb), .second, .val (.ref aS), .unset, .unset] [(.ref aS)])) rfl (hb hby at_70)
          refine own_fs (st4 _ (Steps.refl _)) ?_
          show own_G p.tables e below _ (T4.setTop (mkF m 73 #[.val (.long p1), .second, .val (.long p2), .second, .val (.int fl), .val (.int (0 : Int32)), .val (.int (0 : Int32)), .val (.long lb), .second, .val (.ref aS), .unset, .unset] [(.ref aS), (.ref aS)]))
          refine own_fs (Jvm.RoadKit.acmp (g := (mkF m 73 #[.val (.long p1), .second, .val (.long p2), .second, .val (.int fl), .val (.int (0 : Int32)), .val (.int (0 : Int32)), .val (.long lb), .second, .val (.ref aS), .unset, .unset] [(.ref aS), (.ref aS)])) X4 hx rfl rfl rfl (pc0 := 73) (pc' := 76) (same := true) rfl (hb hby at_73) rfl (decide_eq_true (congrArg Value.ref rfl)) (by decide) (by decide) (Steps.refl _)) ?_
          show own_G p.tables e below _ (T4.setTop (mkF m 76 #[.val (.long p1), .second, .val (.long p2), .second, .val (.int fl), .val (.int (0 : Int32)), .val (.int (0 : Int32)), .val (.long lb), .second, .val (.ref aS), .unset, .unset] []))
          refine own_fs (XS.iconst X4.here hx rfl (hb hby at_76) (Steps.refl _)) ?_
          show own_G p.tables e below _ (T4.setTop (mkF m 77 #[.val (.long p1), .second, .val (.long p2), .second, .val (.int fl), .val (.int (0 : Int32)), .val (.int (0 : Int32)), .val (.long lb), .second, .val (.ref aS), .unset, .unset] [(.int (1 : Int32))]))
          refine own_fs (XS.goto X4.here hx rfl (pc0 := 77) (pc' := 81) rfl (hb hby at_77) (by decide) (by decide) (Steps.refl _)) ?_
          show own_G p.tables e below _ (T4.setTop (mkF m 81 #[.val (.long p1), .second, .val (.long p2), .second, .val (.int fl), .val (.int (0 : Int32)), .val (.int (0 : Int32)), .val (.long lb), .second, .val (.ref aS), .unset, .unset] [(.int (1 : Int32))]))
          exact own_retN X4 hx (t := .boolean) Bd.returns hlk (by simp) (hb hby at_81) (by decide) (by decide) e4 ⟨rfl, N2⟩
        · show own_G p.tables e below _ (s₁.setTop (mkF m 42 #[.val (.long p1), .second, .val (.long p2), .second, .val (.int fl), .val (.int (0 : Int32)), .val (.int (0 : Int32)), .val (.long lb), .second, .unset, .unset, .unset] []))
          refine own_fs (XS.lloadN X0.here hx rfl (hb hby at_42) rfl (Steps.refl _)) ?_
          show own_G p.tables e below _ (s₁.setTop (mkF m 43 #[.val (.long p1), .second, .val (.long p2), .second, .val (.int fl), .val (.int (0 : Int32)), .val (.int (0 : Int32)), .val (.long lb), .second, .unset, .unset, .unset] [(.long p1)]))
          refine own_fs (XS.lload X0.here hx rfl (hb hby at_43) rfl (Steps.refl _)) ?_
          show own_G p.tables e below _ (s₁.setTop (mkF m 45 #[.val (.long p1), .second, .val (.long p2), .second, .val (.int fl), .val (.int (0 : Int32)), .val (.int (0 : Int32)), .val (.long lb), .second, .unset, .unset, .unset] [(.long lb), (.long p1)]))
          refine own_fs (XS.iload X0.here hx rfl (hb hby at_45) rfl (Steps.refl _)) ?_
          show own_G p.tables e below _ (s₁.setTop (mkF m 47 #[.val (.long p1), .second, .val (.long p2), .second, .val (.int fl), .val (.int (0 : Int32)), .val (.int (0 : Int32)), .val (.long lb), .second, .unset, .unset, .unset] [(.int (0 : Int32)), (.long lb), (.long p1)]))
          refine own_fs (XS.iload X0.here hx rfl (hb hby at_47) rfl (Steps.refl _)) ?_
          show own_G p.tables e below _ (s₁.setTop (mkF m 49 #[.val (.long p1), .second, .val (.long p2), .second, .val (.int fl), .val (.int (0 : Int32)), .val (.int (0 : Int32)), .val (.long lb), .second, .unset, .unset, .unset] [(.int (0 : Int32)), (.int (0 : Int32)), (.long lb), (.long p1)]))
          have Zs7 : n0 ≤ h0.size := Z0
          obtain ⟨_, _, ⟨T6, L6, k6, n6⟩, -, X6, ⟨Lc6, hQ6, l6, y6, z6⟩, st6⟩ := Jvm.LawKit.callS X0 hx (y := (⟨"com/example/cast3/cast3/Relation", "of", "(JJZZ)Lcom/example/cast3/cast3/Relation;"⟩ : MethodName)) hown (mvT hZ (hw _ (List.mem_of_getElem? (i := 0) rfl))) (mvT hZ (hw _ (List.mem_of_getElem? (i := 1) rfl))) (mvT hZ (hw _ (List.mem_of_getElem? (i := 2) rfl))) (mvT hZ (hw _ (List.mem_of_getElem? (i := 3) rfl))) (by decide) (backOf (W := 0) (own_rof l Z a0 hw [] aS aM aF aW aN p1 lb (0 : Int32) (0 : Int32) h0 n0 Zs7 hS_SELF hS_MUTUAL hS_FOLLOWING hS_FOLLOWER hS_NONE) hZ (hw _ (List.mem_of_getElem? (i := 3) rfl)) (hw _ (List.mem_of_getElem? (i := 2) rfl)) (by decide) (by decide)) (g := (mkF m 49 #[.val (.long p1), .second, .val (.long p2), .second, .val (.int fl), .val (.int (0 : Int32)), .val (.int (0 : Int32)), .val (.long lb), .second, .unset, .unset, .unset] [(.int (0 : Int32)), (.int (0 : Int32)), (.long lb), (.long p1)])) rfl (by rw [hml]; rfl) (argsL := [(.long p1), (.long lb), (.int (0 : Int32)), (.int (0 : Int32))]) (rest := []) (lenOf own_pd0 rfl) rfl (by show 2 * 0 + _ ≤ _; exact Nat.le_of_eq rfl) (hb hby at_49) (fun _ _ => ⟨rfl, e0, (by decide : 0 + 0 ≤ _), (by decide : 0 + 0 ≤ _)⟩)
          dsimp only [Pt.U, Pt.locs, Pt.cells, Pt.slots] at X6 l6 y6 z6 st6 hQ6
          subst l6 y6 z6
          obtain ⟨rfl, Nq6, e6⟩ := hQ6
          have N6 := Fr.app N0 Nq6
          refine own_fs (st6 _ (Steps.refl _)) ?_
          show own_G p.tables e below _ (T6.setTop (mkF m 52 #[.val (.long p1), .second, .val (.long p2), .second, .val (.int fl), .val (.int (0 : Int32)), .val (.int (0 : Int32)), .val (.long lb), .second, .unset, .unset, .unset] [(.ref (own_of aS aM aF aW aN p1 lb (0 : Int32) (0 : Int32)))]))
          rw [show own_of aS aM aF aW aN p1 lb (0 : Int32) (0 : Int32) = aN from by simp [own_of, cc']]
          show own_G p.tables e below _ (T6.setTop (mkF m 52 #[.val (.long p1), .second, .val (.long p2), .second, .val (.int fl), .val (.int (0 : Int32)), .val (.int (0 : Int32)), .val (.long lb), .second, .unset, .unset, .unset] [(.ref aN)]))
          refine own_fs (XS.astore X6.here hx rfl (hb hby at_52) rfl rfl (l' := #[.val (.long p1), .second, .val (.long p2), .second, .val (.int fl), .val (.int (0 : Int32)), .val (.int (0 : Int32)), .val (.long lb), .second, .val (.ref aN), .unset, .unset]) rfl (Steps.refl _)) ?_
          show own_G p.tables e below _ (T6.setTop (mkF m 54 #[.val (.long p1), .second, .val (.long p2), .second, .val (.int fl), .val (.int (0 : Int32)), .val (.int (0 : Int32)), .val (.long lb), .second, .val (.ref aN), .unset, .unset] []))
          refine own_fs (XS.aload X6.here hx rfl (hb hby at_54) rfl rfl (Steps.refl _)) ?_
          show own_G p.tables e below _ (T6.setTop (mkF m 56 #[.val (.long p1), .second, .val (.long p2), .second, .val (.int fl), .val (.int (0 : Int32)), .val (.int (0 : Int32)), .val (.long lb), .second, .val (.ref aN), .unset, .unset] [(.ref aN)]))
          refine own_fs (XS.ifnonnullYes X6.here hx rfl (pc0 := 56) (pc' := 61) rfl (hb hby at_56) rfl (by decide) (by decide) (Steps.refl _)) ?_
          show own_G p.tables e below _ (T6.setTop (mkF m 61 #[.val (.long p1), .second, .val (.long p2), .second, .val (.int fl), .val (.int (0 : Int32)), .val (.int (0 : Int32)), .val (.long lb), .second, .val (.ref aN), .unset, .unset] []))
          refine own_fs (XS.lloadN X6.here hx rfl (hb hby at_61) rfl (Steps.refl _)) ?_
          show own_G p.tables e below _ (T6.setTop (mkF m 62 #[.val (.long p1), .second, .val (.long p2), .second, .val (.int fl), .val (.int (0 : Int32)), .val (.int (0 : Int32)), .val (.long lb), .second, .val (.ref aN), .unset, .unset] [(.long p1)]))
          refine own_fs (XS.lload X6.here hx rfl (hb hby at_62) rfl (Steps.refl _)) ?_
          show own_G p.tables e below _ (T6.setTop (mkF m 64 #[.val (.long p1), .second, .val (.long p2), .second, .val (.int fl), .val (.int (0 : Int32)), .val (.int (0 : Int32)), .val (.long lb), .second, .val (.ref aN), .unset, .unset] [(.long lb), (.long p1)]))
          refine own_fs (XT.lcmp X6.here hx rfl (hb hby at_64) rfl (Steps.refl _)) ?_
          show own_G p.tables e below _ (T6.setTop (mkF m 65 #[.val (.long p1), .second, .val (.long p2), .second, .val (.int fl), .val (.int (0 : Int32)), .val (.int (0 : Int32)), .val (.long lb), .second, .val (.ref aN), .unset, .unset] [(.int (XT.cmpL p1 lb))]))
          refine own_fs (XS.ifYes X6.here hx rfl (pc0 := 65) (pc' := 82) rfl (hb hby at_65) rfl (XT.ll_ne_t cc) (by decide) (by decide) (Steps.refl _)) ?_
          show own_G p.tables e below _ (T6.setTop (mkF m 82 #[.val (.long p1), .second, .val (.long p2), .second, .val (.int fl), .val (.int (0 : Int32)), .val (.int (0 : Int32)), .val (.long lb), .second, .val (.ref aN), .unset, .unset] []))
          refine own_fs (XS.aload X6.here hx rfl (hb hby at_82) rfl rfl (Steps.refl _)) ?_
          show own_G p.tables e below _ (T6.setTop (mkF m 84 #[.val (.long p1), .second, .val (.long p2), .second, .val (.int fl), .val (.int (0 : Int32)), .val (.int (0 : Int32)), .val (.long lb), .second, .val (.ref aN), .unset, .unset] [(.ref aN)]))
          obtain ⟨T8, X8, e8, st8⟩ := getS2 X6 hx hZ hown (host := "") (Or.inl (hw _ (List.mem_of_getElem? (i := 6) rfl))) Via.refl e6 hS_SELF (g := (mkF m 84 #[.val (.long p1), .second, .val (.long p2), .second, .val (.int fl), .val (.int (0 : Int32)), .val (.int (0 : Int32)), .val (.long lb), .second, .val (.ref aN), .unset, .unset] [(.ref aN)])) rfl (hb hby at_84)
          refine own_fs (st8 _ (Steps.refl _)) ?_
          show own_G p.tables e below _ (T8.setTop (mkF m 87 #[.val (.long p1), .second, .val (.long p2), .second, .val (.int fl), .val (.int (0 : Int32)), .val (.int (0 : Int32)), .val (.long lb), .second, .val (.ref aN), .unset, .unset] [(.ref aS), (.ref aN)]))
          refine own_fs (Jvm.RoadKit.acmp (g := (mkF m 87 #[.val (.long p1), .second, .val (.long p2), .second, .val (.int fl), .val (.int (0 : Int32)), .val (.int (0 : Int32)), .val (.long lb), .second, .val (.ref aN), .unset, .unset] [(.ref aS), (.ref aN)])) X8 hx rfl rfl rfl (pc0 := 87) (pc' := 92) (same := false) rfl (hb hby at_87) rfl (decide_eq_false (fun q => (Ne.symm hne_aS_aN) (Value.ref.inj q))) (by decide) (by decide) (Steps.refl _)) ?_
          show own_G p.tables e below _ (T8.setTop (mkF m 92 #[.val (.long p1), .second, .val (.long p2), .second, .val (.int fl), .val (.int (0 : Int32)), .val (.int (0 : Int32)), .val (.long lb), .second, .val (.ref aN), .unset, .unset] []))
          refine own_fs (XS.aload X8.here hx rfl (hb hby at_92) rfl rfl (Steps.refl _)) ?_
          show own_G p.tables e below _ (T8.setTop (mkF m 94 #[.val (.long p1), .second, .val (.long p2), .second, .val (.int fl), .val (.int (0 : Int32)), .val (.int (0 : Int32)), .val (.long lb), .second, .val (.ref aN), .unset, .unset] [(.ref aN)]))
          obtain ⟨T9, X9, e9, st9⟩ := getS2 X8 hx hZ hown (host := "") (Or.inl (hw _ (List.mem_of_getElem? (i := 8) rfl))) Via.refl e8 hS_MUTUAL (g := (mkF m 94 #[.val (.long p1), .second, .val (.long p2), .second, .val (.int fl), .val (.int (0 : Int32)), .val (.int (0 : Int32)), .val (.long lb), .second, .val (.ref aN), .unset, .unset] [(.ref aN)])) rfl (hb hby at_94)
          refine own_fs (st9 _ (Steps.refl _)) ?_
          show own_G p.tables e below _ (T9.setTop (mkF m 97 #[.val (.long p1), .second, .val (.long p2), .second, .val (.int fl), .val (.int (0 : Int32)), .val (.int (0 : Int32)), .val (.long lb), .second, .val (.ref aN), .unset, .unset] [(.ref aM), (.ref aN)]))
          refine own_fs (Jvm.RoadKit.acmp (g := (mkF m 97 #[.val (.long p1), .second, .val (.long p2), .second, .val (.int fl), .val (.int (0 : Int32)), .val (.int (0 : Int32)), .val (.long lb), .second, .val (.ref aN), .unset, .unset] [(.ref aM), (.ref aN)])) X9 hx rfl rfl rfl (pc0 := 97) (pc' := 100) (same := false) rfl (hb hby at_97) rfl (decide_eq_false (fun q => (Ne.symm hne_aM_aN) (Value.ref.inj q))) (by decide) (by decide) (Steps.refl _)) ?_
          show own_G p.tables e below _ (T9.setTop (mkF m 100 #[.val (.long p1), .second, .val (.long p2), .second, .val (.int fl), .val (.int (0 : Int32)), .val (.int (0 : Int32)), .val (.long lb), .second, .val (.ref aN), .unset, .unset] []))
          refine own_fs (XS.aload X9.here hx rfl (hb hby at_100) rfl rfl (Steps.refl _)) ?_
          show own_G p.tables e below _ (T9.setTop (mkF m 102 #[.val (.long p1), .second, .val (.long p2), .second, .val (.int fl), .val (.int (0 : Int32)), .val (.int (0 : Int32)), .val (.long lb), .second, .val (.ref aN), .unset, .unset] [(.ref aN)]))
          obtain ⟨T10, X10, e10, st10⟩ := getS2 X9 hx hZ hown (host := "") (Or.inl (hw _ (List.mem_of_getElem? (i := 10) rfl))) Via.refl e9 hS_FOLLOWING (g := (mkF m 102 #[.val (.long p1), .second, .val (.long p2), .second, .val (.int fl), .val (.int (0 : Int32)), .val (.int (0 : Int32)), .val (.long lb), .second, .val (.ref aN), .unset, .unset] [(.ref aN)])) rfl (hb hby at_102)
          refine own_fs (st10 _ (Steps.refl _)) ?_
          show own_G p.tables e below _ (T10.setTop (mkF m 105 #[.val (.long p1), .second, .val (.long p2), .second, .val (.int fl), .val (.int (0 : Int32)), .val (.int (0 : Int32)), .val (.long lb), .second, .val (.ref aN), .unset, .unset] [(.ref aF), (.ref aN)]))
          refine own_fs (Jvm.RoadKit.acmp (g := (mkF m 105 #[.val (.long p1), .second, .val (.long p2), .second, .val (.int fl), .val (.int (0 : Int32)), .val (.int (0 : Int32)), .val (.long lb), .second, .val (.ref aN), .unset, .unset] [(.ref aF), (.ref aN)])) X10 hx rfl rfl rfl (pc0 := 105) (pc' := 112) (same := false) rfl (hb hby at_105) rfl (decide_eq_false (fun q => (Ne.symm hne_aF_aN) (Value.ref.inj q))) (by decide) (by decide) (Steps.refl _)) ?_
          show own_G p.tables e below _ (T10.setTop (mkF m 112 #[.val (.long p1), .second, .val (.long p2), .second, .val (.int fl), .val (.int (0 : Int32)), .val (.int (0 : Int32)), .val (.long lb), .second, .val (.ref aN), .unset, .unset] []))
          refine own_fs (XS.iconst X10.here hx rfl (hb hby at_112) (Steps.refl _)) ?_
          show own_G p.tables e below _ (T10.setTop (mkF m 113 #[.val (.long p1), .second, .val (.long p2), .second, .val (.int fl), .val (.int (0 : Int32)), .val (.int (0 : Int32)), .val (.long lb), .second, .val (.ref aN), .unset, .unset] [(.int (0 : Int32))]))
          refine own_fs (XS.istore X10.here hx rfl (hb hby at_113) rfl (l' := #[.val (.long p1), .second, .val (.long p2), .second, .val (.int fl), .val (.int (0 : Int32)), .val (.int (0 : Int32)), .val (.long lb), .second, .val (.ref aN), .val (.int (0 : Int32)), .unset]) rfl (Steps.refl _)) ?_
          show own_G p.tables e below _ (T10.setTop (mkF m 115 #[.val (.long p1), .second, .val (.long p2), .second, .val (.int fl), .val (.int (0 : Int32)), .val (.int (0 : Int32)), .val (.long lb), .second, .val (.ref aN), .val (.int (0 : Int32)), .unset] []))
          refine own_fs (XS.aload X10.here hx rfl (hb hby at_115) rfl rfl (Steps.refl _)) ?_
          show own_G p.tables e below _ (T10.setTop (mkF m 117 #[.val (.long p1), .second, .val (.long p2), .second, .val (.int fl), .val (.int (0 : Int32)), .val (.int (0 : Int32)), .val (.long lb), .second, .val (.ref aN), .val (.int (0 : Int32)), .unset] [(.ref aN)]))
          obtain ⟨T11, X11, e11, st11⟩ := getS2 X10 hx hZ hown (host := "") (Or.inl (hw _ (List.mem_of_getElem? (i := 8) rfl))) Via.refl e10 hS_MUTUAL (g := (mkF m 117 #[.val (.long p1), .second, .val (.long p2), .second, .val (.int fl), .val (.int (0 : Int32)), .val (.int (0 : Int32)), .val (.long lb), .second, .val (.ref aN), .val (.int (0 : Int32)), .unset] [(.ref aN)])) rfl (hb hby at_117)
          refine own_fs (st11 _ (Steps.refl _)) ?_
          show own_G p.tables e below _ (T11.setTop (mkF m 120 #[.val (.long p1), .second, .val (.long p2), .second, .val (.int fl), .val (.int (0 : Int32)), .val (.int (0 : Int32)), .val (.long lb), .second, .val (.ref aN), .val (.int (0 : Int32)), .unset] [(.ref aM), (.ref aN)]))
          refine own_fs (Jvm.RoadKit.acmp (g := (mkF m 120 #[.val (.long p1), .second, .val (.long p2), .second, .val (.int fl), .val (.int (0 : Int32)), .val (.int (0 : Int32)), .val (.long lb), .second, .val (.ref aN), .val (.int (0 : Int32)), .unset] [(.ref aM), (.ref aN)])) X11 hx rfl rfl rfl (pc0 := 120) (pc' := 123) (same := false) rfl (hb hby at_120) rfl (decide_eq_false (fun q => (Ne.symm hne_aM_aN) (Value.ref.inj q))) (by decide) (by decide) (Steps.refl _)) ?_
          show own_G p.tables e below _ (T11.setTop (mkF m 123 #[.val (.long p1), .second, .val (.long p2), .second, .val (.int fl), .val (.int (0 : Int32)), .val (.int (0 : Int32)), .val (.long lb), .second, .val (.ref aN), .val (.int (0 : Int32)), .unset] []))
          refine own_fs (XS.aload X11.here hx rfl (hb hby at_123) rfl rfl (Steps.refl _)) ?_
          show own_G p.tables e below _ (T11.setTop (mkF m 125 #[.val (.long p1), .second, .val (.long p2), .second, .val (.int fl), .val (.int (0 : Int32)), .val (.int (0 : Int32)), .val (.long lb), .second, .val (.ref aN), .val (.int (0 : Int32)), .unset] [(.ref aN)]))
          obtain ⟨T12, X12, e12, st12⟩ := getS2 X11 hx hZ hown (host := "") (Or.inl (hw _ (List.mem_of_getElem? (i := 12) rfl))) Via.refl e11 hS_FOLLOWER (g := (mkF m 125 #[.val (.long p1), .second, .val (.long p2), .second, .val (.int fl), .val (.int (0 : Int32)), .val (.int (0 : Int32)), .val (.long lb), .second, .val (.ref aN), .val (.int (0 : Int32)), .unset] [(.ref aN)])) rfl (hb hby at_125)
          refine own_fs (st12 _ (Steps.refl _)) ?_
          show own_G p.tables e below _ (T12.setTop (mkF m 128 #[.val (.long p1), .second, .val (.long p2), .second, .val (.int fl), .val (.int (0 : Int32)), .val (.int (0 : Int32)), .val (.long lb), .second, .val (.ref aN), .val (.int (0 : Int32)), .unset] [(.ref aW), (.ref aN)]))
          refine own_fs (Jvm.RoadKit.acmp (g := (mkF m 128 #[.val (.long p1), .second, .val (.long p2), .second, .val (.int fl), .val (.int (0 : Int32)), .val (.int (0 : Int32)), .val (.long lb), .second, .val (.ref aN), .val (.int (0 : Int32)), .unset] [(.ref aW), (.ref aN)])) X12 hx rfl rfl rfl (pc0 := 128) (pc' := 135) (same := false) rfl (hb hby at_128) rfl (decide_eq_false (fun q => (Ne.symm hne_aW_aN) (Value.ref.inj q))) (by decide) (by decide) (Steps.refl _)) ?_
          show own_G p.tables e below _ (T12.setTop (mkF m 135 #[.val (.long p1), .second, .val (.long p2), .second, .val (.int fl), .val (.int (0 : Int32)), .val (.int (0 : Int32)), .val (.long lb), .second, .val (.ref aN), .val (.int (0 : Int32)), .unset] []))
          refine own_fs (XS.iconst X12.here hx rfl (hb hby at_135) (Steps.refl _)) ?_
          show own_G p.tables e below _ (T12.setTop (mkF m 136 #[.val (.long p1), .second, .val (.long p2), .second, .val (.int fl), .val (.int (0 : Int32)), .val (.int (0 : Int32)), .val (.long lb), .second, .val (.ref aN), .val (.int (0 : Int32)), .unset] [(.int (0 : Int32))]))
          refine own_fs (XS.istore X12.here hx rfl (hb hby at_136) rfl (l' := #[.val (.long p1), .second, .val (.long p2), .second, .val (.int fl), .val (.int (0 : Int32)), .val (.int (0 : Int32)), .val (.long lb), .second, .val (.ref aN), .val (.int (0 : Int32)), .val (.int (0 : Int32))]) rfl (Steps.refl _)) ?_
          show own_G p.tables e below _ (T12.setTop (mkF m 138 #[.val (.long p1), .second, .val (.long p2), .second, .val (.int fl), .val (.int (0 : Int32)), .val (.int (0 : Int32)), .val (.long lb), .second, .val (.ref aN), .val (.int (0 : Int32)), .val (.int (0 : Int32))] []))
          refine own_fs (XS.iload X12.here hx rfl (hb hby at_138) rfl (Steps.refl _)) ?_
          show own_G p.tables e below _ (T12.setTop (mkF m 140 #[.val (.long p1), .second, .val (.long p2), .second, .val (.int fl), .val (.int (0 : Int32)), .val (.int (0 : Int32)), .val (.long lb), .second, .val (.ref aN), .val (.int (0 : Int32)), .val (.int (0 : Int32))] [(.int (0 : Int32))]))
          refine own_fs (XS.iload X12.here hx rfl (hb hby at_140) rfl (Steps.refl _)) ?_
          show own_G p.tables e below _ (T12.setTop (mkF m 142 #[.val (.long p1), .second, .val (.long p2), .second, .val (.int fl), .val (.int (0 : Int32)), .val (.int (0 : Int32)), .val (.long lb), .second, .val (.ref aN), .val (.int (0 : Int32)), .val (.int (0 : Int32))] [(.int (0 : Int32)), (.int (0 : Int32))]))
          refine own_fs (XS.icmpNo X12.here hx rfl (hb hby at_142) rfl (XT.ii_ne_f (by decide : (0 : Int32) = (0 : Int32))) (Steps.refl _)) ?_
          show own_G p.tables e below _ (T12.setTop (mkF m 145 #[.val (.long p1), .second, .val (.long p2), .second, .val (.int fl), .val (.int (0 : Int32)), .val (.int (0 : Int32)), .val (.long lb), .second, .val (.ref aN), .val (.int (0 : Int32)), .val (.int (0 : Int32))] []))
          refine own_fs (XS.iload X12.here hx rfl (hb hby at_145) rfl (Steps.refl _)) ?_
          show own_G p.tables e below _ (T12.setTop (mkF m 147 #[.val (.long p1), .second, .val (.long p2), .second, .val (.int fl), .val (.int (0 : Int32)), .val (.int (0 : Int32)), .val (.long lb), .second, .val (.ref aN), .val (.int (0 : Int32)), .val (.int (0 : Int32))] [(.int (0 : Int32))]))
          refine own_fs (XS.iload X12.here hx rfl (hb hby at_147) rfl (Steps.refl _)) ?_
          show own_G p.tables e below _ (T12.setTop (mkF m 149 #[.val (.long p1), .second, .val (.long p2), .second, .val (.int fl), .val (.int (0 : Int32)), .val (.int (0 : Int32)), .val (.long lb), .second, .val (.ref aN), .val (.int (0 : Int32)), .val (.int (0 : Int32))] [(.int (0 : Int32)), (.int (0 : Int32))]))
          refine own_fs (XS.icmpNo X12.here hx rfl (hb hby at_149) rfl (XT.ii_ne_f (by decide : (0 : Int32) = (0 : Int32))) (Steps.refl _)) ?_
          show own_G p.tables e below _ (T12.setTop (mkF m 152 #[.val (.long p1), .second, .val (.long p2), .second, .val (.int fl), .val (.int (0 : Int32)), .val (.int (0 : Int32)), .val (.long lb), .second, .val (.ref aN), .val (.int (0 : Int32)), .val (.int (0 : Int32))] []))
          refine own_fs (XS.iconst X12.here hx rfl (hb hby at_152) (Steps.refl _)) ?_
          show own_G p.tables e below _ (T12.setTop (mkF m 153 #[.val (.long p1), .second, .val (.long p2), .second, .val (.int fl), .val (.int (0 : Int32)), .val (.int (0 : Int32)), .val (.long lb), .second, .val (.ref aN), .val (.int (0 : Int32)), .val (.int (0 : Int32))] [(.int (1 : Int32))]))
          refine own_fs (XS.goto X12.here hx rfl (pc0 := 153) (pc' := 157) rfl (hb hby at_153) (by decide) (by decide) (Steps.refl _)) ?_
          show own_G p.tables e below _ (T12.setTop (mkF m 157 #[.val (.long p1), .second, .val (.long p2), .second, .val (.int fl), .val (.int (0 : Int32)), .val (.int (0 : Int32)), .val (.long lb), .second, .val (.ref aN), .val (.int (0 : Int32)), .val (.int (0 : Int32))] [(.int (1 : Int32))]))
          exact own_retN X12 hx (t := .boolean) Bd.returns hlk (by simp) (hb hby at_157) (by decide) (by decide) e12 ⟨rfl, N6⟩
      show own_G p.tables e below _ (s₁.setTop (mkF m 28 #[.val (.long p1), .second, .val (.long p2), .second, .val (.int fl), .val (.int (0 : Int32)), .val (.int (0 : Int32)), .unset, .unset, .unset, .unset, .unset] []))
      refine own_fs (XS.iload X0.here hx rfl (hb hby at_28) rfl (Steps.refl _)) ?_
      show own_G p.tables e below _ (s₁.setTop (mkF m 30 #[.val (.long p1), .second, .val (.long p2), .second, .val (.int fl), .val (.int (0 : Int32)), .val (.int (0 : Int32)), .unset, .unset, .unset, .unset, .unset] [(.int fl)]))
      refine own_fs (XS.iconst X0.here hx rfl (hb hby at_30) (Steps.refl _)) ?_
      show own_G p.tables e below _ (s₁.setTop (mkF m 31 #[.val (.long p1), .second, .val (.long p2), .second, .val (.int fl), .val (.int (0 : Int32)), .val (.int (0 : Int32)), .unset, .unset, .unset, .unset, .unset] [(.int (4 : Int32)), (.int fl)]))
      refine own_fs (XS.iand X0.here hx rfl (hb hby at_31) rfl (Steps.refl _)) ?_
      show own_G p.tables e below _ (s₁.setTop (mkF m 32 #[.val (.long p1), .second, .val (.long p2), .second, .val (.int fl), .val (.int (0 : Int32)), .val (.int (0 : Int32)), .unset, .unset, .unset, .unset, .unset] [(.int (fl &&& (4 : Int32)))]))
      by_cases hc32 : (fl &&& (4 : Int32)) = (0 : Int32)
      · refine own_fs (XS.ifYes X0.here hx rfl (pc0 := 32) (pc' := 39) rfl (hb hby at_32) rfl (XT.i0_eq_t hc32) (by decide) (by decide) (Steps.refl _)) ?_
        show own_G p.tables e below _ (s₁.setTop (mkF m 39 #[.val (.long p1), .second, .val (.long p2), .second, .val (.int fl), .val (.int (0 : Int32)), .val (.int (0 : Int32)), .unset, .unset, .unset, .unset, .unset] []))
        refine own_fs (XS.lloadN X0.here hx rfl (hb hby at_39) rfl (Steps.refl _)) ?_
        exact J40 _
      · refine own_fs (XS.ifNo X0.here hx rfl (hb hby at_32) rfl (XT.i0_eq_f hc32) (Steps.refl _)) ?_
        show own_G p.tables e below _ (s₁.setTop (mkF m 35 #[.val (.long p1), .second, .val (.long p2), .second, .val (.int fl), .val (.int (0 : Int32)), .val (.int (0 : Int32)), .unset, .unset, .unset, .unset, .unset] []))
        refine own_fs (XS.lloadN X0.here hx rfl (hb hby at_35) rfl (Steps.refl _)) ?_
        show own_G p.tables e below _ (s₁.setTop (mkF m 36 #[.val (.long p1), .second, .val (.long p2), .second, .val (.int fl), .val (.int (0 : Int32)), .val (.int (0 : Int32)), .unset, .unset, .unset, .unset, .unset] [(.long p1)]))
        refine own_fs (XS.goto X0.here hx rfl (pc0 := 36) (pc' := 40) rfl (hb hby at_36) (by decide) (by decide) (Steps.refl _)) ?_
        exact J40 _
    · refine own_fs (XS.ifNo X0.here hx rfl (hb hby at_18) rfl (XT.i0_eq_f hc18) (Steps.refl _)) ?_
      show own_G p.tables e below _ (s₁.setTop (mkF m 21 #[.val (.long p1), .second, .val (.long p2), .second, .val (.int fl), .val (.int (0 : Int32)), .unset, .unset, .unset, .unset, .unset, .unset] []))
      refine own_fs (XS.iconst X0.here hx rfl (hb hby at_21) (Steps.refl _)) ?_
      show own_G p.tables e below _ (s₁.setTop (mkF m 22 #[.val (.long p1), .second, .val (.long p2), .second, .val (.int fl), .val (.int (0 : Int32)), .unset, .unset, .unset, .unset, .unset, .unset] [(.int (1 : Int32))]))
      refine own_fs (XS.goto X0.here hx rfl (pc0 := 22) (pc' := 26) rfl (hb hby at_22) (by decide) (by decide) (Steps.refl _)) ?_
      show own_G p.tables e below _ (s₁.setTop (mkF m 26 #[.val (.long p1), .second, .val (.long p2), .second, .val (.int fl), .val (.int (0 : Int32)), .unset, .unset, .unset, .unset, .unset, .unset] [(.int (1 : Int32))]))
      refine own_fs (XS.istore X0.here hx rfl (hb hby at_26) rfl (l' := #[.val (.long p1), .second, .val (.long p2), .second, .val (.int fl), .val (.int (0 : Int32)), .val (.int (1 : Int32)), .unset, .unset, .unset, .unset, .unset]) rfl (Steps.refl _)) ?_
      have J40 : ∀ (lb : Int64), own_G p.tables e below (own_P s (own_law_Q Z p1 p2 fl aS aM aF aW aN h0 n0) room_1.cells room_1.slots) (s₁.setTop (mkF m 40 #[.val (.long p1), .second, .val (.long p2), .second, .val (.int fl), .val (.int (0 : Int32)), .val (.int (1 : Int32)), .unset, .unset, .unset, .unset, .unset] [(.long lb)])) := by
        intro lb
        show own_G p.tables e below _ (s₁.setTop (mkF m 40 #[.val (.long p1), .second, .val (.long p2), .second, .val (.int fl), .val (.int (0 : Int32)), .val (.int (1 : Int32)), .unset, .unset, .unset, .unset, .unset] [(.long lb)]))
        refine own_fs (XS.lstore X0.here hx rfl (hb hby at_40) rfl (l' := #[.val (.long p1), .second, .val (.long p2), .second, .val (.int fl), .val (.int (0 : Int32)), .val (.int (1 : Int32)), .val (.long lb), .second, .unset, .unset, .unset]) rfl (Steps.refl _)) ?_
        show own_G p.tables e below _ (s₁.setTop (mkF m 42 #[.val (.long p1), .second, .val (.long p2), .second, .val (.int fl), .val (.int (0 : Int32)), .val (.int (1 : Int32)), .val (.long lb), .second, .unset, .unset, .unset] []))
        rcases own_dec p1 lb with ⟨cc, cc'⟩ | ⟨cc, cc'⟩
        · show own_G p.tables e below _ (s₁.setTop (mkF m 42 #[.val (.long p1), .second, .val (.long p2), .second, .val (.int fl), .val (.int (0 : Int32)), .val (.int (1 : Int32)), .val (.long lb), .second, .unset, .unset, .unset] []))
          refine own_fs (XS.lloadN X0.here hx rfl (hb hby at_42) rfl (Steps.refl _)) ?_
          show own_G p.tables e below _ (s₁.setTop (mkF m 43 #[.val (.long p1), .second, .val (.long p2), .second, .val (.int fl), .val (.int (0 : Int32)), .val (.int (1 : Int32)), .val (.long lb), .second, .unset, .unset, .unset] [(.long p1)]))
          refine own_fs (XS.lload X0.here hx rfl (hb hby at_43) rfl (Steps.refl _)) ?_
          show own_G p.tables e below _ (s₁.setTop (mkF m 45 #[.val (.long p1), .second, .val (.long p2), .second, .val (.int fl), .val (.int (0 : Int32)), .val (.int (1 : Int32)), .val (.long lb), .second, .unset, .unset, .unset] [(.long lb), (.long p1)]))
          refine own_fs (XS.iload X0.here hx rfl (hb hby at_45) rfl (Steps.refl _)) ?_
          show own_G p.tables e below _ (s₁.setTop (mkF m 47 #[.val (.long p1), .second, .val (.long p2), .second, .val (.int fl), .val (.int (0 : Int32)), .val (.int (1 : Int32)), .val (.long lb), .second, .unset, .unset, .unset] [(.int (0 : Int32)), (.long lb), (.long p1)]))
          refine own_fs (XS.iload X0.here hx rfl (hb hby at_47) rfl (Steps.refl _)) ?_
          show own_G p.tables e below _ (s₁.setTop (mkF m 49 #[.val (.long p1), .second, .val (.long p2), .second, .val (.int fl), .val (.int (0 : Int32)), .val (.int (1 : Int32)), .val (.long lb), .second, .unset, .unset, .unset] [(.int (1 : Int32)), (.int (0 : Int32)), (.long lb), (.long p1)]))
          have Zs15 : n0 ≤ h0.size := Z0
          obtain ⟨_, _, ⟨T14, L14, k14, n14⟩, -, X14, ⟨Lc14, hQ14, l14, y14, z14⟩, st14⟩ := Jvm.LawKit.callS X0 hx (y := (⟨"com/example/cast3/cast3/Relation", "of", "(JJZZ)Lcom/example/cast3/cast3/Relation;"⟩ : MethodName)) hown (mvT hZ (hw _ (List.mem_of_getElem? (i := 0) rfl))) (mvT hZ (hw _ (List.mem_of_getElem? (i := 1) rfl))) (mvT hZ (hw _ (List.mem_of_getElem? (i := 2) rfl))) (mvT hZ (hw _ (List.mem_of_getElem? (i := 3) rfl))) (by decide) (backOf (W := 0) (own_rof l Z a0 hw [] aS aM aF aW aN p1 lb (0 : Int32) (1 : Int32) h0 n0 Zs15 hS_SELF hS_MUTUAL hS_FOLLOWING hS_FOLLOWER hS_NONE) hZ (hw _ (List.mem_of_getElem? (i := 3) rfl)) (hw _ (List.mem_of_getElem? (i := 2) rfl)) (by decide) (by decide)) (g := (mkF m 49 #[.val (.long p1), .second, .val (.long p2), .second, .val (.int fl), .val (.int (0 : Int32)), .val (.int (1 : Int32)), .val (.long lb), .second, .unset, .unset, .unset] [(.int (1 : Int32)), (.int (0 : Int32)), (.long lb), (.long p1)])) rfl (by rw [hml]; rfl) (argsL := [(.long p1), (.long lb), (.int (0 : Int32)), (.int (1 : Int32))]) (rest := []) (lenOf own_pd0 rfl) rfl (by show 2 * 0 + _ ≤ _; exact Nat.le_of_eq rfl) (hb hby at_49) (fun _ _ => ⟨rfl, e0, (by decide : 0 + 0 ≤ _), (by decide : 0 + 0 ≤ _)⟩)
          dsimp only [Pt.U, Pt.locs, Pt.cells, Pt.slots] at X14 l14 y14 z14 st14 hQ14
          subst l14 y14 z14
          obtain ⟨rfl, Nq14, e14⟩ := hQ14
          have N14 := Fr.app N0 Nq14
          refine own_fs (st14 _ (Steps.refl _)) ?_
          show own_G p.tables e below _ (T14.setTop (mkF m 52 #[.val (.long p1), .second, .val (.long p2), .second, .val (.int fl), .val (.int (0 : Int32)), .val (.int (1 : Int32)), .val (.long lb), .second, .unset, .unset, .unset] [(.ref (own_of aS aM aF aW aN p1 lb (0 : Int32) (1 : Int32)))]))
          rw [show own_of aS aM aF aW aN p1 lb (0 : Int32) (1 : Int32) = aS from by simp [own_of, cc']]
          show own_G p.tables e below _ (T14.setTop (mkF m 52 #[.val (.long p1), .second, .val (.long p2), .second, .val (.int fl), .val (.int (0 : Int32)), .val (.int (1 : Int32)), .val (.long lb), .second, .unset, .unset, .unset] [(.ref aS)]))
          refine own_fs (XS.astore X14.here hx rfl (hb hby at_52) rfl rfl (l' := #[.val (.long p1), .second, .val (.long p2), .second, .val (.int fl), .val (.int (0 : Int32)), .val (.int (1 : Int32)), .val (.long lb), .second, .val (.ref aS), .unset, .unset]) rfl (Steps.refl _)) ?_
          show own_G p.tables e below _ (T14.setTop (mkF m 54 #[.val (.long p1), .second, .val (.long p2), .second, .val (.int fl), .val (.int (0 : Int32)), .val (.int (1 : Int32)), .val (.long lb), .second, .val (.ref aS), .unset, .unset] []))
          refine own_fs (XS.aload X14.here hx rfl (hb hby at_54) rfl rfl (Steps.refl _)) ?_
          show own_G p.tables e below _ (T14.setTop (mkF m 56 #[.val (.long p1), .second, .val (.long p2), .second, .val (.int fl), .val (.int (0 : Int32)), .val (.int (1 : Int32)), .val (.long lb), .second, .val (.ref aS), .unset, .unset] [(.ref aS)]))
          refine own_fs (XS.ifnonnullYes X14.here hx rfl (pc0 := 56) (pc' := 61) rfl (hb hby at_56) rfl (by decide) (by decide) (Steps.refl _)) ?_
          show own_G p.tables e below _ (T14.setTop (mkF m 61 #[.val (.long p1), .second, .val (.long p2), .second, .val (.int fl), .val (.int (0 : Int32)), .val (.int (1 : Int32)), .val (.long lb), .second, .val (.ref aS), .unset, .unset] []))
          refine own_fs (XS.lloadN X14.here hx rfl (hb hby at_61) rfl (Steps.refl _)) ?_
          show own_G p.tables e below _ (T14.setTop (mkF m 62 #[.val (.long p1), .second, .val (.long p2), .second, .val (.int fl), .val (.int (0 : Int32)), .val (.int (1 : Int32)), .val (.long lb), .second, .val (.ref aS), .unset, .unset] [(.long p1)]))
          refine own_fs (XS.lload X14.here hx rfl (hb hby at_62) rfl (Steps.refl _)) ?_
          show own_G p.tables e below _ (T14.setTop (mkF m 64 #[.val (.long p1), .second, .val (.long p2), .second, .val (.int fl), .val (.int (0 : Int32)), .val (.int (1 : Int32)), .val (.long lb), .second, .val (.ref aS), .unset, .unset] [(.long lb), (.long p1)]))
          refine own_fs (XT.lcmp X14.here hx rfl (hb hby at_64) rfl (Steps.refl _)) ?_
          show own_G p.tables e below _ (T14.setTop (mkF m 65 #[.val (.long p1), .second, .val (.long p2), .second, .val (.int fl), .val (.int (0 : Int32)), .val (.int (1 : Int32)), .val (.long lb), .second, .val (.ref aS), .unset, .unset] [(.int (XT.cmpL p1 lb))]))
          refine own_fs (XS.ifNo X14.here hx rfl (hb hby at_65) rfl (XT.ll_ne_f cc) (Steps.refl _)) ?_
          show own_G p.tables e below _ (T14.setTop (mkF m 68 #[.val (.long p1), .second, .val (.long p2), .second, .val (.int fl), .val (.int (0 : Int32)), .val (.int (1 : Int32)), .val (.long lb), .second, .val (.ref aS), .unset, .unset] []))
          refine own_fs (XS.aload X14.here hx rfl (hb hby at_68) rfl rfl (Steps.refl _)) ?_
          show own_G p.tables e below _ (T14.setTop (mkF m 70 #[.val (.long p1), .second, .val (.long p2), .second, .val (.int fl), .val (.int (0 : Int32)), .val (.int (1 : Int32)), .val (.long lb), .second, .val (.ref aS), .unset, .unset] [(.ref aS)]))
          obtain ⟨T16, X16, e16, st16⟩ := getS2 X14 hx hZ hown (host := "") (Or.inl (hw _ (List.mem_of_getElem? (i := 6) rfl))) Via.refl e14 hS_SELF (g := (mkF m 70 #[.val (.long p1), .second, .val (.long p2), .second, .val (.int fl), .val (.int (0 : Int32)), .val (.int (1 : Int32)), .val (.long lb), .second, .val (.ref aS), .unset, .unset] [(.ref aS)])) rfl (hb hby at_70)
          refine own_fs (st16 _ (Steps.refl _)) ?_
          show own_G p.tables e below _ (T16.setTop (mkF m 73 #[.val (.long p1), .second, .val (.long p2), .second, .val (.int fl), .val (.int (0 : Int32)), .val (.int (1 : Int32)), .val (.long lb), .second, .val (.ref aS), .unset, .unset] [(.ref aS), (.ref aS)]))
          refine own_fs (Jvm.RoadKit.acmp (g := (mkF m 73 #[.val (.long p1), .second, .val (.long p2), .second, .val (.int fl), .val (.int (0 : Int32)), .val (.int (1 : Int32)), .val (.long lb), .second, .val (.ref aS), .unset, .unset] [(.ref aS), (.ref aS)])) X16 hx rfl rfl rfl (pc0 := 73) (pc' := 76) (same := true) rfl (hb hby at_73) rfl (decide_eq_true (congrArg Value.ref rfl)) (by decide) (by decide) (Steps.refl _)) ?_
          show own_G p.tables e below _ (T16.setTop (mkF m 76 #[.val (.long p1), .second, .val (.long p2), .second, .val (.int fl), .val (.int (0 : Int32)), .val (.int (1 : Int32)), .val (.long lb), .second, .val (.ref aS), .unset, .unset] []))
          refine own_fs (XS.iconst X16.here hx rfl (hb hby at_76) (Steps.refl _)) ?_
          show own_G p.tables e below _ (T16.setTop (mkF m 77 #[.val (.long p1), .second, .val (.long p2), .second, .val (.int fl), .val (.int (0 : Int32)), .val (.int (1 : Int32)), .val (.long lb), .second, .val (.ref aS), .unset, .unset] [(.int (1 : Int32))]))
          refine own_fs (XS.goto X16.here hx rfl (pc0 := 77) (pc' := 81) rfl (hb hby at_77) (by decide) (by decide) (Steps.refl _)) ?_
          show own_G p.tables e below _ (T16.setTop (mkF m 81 #[.val (.long p1), .second, .val (.long p2), .second, .val (.int fl), .val (.int (0 : Int32)), .val (.int (1 : Int32)), .val (.long lb), .second, .val (.ref aS), .unset, .unset] [(.int (1 : Int32))]))
          exact own_retN X16 hx (t := .boolean) Bd.returns hlk (by simp) (hb hby at_81) (by decide) (by decide) e16 ⟨rfl, N14⟩
        · show own_G p.tables e below _ (s₁.setTop (mkF m 42 #[.val (.long p1), .second, .val (.long p2), .second, .val (.int fl), .val (.int (0 : Int32)), .val (.int (1 : Int32)), .val (.long lb), .second, .unset, .unset, .unset] []))
          refine own_fs (XS.lloadN X0.here hx rfl (hb hby at_42) rfl (Steps.refl _)) ?_
          show own_G p.tables e below _ (s₁.setTop (mkF m 43 #[.val (.long p1), .second, .val (.long p2), .second, .val (.int fl), .val (.int (0 : Int32)), .val (.int (1 : Int32)), .val (.long lb), .second, .unset, .unset, .unset] [(.long p1)]))
          refine own_fs (XS.lload X0.here hx rfl (hb hby at_43) rfl (Steps.refl _)) ?_
          show own_G p.tables e below _ (s₁.setTop (mkF m 45 #[.val (.long p1), .second, .val (.long p2), .second, .val (.int fl), .val (.int (0 : Int32)), .val (.int (1 : Int32)), .val (.long lb), .second, .unset, .unset, .unset] [(.long lb), (.long p1)]))
          refine own_fs (XS.iload X0.here hx rfl (hb hby at_45) rfl (Steps.refl _)) ?_
          show own_G p.tables e below _ (s₁.setTop (mkF m 47 #[.val (.long p1), .second, .val (.long p2), .second, .val (.int fl), .val (.int (0 : Int32)), .val (.int (1 : Int32)), .val (.long lb), .second, .unset, .unset, .unset] [(.int (0 : Int32)), (.long lb), (.long p1)]))
          refine own_fs (XS.iload X0.here hx rfl (hb hby at_47) rfl (Steps.refl _)) ?_
          show own_G p.tables e below _ (s₁.setTop (mkF m 49 #[.val (.long p1), .second, .val (.long p2), .second, .val (.int fl), .val (.int (0 : Int32)), .val (.int (1 : Int32)), .val (.long lb), .second, .unset, .unset, .unset] [(.int (1 : Int32)), (.int (0 : Int32)), (.long lb), (.long p1)]))
          have Zs19 : n0 ≤ h0.size := Z0
          obtain ⟨_, _, ⟨T18, L18, k18, n18⟩, -, X18, ⟨Lc18, hQ18, l18, y18, z18⟩, st18⟩ := Jvm.LawKit.callS X0 hx (y := (⟨"com/example/cast3/cast3/Relation", "of", "(JJZZ)Lcom/example/cast3/cast3/Relation;"⟩ : MethodName)) hown (mvT hZ (hw _ (List.mem_of_getElem? (i := 0) rfl))) (mvT hZ (hw _ (List.mem_of_getElem? (i := 1) rfl))) (mvT hZ (hw _ (List.mem_of_getElem? (i := 2) rfl))) (mvT hZ (hw _ (List.mem_of_getElem? (i := 3) rfl))) (by decide) (backOf (W := 0) (own_rof l Z a0 hw [] aS aM aF aW aN p1 lb (0 : Int32) (1 : Int32) h0 n0 Zs19 hS_SELF hS_MUTUAL hS_FOLLOWING hS_FOLLOWER hS_NONE) hZ (hw _ (List.mem_of_getElem? (i := 3) rfl)) (hw _ (List.mem_of_getElem? (i := 2) rfl)) (by decide) (by decide)) (g := (mkF m 49 #[.val (.long p1), .second, .val (.long p2), .second, .val (.int fl), .val (.int (0 : Int32)), .val (.int (1 : Int32)), .val (.long lb), .second, .unset, .unset, .unset] [(.int (1 : Int32)), (.int (0 : Int32)), (.long lb), (.long p1)])) rfl (by rw [hml]; rfl) (argsL := [(.long p1), (.long lb), (.int (0 : Int32)), (.int (1 : Int32))]) (rest := []) (lenOf own_pd0 rfl) rfl (by show 2 * 0 + _ ≤ _; exact Nat.le_of_eq rfl) (hb hby at_49) (fun _ _ => ⟨rfl, e0, (by decide : 0 + 0 ≤ _), (by decide : 0 + 0 ≤ _)⟩)
          dsimp only [Pt.U, Pt.locs, Pt.cells, Pt.slots] at X18 l18 y18 z18 st18 hQ18
          subst l18 y18 z18
          obtain ⟨rfl, Nq18, e18⟩ := hQ18
          have N18 := Fr.app N0 Nq18
          refine own_fs (st18 _ (Steps.refl _)) ?_
          show own_G p.tables e below _ (T18.setTop (mkF m 52 #[.val (.long p1), .second, .val (.long p2), .second, .val (.int fl), .val (.int (0 : Int32)), .val (.int (1 : Int32)), .val (.long lb), .second, .unset, .unset, .unset] [(.ref (own_of aS aM aF aW aN p1 lb (0 : Int32) (1 : Int32)))]))
          rw [show own_of aS aM aF aW aN p1 lb (0 : Int32) (1 : Int32) = aW from by simp [own_of, cc']]
          show own_G p.tables e below _ (T18.setTop (mkF m 52 #[.val (.long p1), .second, .val (.long p2), .second, .val (.int fl), .val (.int (0 : Int32)), .val (.int (1 : Int32)), .val (.long lb), .second, .unset, .unset, .unset] [(.ref aW)]))
          refine own_fs (XS.astore X18.here hx rfl (hb hby at_52) rfl rfl (l' := #[.val (.long p1), .second, .val (.long p2), .second, .val (.int fl), .val (.int (0 : Int32)), .val (.int (1 : Int32)), .val (.long lb), .second, .val (.ref aW), .unset, .unset]) rfl (Steps.refl _)) ?_
          show own_G p.tables e below _ (T18.setTop (mkF m 54 #[.val (.long p1), .second, .val (.long p2), .second, .val (.int fl), .val (.int (0 : Int32)), .val (.int (1 : Int32)), .val (.long lb), .second, .val (.ref aW), .unset, .unset] []))
          refine own_fs (XS.aload X18.here hx rfl (hb hby at_54) rfl rfl (Steps.refl _)) ?_
          show own_G p.tables e below _ (T18.setTop (mkF m 56 #[.val (.long p1), .second, .val (.long p2), .second, .val (.int fl), .val (.int (0 : Int32)), .val (.int (1 : Int32)), .val (.long lb), .second, .val (.ref aW), .unset, .unset] [(.ref aW)]))
          refine own_fs (XS.ifnonnullYes X18.here hx rfl (pc0 := 56) (pc' := 61) rfl (hb hby at_56) rfl (by decide) (by decide) (Steps.refl _)) ?_
          show own_G p.tables e below _ (T18.setTop (mkF m 61 #[.val (.long p1), .second, .val (.long p2), .second, .val (.int fl), .val (.int (0 : Int32)), .val (.int (1 : Int32)), .val (.long lb), .second, .val (.ref aW), .unset, .unset] []))
          refine own_fs (XS.lloadN X18.here hx rfl (hb hby at_61) rfl (Steps.refl _)) ?_
          show own_G p.tables e below _ (T18.setTop (mkF m 62 #[.val (.long p1), .second, .val (.long p2), .second, .val (.int fl), .val (.int (0 : Int32)), .val (.int (1 : Int32)), .val (.long lb), .second, .val (.ref aW), .unset, .unset] [(.long p1)]))
          refine own_fs (XS.lload X18.here hx rfl (hb hby at_62) rfl (Steps.refl _)) ?_
          show own_G p.tables e below _ (T18.setTop (mkF m 64 #[.val (.long p1), .second, .val (.long p2), .second, .val (.int fl), .val (.int (0 : Int32)), .val (.int (1 : Int32)), .val (.long lb), .second, .val (.ref aW), .unset, .unset] [(.long lb), (.long p1)]))
          refine own_fs (XT.lcmp X18.here hx rfl (hb hby at_64) rfl (Steps.refl _)) ?_
          show own_G p.tables e below _ (T18.setTop (mkF m 65 #[.val (.long p1), .second, .val (.long p2), .second, .val (.int fl), .val (.int (0 : Int32)), .val (.int (1 : Int32)), .val (.long lb), .second, .val (.ref aW), .unset, .unset] [(.int (XT.cmpL p1 lb))]))
          refine own_fs (XS.ifYes X18.here hx rfl (pc0 := 65) (pc' := 82) rfl (hb hby at_65) rfl (XT.ll_ne_t cc) (by decide) (by decide) (Steps.refl _)) ?_
          show own_G p.tables e below _ (T18.setTop (mkF m 82 #[.val (.long p1), .second, .val (.long p2), .second, .val (.int fl), .val (.int (0 : Int32)), .val (.int (1 : Int32)), .val (.long lb), .second, .val (.ref aW), .unset, .unset] []))
          refine own_fs (XS.aload X18.here hx rfl (hb hby at_82) rfl rfl (Steps.refl _)) ?_
          show own_G p.tables e below _ (T18.setTop (mkF m 84 #[.val (.long p1), .second, .val (.long p2), .second, .val (.int fl), .val (.int (0 : Int32)), .val (.int (1 : Int32)), .val (.long lb), .second, .val (.ref aW), .unset, .unset] [(.ref aW)]))
          obtain ⟨T20, X20, e20, st20⟩ := getS2 X18 hx hZ hown (host := "") (Or.inl (hw _ (List.mem_of_getElem? (i := 6) rfl))) Via.refl e18 hS_SELF (g := (mkF m 84 #[.val (.long p1), .second, .val (.long p2), .second, .val (.int fl), .val (.int (0 : Int32)), .val (.int (1 : Int32)), .val (.long lb), .second, .val (.ref aW), .unset, .unset] [(.ref aW)])) rfl (hb hby at_84)
          refine own_fs (st20 _ (Steps.refl _)) ?_
          show own_G p.tables e below _ (T20.setTop (mkF m 87 #[.val (.long p1), .second, .val (.long p2), .second, .val (.int fl), .val (.int (0 : Int32)), .val (.int (1 : Int32)), .val (.long lb), .second, .val (.ref aW), .unset, .unset] [(.ref aS), (.ref aW)]))
          refine own_fs (Jvm.RoadKit.acmp (g := (mkF m 87 #[.val (.long p1), .second, .val (.long p2), .second, .val (.int fl), .val (.int (0 : Int32)), .val (.int (1 : Int32)), .val (.long lb), .second, .val (.ref aW), .unset, .unset] [(.ref aS), (.ref aW)])) X20 hx rfl rfl rfl (pc0 := 87) (pc' := 92) (same := false) rfl (hb hby at_87) rfl (decide_eq_false (fun q => (Ne.symm hne_aS_aW) (Value.ref.inj q))) (by decide) (by decide) (Steps.refl _)) ?_
          show own_G p.tables e below _ (T20.setTop (mkF m 92 #[.val (.long p1), .second, .val (.long p2), .second, .val (.int fl), .val (.int (0 : Int32)), .val (.int (1 : Int32)), .val (.long lb), .second, .val (.ref aW), .unset, .unset] []))
          refine own_fs (XS.aload X20.here hx rfl (hb hby at_92) rfl rfl (Steps.refl _)) ?_
          show own_G p.tables e below _ (T20.setTop (mkF m 94 #[.val (.long p1), .second, .val (.long p2), .second, .val (.int fl), .val (.int (0 : Int32)), .val (.int (1 : Int32)), .val (.long lb), .second, .val (.ref aW), .unset, .unset] [(.ref aW)]))
          obtain ⟨T21, X21, e21, st21⟩ := getS2 X20 hx hZ hown (host := "") (Or.inl (hw _ (List.mem_of_getElem? (i := 8) rfl))) Via.refl e20 hS_MUTUAL (g := (mkF m 94 #[.val (.long p1), .second, .val (.long p2), .second, .val (.int fl), .val (.int (0 : Int32)), .val (.int (1 : Int32)), .val (.long lb), .second, .val (.ref aW), .unset, .unset] [(.ref aW)])) rfl (hb hby at_94)
          refine own_fs (st21 _ (Steps.refl _)) ?_
          show own_G p.tables e below _ (T21.setTop (mkF m 97 #[.val (.long p1), .second, .val (.long p2), .second, .val (.int fl), .val (.int (0 : Int32)), .val (.int (1 : Int32)), .val (.long lb), .second, .val (.ref aW), .unset, .unset] [(.ref aM), (.ref aW)]))
          refine own_fs (Jvm.RoadKit.acmp (g := (mkF m 97 #[.val (.long p1), .second, .val (.long p2), .second, .val (.int fl), .val (.int (0 : Int32)), .val (.int (1 : Int32)), .val (.long lb), .second, .val (.ref aW), .unset, .unset] [(.ref aM), (.ref aW)])) X21 hx rfl rfl rfl (pc0 := 97) (pc' := 100) (same := false) rfl (hb hby at_97) rfl (decide_eq_false (fun q => (Ne.symm hne_aM_aW) (Value.ref.inj q))) (by decide) (by decide) (Steps.refl _)) ?_
          show own_G p.tables e below _ (T21.setTop (mkF m 100 #[.val (.long p1), .second, .val (.long p2), .second, .val (.int fl), .val (.int (0 : Int32)), .val (.int (1 : Int32)), .val (.long lb), .second, .val (.ref aW), .unset, .unset] []))
          refine own_fs (XS.aload X21.here hx rfl (hb hby at_100) rfl rfl (Steps.refl _)) ?_
          show own_G p.tables e below _ (T21.setTop (mkF m 102 #[.val (.long p1), .second, .val (.long p2), .second, .val (.int fl), .val (.int (0 : Int32)), .val (.int (1 : Int32)), .val (.long lb), .second, .val (.ref aW), .unset, .unset] [(.ref aW)]))
          obtain ⟨T22, X22, e22, st22⟩ := getS2 X21 hx hZ hown (host := "") (Or.inl (hw _ (List.mem_of_getElem? (i := 10) rfl))) Via.refl e21 hS_FOLLOWING (g := (mkF m 102 #[.val (.long p1), .second, .val (.long p2), .second, .val (.int fl), .val (.int (0 : Int32)), .val (.int (1 : Int32)), .val (.long lb), .second, .val (.ref aW), .unset, .unset] [(.ref aW)])) rfl (hb hby at_102)
          refine own_fs (st22 _ (Steps.refl _)) ?_
          show own_G p.tables e below _ (T22.setTop (mkF m 105 #[.val (.long p1), .second, .val (.long p2), .second, .val (.int fl), .val (.int (0 : Int32)), .val (.int (1 : Int32)), .val (.long lb), .second, .val (.ref aW), .unset, .unset] [(.ref aF), (.ref aW)]))
          refine own_fs (Jvm.RoadKit.acmp (g := (mkF m 105 #[.val (.long p1), .second, .val (.long p2), .second, .val (.int fl), .val (.int (0 : Int32)), .val (.int (1 : Int32)), .val (.long lb), .second, .val (.ref aW), .unset, .unset] [(.ref aF), (.ref aW)])) X22 hx rfl rfl rfl (pc0 := 105) (pc' := 112) (same := false) rfl (hb hby at_105) rfl (decide_eq_false (fun q => (Ne.symm hne_aF_aW) (Value.ref.inj q))) (by decide) (by decide) (Steps.refl _)) ?_
          show own_G p.tables e below _ (T22.setTop (mkF m 112 #[.val (.long p1), .second, .val (.long p2), .second, .val (.int fl), .val (.int (0 : Int32)), .val (.int (1 : Int32)), .val (.long lb), .second, .val (.ref aW), .unset, .unset] []))
          refine own_fs (XS.iconst X22.here hx rfl (hb hby at_112) (Steps.refl _)) ?_
          show own_G p.tables e below _ (T22.setTop (mkF m 113 #[.val (.long p1), .second, .val (.long p2), .second, .val (.int fl), .val (.int (0 : Int32)), .val (.int (1 : Int32)), .val (.long lb), .second, .val (.ref aW), .unset, .unset] [(.int (0 : Int32))]))
          refine own_fs (XS.istore X22.here hx rfl (hb hby at_113) rfl (l' := #[.val (.long p1), .second, .val (.long p2), .second, .val (.int fl), .val (.int (0 : Int32)), .val (.int (1 : Int32)), .val (.long lb), .second, .val (.ref aW), .val (.int (0 : Int32)), .unset]) rfl (Steps.refl _)) ?_
          show own_G p.tables e below _ (T22.setTop (mkF m 115 #[.val (.long p1), .second, .val (.long p2), .second, .val (.int fl), .val (.int (0 : Int32)), .val (.int (1 : Int32)), .val (.long lb), .second, .val (.ref aW), .val (.int (0 : Int32)), .unset] []))
          refine own_fs (XS.aload X22.here hx rfl (hb hby at_115) rfl rfl (Steps.refl _)) ?_
          show own_G p.tables e below _ (T22.setTop (mkF m 117 #[.val (.long p1), .second, .val (.long p2), .second, .val (.int fl), .val (.int (0 : Int32)), .val (.int (1 : Int32)), .val (.long lb), .second, .val (.ref aW), .val (.int (0 : Int32)), .unset] [(.ref aW)]))
          obtain ⟨T23, X23, e23, st23⟩ := getS2 X22 hx hZ hown (host := "") (Or.inl (hw _ (List.mem_of_getElem? (i := 8) rfl))) Via.refl e22 hS_MUTUAL (g := (mkF m 117 #[.val (.long p1), .second, .val (.long p2), .second, .val (.int fl), .val (.int (0 : Int32)), .val (.int (1 : Int32)), .val (.long lb), .second, .val (.ref aW), .val (.int (0 : Int32)), .unset] [(.ref aW)])) rfl (hb hby at_117)
          refine own_fs (st23 _ (Steps.refl _)) ?_
          show own_G p.tables e below _ (T23.setTop (mkF m 120 #[.val (.long p1), .second, .val (.long p2), .second, .val (.int fl), .val (.int (0 : Int32)), .val (.int (1 : Int32)), .val (.long lb), .second, .val (.ref aW), .val (.int (0 : Int32)), .unset] [(.ref aM), (.ref aW)]))
          refine own_fs (Jvm.RoadKit.acmp (g := (mkF m 120 #[.val (.long p1), .second, .val (.long p2), .second, .val (.int fl), .val (.int (0 : Int32)), .val (.int (1 : Int32)), .val (.long lb), .second, .val (.ref aW), .val (.int (0 : Int32)), .unset] [(.ref aM), (.ref aW)])) X23 hx rfl rfl rfl (pc0 := 120) (pc' := 123) (same := false) rfl (hb hby at_120) rfl (decide_eq_false (fun q => (Ne.symm hne_aM_aW) (Value.ref.inj q))) (by decide) (by decide) (Steps.refl _)) ?_
          show own_G p.tables e below _ (T23.setTop (mkF m 123 #[.val (.long p1), .second, .val (.long p2), .second, .val (.int fl), .val (.int (0 : Int32)), .val (.int (1 : Int32)), .val (.long lb), .second, .val (.ref aW), .val (.int (0 : Int32)), .unset] []))
          refine own_fs (XS.aload X23.here hx rfl (hb hby at_123) rfl rfl (Steps.refl _)) ?_
          show own_G p.tables e below _ (T23.setTop (mkF m 125 #[.val (.long p1), .second, .val (.long p2), .second, .val (.int fl), .val (.int (0 : Int32)), .val (.int (1 : Int32)), .val (.long lb), .second, .val (.ref aW), .val (.int (0 : Int32)), .unset] [(.ref aW)]))
          obtain ⟨T24, X24, e24, st24⟩ := getS2 X23 hx hZ hown (host := "") (Or.inl (hw _ (List.mem_of_getElem? (i := 12) rfl))) Via.refl e23 hS_FOLLOWER (g := (mkF m 125 #[.val (.long p1), .second, .val (.long p2), .second, .val (.int fl), .val (.int (0 : Int32)), .val (.int (1 : Int32)), .val (.long lb), .second, .val (.ref aW), .val (.int (0 : Int32)), .unset] [(.ref aW)])) rfl (hb hby at_125)
          refine own_fs (st24 _ (Steps.refl _)) ?_
          show own_G p.tables e below _ (T24.setTop (mkF m 128 #[.val (.long p1), .second, .val (.long p2), .second, .val (.int fl), .val (.int (0 : Int32)), .val (.int (1 : Int32)), .val (.long lb), .second, .val (.ref aW), .val (.int (0 : Int32)), .unset] [(.ref aW), (.ref aW)]))
          refine own_fs (Jvm.RoadKit.acmp (g := (mkF m 128 #[.val (.long p1), .second, .val (.long p2), .second, .val (.int fl), .val (.int (0 : Int32)), .val (.int (1 : Int32)), .val (.long lb), .second, .val (.ref aW), .val (.int (0 : Int32)), .unset] [(.ref aW), (.ref aW)])) X24 hx rfl rfl rfl (pc0 := 128) (pc' := 131) (same := true) rfl (hb hby at_128) rfl (decide_eq_true (congrArg Value.ref rfl)) (by decide) (by decide) (Steps.refl _)) ?_
          show own_G p.tables e below _ (T24.setTop (mkF m 131 #[.val (.long p1), .second, .val (.long p2), .second, .val (.int fl), .val (.int (0 : Int32)), .val (.int (1 : Int32)), .val (.long lb), .second, .val (.ref aW), .val (.int (0 : Int32)), .unset] []))
          refine own_fs (XS.iconst X24.here hx rfl (hb hby at_131) (Steps.refl _)) ?_
          show own_G p.tables e below _ (T24.setTop (mkF m 132 #[.val (.long p1), .second, .val (.long p2), .second, .val (.int fl), .val (.int (0 : Int32)), .val (.int (1 : Int32)), .val (.long lb), .second, .val (.ref aW), .val (.int (0 : Int32)), .unset] [(.int (1 : Int32))]))
          refine own_fs (XS.goto X24.here hx rfl (pc0 := 132) (pc' := 136) rfl (hb hby at_132) (by decide) (by decide) (Steps.refl _)) ?_
          show own_G p.tables e below _ (T24.setTop (mkF m 136 #[.val (.long p1), .second, .val (.long p2), .second, .val (.int fl), .val (.int (0 : Int32)), .val (.int (1 : Int32)), .val (.long lb), .second, .val (.ref aW), .val (.int (0 : Int32)), .unset] [(.int (1 : Int32))]))
          refine own_fs (XS.istore X24.here hx rfl (hb hby at_136) rfl (l' := #[.val (.long p1), .second, .val (.long p2), .second, .val (.int fl), .val (.int (0 : Int32)), .val (.int (1 : Int32)), .val (.long lb), .second, .val (.ref aW), .val (.int (0 : Int32)), .val (.int (1 : Int32))]) rfl (Steps.refl _)) ?_
          show own_G p.tables e below _ (T24.setTop (mkF m 138 #[.val (.long p1), .second, .val (.long p2), .second, .val (.int fl), .val (.int (0 : Int32)), .val (.int (1 : Int32)), .val (.long lb), .second, .val (.ref aW), .val (.int (0 : Int32)), .val (.int (1 : Int32))] []))
          refine own_fs (XS.iload X24.here hx rfl (hb hby at_138) rfl (Steps.refl _)) ?_
          show own_G p.tables e below _ (T24.setTop (mkF m 140 #[.val (.long p1), .second, .val (.long p2), .second, .val (.int fl), .val (.int (0 : Int32)), .val (.int (1 : Int32)), .val (.long lb), .second, .val (.ref aW), .val (.int (0 : Int32)), .val (.int (1 : Int32))] [(.int (0 : Int32))]))
          refine own_fs (XS.iload X24.here hx rfl (hb hby at_140) rfl (Steps.refl _)) ?_
          show own_G p.tables e below _ (T24.setTop (mkF m 142 #[.val (.long p1), .second, .val (.long p2), .second, .val (.int fl), .val (.int (0 : Int32)), .val (.int (1 : Int32)), .val (.long lb), .second, .val (.ref aW), .val (.int (0 : Int32)), .val (.int (1 : Int32))] [(.int (0 : Int32)), (.int (0 : Int32))]))
          refine own_fs (XS.icmpNo X24.here hx rfl (hb hby at_142) rfl (XT.ii_ne_f (by decide : (0 : Int32) = (0 : Int32))) (Steps.refl _)) ?_
          show own_G p.tables e below _ (T24.setTop (mkF m 145 #[.val (.long p1), .second, .val (.long p2), .second, .val (.int fl), .val (.int (0 : Int32)), .val (.int (1 : Int32)), .val (.long lb), .second, .val (.ref aW), .val (.int (0 : Int32)), .val (.int (1 : Int32))] []))
          refine own_fs (XS.iload X24.here hx rfl (hb hby at_145) rfl (Steps.refl _)) ?_
          show own_G p.tables e below _ (T24.setTop (mkF m 147 #[.val (.long p1), .second, .val (.long p2), .second, .val (.int fl), .val (.int (0 : Int32)), .val (.int (1 : Int32)), .val (.long lb), .second, .val (.ref aW), .val (.int (0 : Int32)), .val (.int (1 : Int32))] [(.int (1 : Int32))]))
          refine own_fs (XS.iload X24.here hx rfl (hb hby at_147) rfl (Steps.refl _)) ?_
          show own_G p.tables e below _ (T24.setTop (mkF m 149 #[.val (.long p1), .second, .val (.long p2), .second, .val (.int fl), .val (.int (0 : Int32)), .val (.int (1 : Int32)), .val (.long lb), .second, .val (.ref aW), .val (.int (0 : Int32)), .val (.int (1 : Int32))] [(.int (1 : Int32)), (.int (1 : Int32))]))
          refine own_fs (XS.icmpNo X24.here hx rfl (hb hby at_149) rfl (XT.ii_ne_f (by decide : (1 : Int32) = (1 : Int32))) (Steps.refl _)) ?_
          show own_G p.tables e below _ (T24.setTop (mkF m 152 #[.val (.long p1), .second, .val (.long p2), .second, .val (.int fl), .val (.int (0 : Int32)), .val (.int (1 : Int32)), .val (.long lb), .second, .val (.ref aW), .val (.int (0 : Int32)), .val (.int (1 : Int32))] []))
          refine own_fs (XS.iconst X24.here hx rfl (hb hby at_152) (Steps.refl _)) ?_
          show own_G p.tables e below _ (T24.setTop (mkF m 153 #[.val (.long p1), .second, .val (.long p2), .second, .val (.int fl), .val (.int (0 : Int32)), .val (.int (1 : Int32)), .val (.long lb), .second, .val (.ref aW), .val (.int (0 : Int32)), .val (.int (1 : Int32))] [(.int (1 : Int32))]))
          refine own_fs (XS.goto X24.here hx rfl (pc0 := 153) (pc' := 157) rfl (hb hby at_153) (by decide) (by decide) (Steps.refl _)) ?_
          show own_G p.tables e below _ (T24.setTop (mkF m 157 #[.val (.long p1), .second, .val (.long p2), .second, .val (.int fl), .val (.int (0 : Int32)), .val (.int (1 : Int32)), .val (.long lb), .second, .val (.ref aW), .val (.int (0 : Int32)), .val (.int (1 : Int32))] [(.int (1 : Int32))]))
          exact own_retN X24 hx (t := .boolean) Bd.returns hlk (by simp) (hb hby at_157) (by decide) (by decide) e24 ⟨rfl, N18⟩
      show own_G p.tables e below _ (s₁.setTop (mkF m 28 #[.val (.long p1), .second, .val (.long p2), .second, .val (.int fl), .val (.int (0 : Int32)), .val (.int (1 : Int32)), .unset, .unset, .unset, .unset, .unset] []))
      refine own_fs (XS.iload X0.here hx rfl (hb hby at_28) rfl (Steps.refl _)) ?_
      show own_G p.tables e below _ (s₁.setTop (mkF m 30 #[.val (.long p1), .second, .val (.long p2), .second, .val (.int fl), .val (.int (0 : Int32)), .val (.int (1 : Int32)), .unset, .unset, .unset, .unset, .unset] [(.int fl)]))
      refine own_fs (XS.iconst X0.here hx rfl (hb hby at_30) (Steps.refl _)) ?_
      show own_G p.tables e below _ (s₁.setTop (mkF m 31 #[.val (.long p1), .second, .val (.long p2), .second, .val (.int fl), .val (.int (0 : Int32)), .val (.int (1 : Int32)), .unset, .unset, .unset, .unset, .unset] [(.int (4 : Int32)), (.int fl)]))
      refine own_fs (XS.iand X0.here hx rfl (hb hby at_31) rfl (Steps.refl _)) ?_
      show own_G p.tables e below _ (s₁.setTop (mkF m 32 #[.val (.long p1), .second, .val (.long p2), .second, .val (.int fl), .val (.int (0 : Int32)), .val (.int (1 : Int32)), .unset, .unset, .unset, .unset, .unset] [(.int (fl &&& (4 : Int32)))]))
      by_cases hc32 : (fl &&& (4 : Int32)) = (0 : Int32)
      · refine own_fs (XS.ifYes X0.here hx rfl (pc0 := 32) (pc' := 39) rfl (hb hby at_32) rfl (XT.i0_eq_t hc32) (by decide) (by decide) (Steps.refl _)) ?_
        show own_G p.tables e below _ (s₁.setTop (mkF m 39 #[.val (.long p1), .second, .val (.long p2), .second, .val (.int fl), .val (.int (0 : Int32)), .val (.int (1 : Int32)), .unset, .unset, .unset, .unset, .unset] []))
        refine own_fs (XS.lloadN X0.here hx rfl (hb hby at_39) rfl (Steps.refl _)) ?_
        exact J40 _
      · refine own_fs (XS.ifNo X0.here hx rfl (hb hby at_32) rfl (XT.i0_eq_f hc32) (Steps.refl _)) ?_
        show own_G p.tables e below _ (s₁.setTop (mkF m 35 #[.val (.long p1), .second, .val (.long p2), .second, .val (.int fl), .val (.int (0 : Int32)), .val (.int (1 : Int32)), .unset, .unset, .unset, .unset, .unset] []))
        refine own_fs (XS.lloadN X0.here hx rfl (hb hby at_35) rfl (Steps.refl _)) ?_
        show own_G p.tables e below _ (s₁.setTop (mkF m 36 #[.val (.long p1), .second, .val (.long p2), .second, .val (.int fl), .val (.int (0 : Int32)), .val (.int (1 : Int32)), .unset, .unset, .unset, .unset, .unset] [(.long p1)]))
        refine own_fs (XS.goto X0.here hx rfl (pc0 := 36) (pc' := 40) rfl (hb hby at_36) (by decide) (by decide) (Steps.refl _)) ?_
        exact J40 _
  · refine own_fs (XS.ifNo X0.here hx rfl (hb hby at_4) rfl (XT.i0_eq_f hc4) (Steps.refl _)) ?_
    show own_G p.tables e below _ (s₁.setTop (mkF m 7 #[.val (.long p1), .second, .val (.long p2), .second, .val (.int fl), .unset, .unset, .unset, .unset, .unset, .unset, .unset] []))
    refine own_fs (XS.iconst X0.here hx rfl (hb hby at_7) (Steps.refl _)) ?_
    show own_G p.tables e below _ (s₁.setTop (mkF m 8 #[.val (.long p1), .second, .val (.long p2), .second, .val (.int fl), .unset, .unset, .unset, .unset, .unset, .unset, .unset] [(.int (1 : Int32))]))
    refine own_fs (XS.goto X0.here hx rfl (pc0 := 8) (pc' := 12) rfl (hb hby at_8) (by decide) (by decide) (Steps.refl _)) ?_
    show own_G p.tables e below _ (s₁.setTop (mkF m 12 #[.val (.long p1), .second, .val (.long p2), .second, .val (.int fl), .unset, .unset, .unset, .unset, .unset, .unset, .unset] [(.int (1 : Int32))]))
    refine own_fs (XS.istore X0.here hx rfl (hb hby at_12) rfl (l' := #[.val (.long p1), .second, .val (.long p2), .second, .val (.int fl), .val (.int (1 : Int32)), .unset, .unset, .unset, .unset, .unset, .unset]) rfl (Steps.refl _)) ?_
    show own_G p.tables e below _ (s₁.setTop (mkF m 14 #[.val (.long p1), .second, .val (.long p2), .second, .val (.int fl), .val (.int (1 : Int32)), .unset, .unset, .unset, .unset, .unset, .unset] []))
    refine own_fs (XS.iload X0.here hx rfl (hb hby at_14) rfl (Steps.refl _)) ?_
    show own_G p.tables e below _ (s₁.setTop (mkF m 16 #[.val (.long p1), .second, .val (.long p2), .second, .val (.int fl), .val (.int (1 : Int32)), .unset, .unset, .unset, .unset, .unset, .unset] [(.int fl)]))
    refine own_fs (XS.iconst X0.here hx rfl (hb hby at_16) (Steps.refl _)) ?_
    show own_G p.tables e below _ (s₁.setTop (mkF m 17 #[.val (.long p1), .second, .val (.long p2), .second, .val (.int fl), .val (.int (1 : Int32)), .unset, .unset, .unset, .unset, .unset, .unset] [(.int (2 : Int32)), (.int fl)]))
    refine own_fs (XS.iand X0.here hx rfl (hb hby at_17) rfl (Steps.refl _)) ?_
    show own_G p.tables e below _ (s₁.setTop (mkF m 18 #[.val (.long p1), .second, .val (.long p2), .second, .val (.int fl), .val (.int (1 : Int32)), .unset, .unset, .unset, .unset, .unset, .unset] [(.int (fl &&& (2 : Int32)))]))
    by_cases hc18 : (fl &&& (2 : Int32)) = (0 : Int32)
    · refine own_fs (XS.ifYes X0.here hx rfl (pc0 := 18) (pc' := 25) rfl (hb hby at_18) rfl (XT.i0_eq_t hc18) (by decide) (by decide) (Steps.refl _)) ?_
      show own_G p.tables e below _ (s₁.setTop (mkF m 25 #[.val (.long p1), .second, .val (.long p2), .second, .val (.int fl), .val (.int (1 : Int32)), .unset, .unset, .unset, .unset, .unset, .unset] []))
      refine own_fs (XS.iconst X0.here hx rfl (hb hby at_25) (Steps.refl _)) ?_
      show own_G p.tables e below _ (s₁.setTop (mkF m 26 #[.val (.long p1), .second, .val (.long p2), .second, .val (.int fl), .val (.int (1 : Int32)), .unset, .unset, .unset, .unset, .unset, .unset] [(.int (0 : Int32))]))
      refine own_fs (XS.istore X0.here hx rfl (hb hby at_26) rfl (l' := #[.val (.long p1), .second, .val (.long p2), .second, .val (.int fl), .val (.int (1 : Int32)), .val (.int (0 : Int32)), .unset, .unset, .unset, .unset, .unset]) rfl (Steps.refl _)) ?_
      have J40 : ∀ (lb : Int64), own_G p.tables e below (own_P s (own_law_Q Z p1 p2 fl aS aM aF aW aN h0 n0) room_1.cells room_1.slots) (s₁.setTop (mkF m 40 #[.val (.long p1), .second, .val (.long p2), .second, .val (.int fl), .val (.int (1 : Int32)), .val (.int (0 : Int32)), .unset, .unset, .unset, .unset, .unset] [(.long lb)])) := by
        intro lb
        show own_G p.tables e below _ (s₁.setTop (mkF m 40 #[.val (.long p1), .second, .val (.long p2), .second, .val (.int fl), .val (.int (1 : Int32)), .val (.int (0 : Int32)), .unset, .unset, .unset, .unset, .unset] [(.long lb)]))
        refine own_fs (XS.lstore X0.here hx rfl (hb hby at_40) rfl (l' := #[.val (.long p1), .second, .val (.long p2), .second, .val (.int fl), .val (.int (1 : Int32)), .val (.int (0 : Int32)), .val (.long lb), .second, .unset, .unset, .unset]) rfl (Steps.refl _)) ?_
        show own_G p.tables e below _ (s₁.setTop (mkF m 42 #[.val (.long p1), .second, .val (.long p2), .second, .val (.int fl), .val (.int (1 : Int32)), .val (.int (0 : Int32)), .val (.long lb), .second, .unset, .unset, .unset] []))
        rcases own_dec p1 lb with ⟨cc, cc'⟩ | ⟨cc, cc'⟩
        · show own_G p.tables e below _ (s₁.setTop (mkF m 42 #[.val (.long p1), .second, .val (.long p2), .second, .val (.int fl), .val (.int (1 : Int32)), .val (.int (0 : Int32)), .val (.long lb), .second, .unset, .unset, .unset] []))
          refine own_fs (XS.lloadN X0.here hx rfl (hb hby at_42) rfl (Steps.refl _)) ?_
          show own_G p.tables e below _ (s₁.setTop (mkF m 43 #[.val (.long p1), .second, .val (.long p2), .second, .val (.int fl), .val (.int (1 : Int32)), .val (.int (0 : Int32)), .val (.long lb), .second, .unset, .unset, .unset] [(.long p1)]))
          refine own_fs (XS.lload X0.here hx rfl (hb hby at_43) rfl (Steps.refl _)) ?_
          show own_G p.tables e below _ (s₁.setTop (mkF m 45 #[.val (.long p1), .second, .val (.long p2), .second, .val (.int fl), .val (.int (1 : Int32)), .val (.int (0 : Int32)), .val (.long lb), .second, .unset, .unset, .unset] [(.long lb), (.long p1)]))
          refine own_fs (XS.iload X0.here hx rfl (hb hby at_45) rfl (Steps.refl _)) ?_
          show own_G p.tables e below _ (s₁.setTop (mkF m 47 #[.val (.long p1), .second, .val (.long p2), .second, .val (.int fl), .val (.int (1 : Int32)), .val (.int (0 : Int32)), .val (.long lb), .second, .unset, .unset, .unset] [(.int (1 : Int32)), (.long lb), (.long p1)]))
          refine own_fs (XS.iload X0.here hx rfl (hb hby at_47) rfl (Steps.refl _)) ?_
          show own_G p.tables e below _ (s₁.setTop (mkF m 49 #[.val (.long p1), .second, .val (.long p2), .second, .val (.int fl), .val (.int (1 : Int32)), .val (.int (0 : Int32)), .val (.long lb), .second, .unset, .unset, .unset] [(.int (0 : Int32)), (.int (1 : Int32)), (.long lb), (.long p1)]))
          have Zs27 : n0 ≤ h0.size := Z0
          obtain ⟨_, _, ⟨T26, L26, k26, n26⟩, -, X26, ⟨Lc26, hQ26, l26, y26, z26⟩, st26⟩ := Jvm.LawKit.callS X0 hx (y := (⟨"com/example/cast3/cast3/Relation", "of", "(JJZZ)Lcom/example/cast3/cast3/Relation;"⟩ : MethodName)) hown (mvT hZ (hw _ (List.mem_of_getElem? (i := 0) rfl))) (mvT hZ (hw _ (List.mem_of_getElem? (i := 1) rfl))) (mvT hZ (hw _ (List.mem_of_getElem? (i := 2) rfl))) (mvT hZ (hw _ (List.mem_of_getElem? (i := 3) rfl))) (by decide) (backOf (W := 0) (own_rof l Z a0 hw [] aS aM aF aW aN p1 lb (1 : Int32) (0 : Int32) h0 n0 Zs27 hS_SELF hS_MUTUAL hS_FOLLOWING hS_FOLLOWER hS_NONE) hZ (hw _ (List.mem_of_getElem? (i := 3) rfl)) (hw _ (List.mem_of_getElem? (i := 2) rfl)) (by decide) (by decide)) (g := (mkF m 49 #[.val (.long p1), .second, .val (.long p2), .second, .val (.int fl), .val (.int (1 : Int32)), .val (.int (0 : Int32)), .val (.long lb), .second, .unset, .unset, .unset] [(.int (0 : Int32)), (.int (1 : Int32)), (.long lb), (.long p1)])) rfl (by rw [hml]; rfl) (argsL := [(.long p1), (.long lb), (.int (1 : Int32)), (.int (0 : Int32))]) (rest := []) (lenOf own_pd0 rfl) rfl (by show 2 * 0 + _ ≤ _; exact Nat.le_of_eq rfl) (hb hby at_49) (fun _ _ => ⟨rfl, e0, (by decide : 0 + 0 ≤ _), (by decide : 0 + 0 ≤ _)⟩)
          dsimp only [Pt.U, Pt.locs, Pt.cells, Pt.slots] at X26 l26 y26 z26 st26 hQ26
          subst l26 y26 z26
          obtain ⟨rfl, Nq26, e26⟩ := hQ26
          have N26 := Fr.app N0 Nq26
          refine own_fs (st26 _ (Steps.refl _)) ?_
          show own_G p.tables e below _ (T26.setTop (mkF m 52 #[.val (.long p1), .second, .val (.long p2), .second, .val (.int fl), .val (.int (1 : Int32)), .val (.int (0 : Int32)), .val (.long lb), .second, .unset, .unset, .unset] [(.ref (own_of aS aM aF aW aN p1 lb (1 : Int32) (0 : Int32)))]))
          rw [show own_of aS aM aF aW aN p1 lb (1 : Int32) (0 : Int32) = aS from by simp [own_of, cc']]
          show own_G p.tables e below _ (T26.setTop (mkF m 52 #[.val (.long p1), .second, .val (.long p2), .second, .val (.int fl), .val (.int (1 : Int32)), .val (.int (0 : Int32)), .val (.long lb), .second, .unset, .unset, .unset] [(.ref aS)]))
          refine own_fs (XS.astore X26.here hx rfl (hb hby at_52) rfl rfl (l' := #[.val (.long p1), .second, .val (.long p2), .second, .val (.int fl), .val (.int (1 : Int32)), .val (.int (0 : Int32)), .val (.long lb), .second, .val (.ref aS), .unset, .unset]) rfl (Steps.refl _)) ?_
          show own_G p.tables e below _ (T26.setTop (mkF m 54 #[.val (.long p1), .second, .val (.long p2), .second, .val (.int fl), .val (.int (1 : Int32)), .val (.int (0 : Int32)), .val (.long lb), .second, .val (.ref aS), .unset, .unset] []))
          refine own_fs (XS.aload X26.here hx rfl (hb hby at_54) rfl rfl (Steps.refl _)) ?_
          show own_G p.tables e below _ (T26.setTop (mkF m 56 #[.val (.long p1), .second, .val (.long p2), .second, .val (.int fl), .val (.int (1 : Int32)), .val (.int (0 : Int32)), .val (.long lb), .second, .val (.ref aS), .unset, .unset] [(.ref aS)]))
          refine own_fs (XS.ifnonnullYes X26.here hx rfl (pc0 := 56) (pc' := 61) rfl (hb hby at_56) rfl (by decide) (by decide) (Steps.refl _)) ?_
          show own_G p.tables e below _ (T26.setTop (mkF m 61 #[.val (.long p1), .second, .val (.long p2), .second, .val (.int fl), .val (.int (1 : Int32)), .val (.int (0 : Int32)), .val (.long lb), .second, .val (.ref aS), .unset, .unset] []))
          refine own_fs (XS.lloadN X26.here hx rfl (hb hby at_61) rfl (Steps.refl _)) ?_
          show own_G p.tables e below _ (T26.setTop (mkF m 62 #[.val (.long p1), .second, .val (.long p2), .second, .val (.int fl), .val (.int (1 : Int32)), .val (.int (0 : Int32)), .val (.long lb), .second, .val (.ref aS), .unset, .unset] [(.long p1)]))
          refine own_fs (XS.lload X26.here hx rfl (hb hby at_62) rfl (Steps.refl _)) ?_
          show own_G p.tables e below _ (T26.setTop (mkF m 64 #[.val (.long p1), .second, .val (.long p2), .second, .val (.int fl), .val (.int (1 : Int32)), .val (.int (0 : Int32)), .val (.long lb), .second, .val (.ref aS), .unset, .unset] [(.long lb), (.long p1)]))
          refine own_fs (XT.lcmp X26.here hx rfl (hb hby at_64) rfl (Steps.refl _)) ?_
          show own_G p.tables e below _ (T26.setTop (mkF m 65 #[.val (.long p1), .second, .val (.long p2), .second, .val (.int fl), .val (.int (1 : Int32)), .val (.int (0 : Int32)), .val (.long lb), .second, .val (.ref aS), .unset, .unset] [(.int (XT.cmpL p1 lb))]))
          refine own_fs (XS.ifNo X26.here hx rfl (hb hby at_65) rfl (XT.ll_ne_f cc) (Steps.refl _)) ?_
          show own_G p.tables e below _ (T26.setTop (mkF m 68 #[.val (.long p1), .second, .val (.long p2), .second, .val (.int fl), .val (.int (1 : Int32)), .val (.int (0 : Int32)), .val (.long lb), .second, .val (.ref aS), .unset, .unset] []))
          refine own_fs (XS.aload X26.here hx rfl (hb hby at_68) rfl rfl (Steps.refl _)) ?_
          show own_G p.tables e below _ (T26.setTop (mkF m 70 #[.val (.long p1), .second, .val (.long p2), .second, .val (.int fl), .val (.int (1 : Int32)), .val (.int (0 : Int32)), .val (.long lb), .second, .val (.ref aS), .unset, .unset] [(.ref aS)]))
          obtain ⟨T28, X28, e28, st28⟩ := getS2 X26 hx hZ hown (host := "") (Or.inl (hw _ (List.mem_of_getElem? (i := 6) rfl))) Via.refl e26 hS_SELF (g := (mkF m 70 #[.val (.long p1), .second, .val (.long p2), .second, .val (.int fl), .val (.int (1 : Int32)), .val (.int (0 : Int32)), .val (.long lb), .second, .val (.ref aS), .unset, .unset] [(.ref aS)])) rfl (hb hby at_70)
          refine own_fs (st28 _ (Steps.refl _)) ?_
          show own_G p.tables e below _ (T28.setTop (mkF m 73 #[.val (.long p1), .second, .val (.long p2), .second, .val (.int fl), .val (.int (1 : Int32)), .val (.int (0 : Int32)), .val (.long lb), .second, .val (.ref aS), .unset, .unset] [(.ref aS), (.ref aS)]))
          refine own_fs (Jvm.RoadKit.acmp (g := (mkF m 73 #[.val (.long p1), .second, .val (.long p2), .second, .val (.int fl), .val (.int (1 : Int32)), .val (.int (0 : Int32)), .val (.long lb), .second, .val (.ref aS), .unset, .unset] [(.ref aS), (.ref aS)])) X28 hx rfl rfl rfl (pc0 := 73) (pc' := 76) (same := true) rfl (hb hby at_73) rfl (decide_eq_true (congrArg Value.ref rfl)) (by decide) (by decide) (Steps.refl _)) ?_
          show own_G p.tables e below _ (T28.setTop (mkF m 76 #[.val (.long p1), .second, .val (.long p2), .second, .val (.int fl), .val (.int (1 : Int32)), .val (.int (0 : Int32)), .val (.long lb), .second, .val (.ref aS), .unset, .unset] []))
          refine own_fs (XS.iconst X28.here hx rfl (hb hby at_76) (Steps.refl _)) ?_
          show own_G p.tables e below _ (T28.setTop (mkF m 77 #[.val (.long p1), .second, .val (.long p2), .second, .val (.int fl), .val (.int (1 : Int32)), .val (.int (0 : Int32)), .val (.long lb), .second, .val (.ref aS), .unset, .unset] [(.int (1 : Int32))]))
          refine own_fs (XS.goto X28.here hx rfl (pc0 := 77) (pc' := 81) rfl (hb hby at_77) (by decide) (by decide) (Steps.refl _)) ?_
          show own_G p.tables e below _ (T28.setTop (mkF m 81 #[.val (.long p1), .second, .val (.long p2), .second, .val (.int fl), .val (.int (1 : Int32)), .val (.int (0 : Int32)), .val (.long lb), .second, .val (.ref aS), .unset, .unset] [(.int (1 : Int32))]))
          exact own_retN X28 hx (t := .boolean) Bd.returns hlk (by simp) (hb hby at_81) (by decide) (by decide) e28 ⟨rfl, N26⟩
        · show own_G p.tables e below _ (s₁.setTop (mkF m 42 #[.val (.long p1), .second, .val (.long p2), .second, .val (.int fl), .val (.int (1 : Int32)), .val (.int (0 : Int32)), .val (.long lb), .second, .unset, .unset, .unset] []))
          refine own_fs (XS.lloadN X0.here hx rfl (hb hby at_42) rfl (Steps.refl _)) ?_
          show own_G p.tables e below _ (s₁.setTop (mkF m 43 #[.val (.long p1), .second, .val (.long p2), .second, .val (.int fl), .val (.int (1 : Int32)), .val (.int (0 : Int32)), .val (.long lb), .second, .unset, .unset, .unset] [(.long p1)]))
          refine own_fs (XS.lload X0.here hx rfl (hb hby at_43) rfl (Steps.refl _)) ?_
          show own_G p.tables e below _ (s₁.setTop (mkF m 45 #[.val (.long p1), .second, .val (.long p2), .second, .val (.int fl), .val (.int (1 : Int32)), .val (.int (0 : Int32)), .val (.long lb), .second, .unset, .unset, .unset] [(.long lb), (.long p1)]))
          refine own_fs (XS.iload X0.here hx rfl (hb hby at_45) rfl (Steps.refl _)) ?_
          show own_G p.tables e below _ (s₁.setTop (mkF m 47 #[.val (.long p1), .second, .val (.long p2), .second, .val (.int fl), .val (.int (1 : Int32)), .val (.int (0 : Int32)), .val (.long lb), .second, .unset, .unset, .unset] [(.int (1 : Int32)), (.long lb), (.long p1)]))
          refine own_fs (XS.iload X0.here hx rfl (hb hby at_47) rfl (Steps.refl _)) ?_
          show own_G p.tables e below _ (s₁.setTop (mkF m 49 #[.val (.long p1), .second, .val (.long p2), .second, .val (.int fl), .val (.int (1 : Int32)), .val (.int (0 : Int32)), .val (.long lb), .second, .unset, .unset, .unset] [(.int (0 : Int32)), (.int (1 : Int32)), (.long lb), (.long p1)]))
          have Zs31 : n0 ≤ h0.size := Z0
          obtain ⟨_, _, ⟨T30, L30, k30, n30⟩, -, X30, ⟨Lc30, hQ30, l30, y30, z30⟩, st30⟩ := Jvm.LawKit.callS X0 hx (y := (⟨"com/example/cast3/cast3/Relation", "of", "(JJZZ)Lcom/example/cast3/cast3/Relation;"⟩ : MethodName)) hown (mvT hZ (hw _ (List.mem_of_getElem? (i := 0) rfl))) (mvT hZ (hw _ (List.mem_of_getElem? (i := 1) rfl))) (mvT hZ (hw _ (List.mem_of_getElem? (i := 2) rfl))) (mvT hZ (hw _ (List.mem_of_getElem? (i := 3) rfl))) (by decide) (backOf (W := 0) (own_rof l Z a0 hw [] aS aM aF aW aN p1 lb (1 : Int32) (0 : Int32) h0 n0 Zs31 hS_SELF hS_MUTUAL hS_FOLLOWING hS_FOLLOWER hS_NONE) hZ (hw _ (List.mem_of_getElem? (i := 3) rfl)) (hw _ (List.mem_of_getElem? (i := 2) rfl)) (by decide) (by decide)) (g := (mkF m 49 #[.val (.long p1), .second, .val (.long p2), .second, .val (.int fl), .val (.int (1 : Int32)), .val (.int (0 : Int32)), .val (.long lb), .second, .unset, .unset, .unset] [(.int (0 : Int32)), (.int (1 : Int32)), (.long lb), (.long p1)])) rfl (by rw [hml]; rfl) (argsL := [(.long p1), (.long lb), (.int (1 : Int32)), (.int (0 : Int32))]) (rest := []) (lenOf own_pd0 rfl) rfl (by show 2 * 0 + _ ≤ _; exact Nat.le_of_eq rfl) (hb hby at_49) (fun _ _ => ⟨rfl, e0, (by decide : 0 + 0 ≤ _), (by decide : 0 + 0 ≤ _)⟩)
          dsimp only [Pt.U, Pt.locs, Pt.cells, Pt.slots] at X30 l30 y30 z30 st30 hQ30
          subst l30 y30 z30
          obtain ⟨rfl, Nq30, e30⟩ := hQ30
          have N30 := Fr.app N0 Nq30
          refine own_fs (st30 _ (Steps.refl _)) ?_
          show own_G p.tables e below _ (T30.setTop (mkF m 52 #[.val (.long p1), .second, .val (.long p2), .second, .val (.int fl), .val (.int (1 : Int32)), .val (.int (0 : Int32)), .val (.long lb), .second, .unset, .unset, .unset] [(.ref (own_of aS aM aF aW aN p1 lb (1 : Int32) (0 : Int32)))]))
          rw [show own_of aS aM aF aW aN p1 lb (1 : Int32) (0 : Int32) = aF from by simp [own_of, cc']]
          show own_G p.tables e below _ (T30.setTop (mkF m 52 #[.val (.long p1), .second, .val (.long p2), .second, .val (.int fl), .val (.int (1 : Int32)), .val (.int (0 : Int32)), .val (.long lb), .second, .unset, .unset, .unset] [(.ref aF)]))
          refine own_fs (XS.astore X30.here hx rfl (hb hby at_52) rfl rfl (l' := #[.val (.long p1), .second, .val (.long p2), .second, .val (.int fl), .val (.int (1 : Int32)), .val (.int (0 : Int32)), .val (.long lb), .second, .val (.ref aF), .unset, .unset]) rfl (Steps.refl _)) ?_
          show own_G p.tables e below _ (T30.setTop (mkF m 54 #[.val (.long p1), .second, .val (.long p2), .second, .val (.int fl), .val (.int (1 : Int32)), .val (.int (0 : Int32)), .val (.long lb), .second, .val (.ref aF), .unset, .unset] []))
          refine own_fs (XS.aload X30.here hx rfl (hb hby at_54) rfl rfl (Steps.refl _)) ?_
          show own_G p.tables e below _ (T30.setTop (mkF m 56 #[.val (.long p1), .second, .val (.long p2), .second, .val (.int fl), .val (.int (1 : Int32)), .val (.int (0 : Int32)), .val (.long lb), .second, .val (.ref aF), .unset, .unset] [(.ref aF)]))
          refine own_fs (XS.ifnonnullYes X30.here hx rfl (pc0 := 56) (pc' := 61) rfl (hb hby at_56) rfl (by decide) (by decide) (Steps.refl _)) ?_
          show own_G p.tables e below _ (T30.setTop (mkF m 61 #[.val (.long p1), .second, .val (.long p2), .second, .val (.int fl), .val (.int (1 : Int32)), .val (.int (0 : Int32)), .val (.long lb), .second, .val (.ref aF), .unset, .unset] []))
          refine own_fs (XS.lloadN X30.here hx rfl (hb hby at_61) rfl (Steps.refl _)) ?_
          show own_G p.tables e below _ (T30.setTop (mkF m 62 #[.val (.long p1), .second, .val (.long p2), .second, .val (.int fl), .val (.int (1 : Int32)), .val (.int (0 : Int32)), .val (.long lb), .second, .val (.ref aF), .unset, .unset] [(.long p1)]))
          refine own_fs (XS.lload X30.here hx rfl (hb hby at_62) rfl (Steps.refl _)) ?_
          show own_G p.tables e below _ (T30.setTop (mkF m 64 #[.val (.long p1), .second, .val (.long p2), .second, .val (.int fl), .val (.int (1 : Int32)), .val (.int (0 : Int32)), .val (.long lb), .second, .val (.ref aF), .unset, .unset] [(.long lb), (.long p1)]))
          refine own_fs (XT.lcmp X30.here hx rfl (hb hby at_64) rfl (Steps.refl _)) ?_
          show own_G p.tables e below _ (T30.setTop (mkF m 65 #[.val (.long p1), .second, .val (.long p2), .second, .val (.int fl), .val (.int (1 : Int32)), .val (.int (0 : Int32)), .val (.long lb), .second, .val (.ref aF), .unset, .unset] [(.int (XT.cmpL p1 lb))]))
          refine own_fs (XS.ifYes X30.here hx rfl (pc0 := 65) (pc' := 82) rfl (hb hby at_65) rfl (XT.ll_ne_t cc) (by decide) (by decide) (Steps.refl _)) ?_
          show own_G p.tables e below _ (T30.setTop (mkF m 82 #[.val (.long p1), .second, .val (.long p2), .second, .val (.int fl), .val (.int (1 : Int32)), .val (.int (0 : Int32)), .val (.long lb), .second, .val (.ref aF), .unset, .unset] []))
          refine own_fs (XS.aload X30.here hx rfl (hb hby at_82) rfl rfl (Steps.refl _)) ?_
          show own_G p.tables e below _ (T30.setTop (mkF m 84 #[.val (.long p1), .second, .val (.long p2), .second, .val (.int fl), .val (.int (1 : Int32)), .val (.int (0 : Int32)), .val (.long lb), .second, .val (.ref aF), .unset, .unset] [(.ref aF)]))
          obtain ⟨T32, X32, e32, st32⟩ := getS2 X30 hx hZ hown (host := "") (Or.inl (hw _ (List.mem_of_getElem? (i := 6) rfl))) Via.refl e30 hS_SELF (g := (mkF m 84 #[.val (.long p1), .second, .val (.long p2), .second, .val (.int fl), .val (.int (1 : Int32)), .val (.int (0 : Int32)), .val (.long lb), .second, .val (.ref aF), .unset, .unset] [(.ref aF)])) rfl (hb hby at_84)
          refine own_fs (st32 _ (Steps.refl _)) ?_
          show own_G p.tables e below _ (T32.setTop (mkF m 87 #[.val (.long p1), .second, .val (.long p2), .second, .val (.int fl), .val (.int (1 : Int32)), .val (.int (0 : Int32)), .val (.long lb), .second, .val (.ref aF), .unset, .unset] [(.ref aS), (.ref aF)]))
          refine own_fs (Jvm.RoadKit.acmp (g := (mkF m 87 #[.val (.long p1), .second, .val (.long p2), .second, .val (.int fl), .val (.int (1 : Int32)), .val (.int (0 : Int32)), .val (.long lb), .second, .val (.ref aF), .unset, .unset] [(.ref aS), (.ref aF)])) X32 hx rfl rfl rfl (pc0 := 87) (pc' := 92) (same := false) rfl (hb hby at_87) rfl (decide_eq_false (fun q => (Ne.symm hne_aS_aF) (Value.ref.inj q))) (by decide) (by decide) (Steps.refl _)) ?_
          show own_G p.tables e below _ (T32.setTop (mkF m 92 #[.val (.long p1), .second, .val (.long p2), .second, .val (.int fl), .val (.int (1 : Int32)), .val (.int (0 : Int32)), .val (.long lb), .second, .val (.ref aF), .unset, .unset] []))
          refine own_fs (XS.aload X32.here hx rfl (hb hby at_92) rfl rfl (Steps.refl _)) ?_
          show own_G p.tables e below _ (T32.setTop (mkF m 94 #[.val (.long p1), .second, .val (.long p2), .second, .val (.int fl), .val (.int (1 : Int32)), .val (.int (0 : Int32)), .val (.long lb), .second, .val (.ref aF), .unset, .unset] [(.ref aF)]))
          obtain ⟨T33, X33, e33, st33⟩ := getS2 X32 hx hZ hown (host := "") (Or.inl (hw _ (List.mem_of_getElem? (i := 8) rfl))) Via.refl e32 hS_MUTUAL (g := (mkF m 94 #[.val (.long p1), .second, .val (.long p2), .second, .val (.int fl), .val (.int (1 : Int32)), .val (.int (0 : Int32)), .val (.long lb), .second, .val (.ref aF), .unset, .unset] [(.ref aF)])) rfl (hb hby at_94)
          refine own_fs (st33 _ (Steps.refl _)) ?_
          show own_G p.tables e below _ (T33.setTop (mkF m 97 #[.val (.long p1), .second, .val (.long p2), .second, .val (.int fl), .val (.int (1 : Int32)), .val (.int (0 : Int32)), .val (.long lb), .second, .val (.ref aF), .unset, .unset] [(.ref aM), (.ref aF)]))
          refine own_fs (Jvm.RoadKit.acmp (g := (mkF m 97 #[.val (.long p1), .second, .val (.long p2), .second, .val (.int fl), .val (.int (1 : Int32)), .val (.int (0 : Int32)), .val (.long lb), .second, .val (.ref aF), .unset, .unset] [(.ref aM), (.ref aF)])) X33 hx rfl rfl rfl (pc0 := 97) (pc' := 100) (same := false) rfl (hb hby at_97) rfl (decide_eq_false (fun q => (Ne.symm hne_aM_aF) (Value.ref.inj q))) (by decide) (by decide) (Steps.refl _)) ?_
          show own_G p.tables e below _ (T33.setTop (mkF m 100 #[.val (.long p1), .second, .val (.long p2), .second, .val (.int fl), .val (.int (1 : Int32)), .val (.int (0 : Int32)), .val (.long lb), .second, .val (.ref aF), .unset, .unset] []))
          refine own_fs (XS.aload X33.here hx rfl (hb hby at_100) rfl rfl (Steps.refl _)) ?_
          show own_G p.tables e below _ (T33.setTop (mkF m 102 #[.val (.long p1), .second, .val (.long p2), .second, .val (.int fl), .val (.int (1 : Int32)), .val (.int (0 : Int32)), .val (.long lb), .second, .val (.ref aF), .unset, .unset] [(.ref aF)]))
          obtain ⟨T34, X34, e34, st34⟩ := getS2 X33 hx hZ hown (host := "") (Or.inl (hw _ (List.mem_of_getElem? (i := 10) rfl))) Via.refl e33 hS_FOLLOWING (g := (mkF m 102 #[.val (.long p1), .second, .val (.long p2), .second, .val (.int fl), .val (.int (1 : Int32)), .val (.int (0 : Int32)), .val (.long lb), .second, .val (.ref aF), .unset, .unset] [(.ref aF)])) rfl (hb hby at_102)
          refine own_fs (st34 _ (Steps.refl _)) ?_
          show own_G p.tables e below _ (T34.setTop (mkF m 105 #[.val (.long p1), .second, .val (.long p2), .second, .val (.int fl), .val (.int (1 : Int32)), .val (.int (0 : Int32)), .val (.long lb), .second, .val (.ref aF), .unset, .unset] [(.ref aF), (.ref aF)]))
          refine own_fs (Jvm.RoadKit.acmp (g := (mkF m 105 #[.val (.long p1), .second, .val (.long p2), .second, .val (.int fl), .val (.int (1 : Int32)), .val (.int (0 : Int32)), .val (.long lb), .second, .val (.ref aF), .unset, .unset] [(.ref aF), (.ref aF)])) X34 hx rfl rfl rfl (pc0 := 105) (pc' := 108) (same := true) rfl (hb hby at_105) rfl (decide_eq_true (congrArg Value.ref rfl)) (by decide) (by decide) (Steps.refl _)) ?_
          show own_G p.tables e below _ (T34.setTop (mkF m 108 #[.val (.long p1), .second, .val (.long p2), .second, .val (.int fl), .val (.int (1 : Int32)), .val (.int (0 : Int32)), .val (.long lb), .second, .val (.ref aF), .unset, .unset] []))
          refine own_fs (XS.iconst X34.here hx rfl (hb hby at_108) (Steps.refl _)) ?_
          show own_G p.tables e below _ (T34.setTop (mkF m 109 #[.val (.long p1), .second, .val (.long p2), .second, .val (.int fl), .val (.int (1 : Int32)), .val (.int (0 : Int32)), .val (.long lb), .second, .val (.ref aF), .unset, .unset] [(.int (1 : Int32))]))
          refine own_fs (XS.goto X34.here hx rfl (pc0 := 109) (pc' := 113) rfl (hb hby at_109) (by decide) (by decide) (Steps.refl _)) ?_
          show own_G p.tables e below _ (T34.setTop (mkF m 113 #[.val (.long p1), .second, .val (.long p2), .second, .val (.int fl), .val (.int (1 : Int32)), .val (.int (0 : Int32)), .val (.long lb), .second, .val (.ref aF), .unset, .unset] [(.int (1 : Int32))]))
          refine own_fs (XS.istore X34.here hx rfl (hb hby at_113) rfl (l' := #[.val (.long p1), .second, .val (.long p2), .second, .val (.int fl), .val (.int (1 : Int32)), .val (.int (0 : Int32)), .val (.long lb), .second, .val (.ref aF), .val (.int (1 : Int32)), .unset]) rfl (Steps.refl _)) ?_
          show own_G p.tables e below _ (T34.setTop (mkF m 115 #[.val (.long p1), .second, .val (.long p2), .second, .val (.int fl), .val (.int (1 : Int32)), .val (.int (0 : Int32)), .val (.long lb), .second, .val (.ref aF), .val (.int (1 : Int32)), .unset] []))
          refine own_fs (XS.aload X34.here hx rfl (hb hby at_115) rfl rfl (Steps.refl _)) ?_
          show own_G p.tables e below _ (T34.setTop (mkF m 117 #[.val (.long p1), .second, .val (.long p2), .second, .val (.int fl), .val (.int (1 : Int32)), .val (.int (0 : Int32)), .val (.long lb), .second, .val (.ref aF), .val (.int (1 : Int32)), .unset] [(.ref aF)]))
          obtain ⟨T35, X35, e35, st35⟩ := getS2 X34 hx hZ hown (host := "") (Or.inl (hw _ (List.mem_of_getElem? (i := 8) rfl))) Via.refl e34 hS_MUTUAL (g := (mkF m 117 #[.val (.long p1), .second, .val (.long p2), .second, .val (.int fl), .val (.int (1 : Int32)), .val (.int (0 : Int32)), .val (.long lb), .second, .val (.ref aF), .val (.int (1 : Int32)), .unset] [(.ref aF)])) rfl (hb hby at_117)
          refine own_fs (st35 _ (Steps.refl _)) ?_
          show own_G p.tables e below _ (T35.setTop (mkF m 120 #[.val (.long p1), .second, .val (.long p2), .second, .val (.int fl), .val (.int (1 : Int32)), .val (.int (0 : Int32)), .val (.long lb), .second, .val (.ref aF), .val (.int (1 : Int32)), .unset] [(.ref aM), (.ref aF)]))
          refine own_fs (Jvm.RoadKit.acmp (g := (mkF m 120 #[.val (.long p1), .second, .val (.long p2), .second, .val (.int fl), .val (.int (1 : Int32)), .val (.int (0 : Int32)), .val (.long lb), .second, .val (.ref aF), .val (.int (1 : Int32)), .unset] [(.ref aM), (.ref aF)])) X35 hx rfl rfl rfl (pc0 := 120) (pc' := 123) (same := false) rfl (hb hby at_120) rfl (decide_eq_false (fun q => (Ne.symm hne_aM_aF) (Value.ref.inj q))) (by decide) (by decide) (Steps.refl _)) ?_
          show own_G p.tables e below _ (T35.setTop (mkF m 123 #[.val (.long p1), .second, .val (.long p2), .second, .val (.int fl), .val (.int (1 : Int32)), .val (.int (0 : Int32)), .val (.long lb), .second, .val (.ref aF), .val (.int (1 : Int32)), .unset] []))
          refine own_fs (XS.aload X35.here hx rfl (hb hby at_123) rfl rfl (Steps.refl _)) ?_
          show own_G p.tables e below _ (T35.setTop (mkF m 125 #[.val (.long p1), .second, .val (.long p2), .second, .val (.int fl), .val (.int (1 : Int32)), .val (.int (0 : Int32)), .val (.long lb), .second, .val (.ref aF), .val (.int (1 : Int32)), .unset] [(.ref aF)]))
          obtain ⟨T36, X36, e36, st36⟩ := getS2 X35 hx hZ hown (host := "") (Or.inl (hw _ (List.mem_of_getElem? (i := 12) rfl))) Via.refl e35 hS_FOLLOWER (g := (mkF m 125 #[.val (.long p1), .second, .val (.long p2), .second, .val (.int fl), .val (.int (1 : Int32)), .val (.int (0 : Int32)), .val (.long lb), .second, .val (.ref aF), .val (.int (1 : Int32)), .unset] [(.ref aF)])) rfl (hb hby at_125)
          refine own_fs (st36 _ (Steps.refl _)) ?_
          show own_G p.tables e below _ (T36.setTop (mkF m 128 #[.val (.long p1), .second, .val (.long p2), .second, .val (.int fl), .val (.int (1 : Int32)), .val (.int (0 : Int32)), .val (.long lb), .second, .val (.ref aF), .val (.int (1 : Int32)), .unset] [(.ref aW), (.ref aF)]))
          refine own_fs (Jvm.RoadKit.acmp (g := (mkF m 128 #[.val (.long p1), .second, .val (.long p2), .second, .val (.int fl), .val (.int (1 : Int32)), .val (.int (0 : Int32)), .val (.long lb), .second, .val (.ref aF), .val (.int (1 : Int32)), .unset] [(.ref aW), (.ref aF)])) X36 hx rfl rfl rfl (pc0 := 128) (pc' := 135) (same := false) rfl (hb hby at_128) rfl (decide_eq_false (fun q => hne_aF_aW (Value.ref.inj q))) (by decide) (by decide) (Steps.refl _)) ?_
          show own_G p.tables e below _ (T36.setTop (mkF m 135 #[.val (.long p1), .second, .val (.long p2), .second, .val (.int fl), .val (.int (1 : Int32)), .val (.int (0 : Int32)), .val (.long lb), .second, .val (.ref aF), .val (.int (1 : Int32)), .unset] []))
          refine own_fs (XS.iconst X36.here hx rfl (hb hby at_135) (Steps.refl _)) ?_
          show own_G p.tables e below _ (T36.setTop (mkF m 136 #[.val (.long p1), .second, .val (.long p2), .second, .val (.int fl), .val (.int (1 : Int32)), .val (.int (0 : Int32)), .val (.long lb), .second, .val (.ref aF), .val (.int (1 : Int32)), .unset] [(.int (0 : Int32))]))
          refine own_fs (XS.istore X36.here hx rfl (hb hby at_136) rfl (l' := #[.val (.long p1), .second, .val (.long p2), .second, .val (.int fl), .val (.int (1 : Int32)), .val (.int (0 : Int32)), .val (.long lb), .second, .val (.ref aF), .val (.int (1 : Int32)), .val (.int (0 : Int32))]) rfl (Steps.refl _)) ?_
          show own_G p.tables e below _ (T36.setTop (mkF m 138 #[.val (.long p1), .second, .val (.long p2), .second, .val (.int fl), .val (.int (1 : Int32)), .val (.int (0 : Int32)), .val (.long lb), .second, .val (.ref aF), .val (.int (1 : Int32)), .val (.int (0 : Int32))] []))
          refine own_fs (XS.iload X36.here hx rfl (hb hby at_138) rfl (Steps.refl _)) ?_
          show own_G p.tables e below _ (T36.setTop (mkF m 140 #[.val (.long p1), .second, .val (.long p2), .second, .val (.int fl), .val (.int (1 : Int32)), .val (.int (0 : Int32)), .val (.long lb), .second, .val (.ref aF), .val (.int (1 : Int32)), .val (.int (0 : Int32))] [(.int (1 : Int32))]))
          refine own_fs (XS.iload X36.here hx rfl (hb hby at_140) rfl (Steps.refl _)) ?_
          show own_G p.tables e below _ (T36.setTop (mkF m 142 #[.val (.long p1), .second, .val (.long p2), .second, .val (.int fl), .val (.int (1 : Int32)), .val (.int (0 : Int32)), .val (.long lb), .second, .val (.ref aF), .val (.int (1 : Int32)), .val (.int (0 : Int32))] [(.int (1 : Int32)), (.int (1 : Int32))]))
          refine own_fs (XS.icmpNo X36.here hx rfl (hb hby at_142) rfl (XT.ii_ne_f (by decide : (1 : Int32) = (1 : Int32))) (Steps.refl _)) ?_
          show own_G p.tables e below _ (T36.setTop (mkF m 145 #[.val (.long p1), .second, .val (.long p2), .second, .val (.int fl), .val (.int (1 : Int32)), .val (.int (0 : Int32)), .val (.long lb), .second, .val (.ref aF), .val (.int (1 : Int32)), .val (.int (0 : Int32))] []))
          refine own_fs (XS.iload X36.here hx rfl (hb hby at_145) rfl (Steps.refl _)) ?_
          show own_G p.tables e below _ (T36.setTop (mkF m 147 #[.val (.long p1), .second, .val (.long p2), .second, .val (.int fl), .val (.int (1 : Int32)), .val (.int (0 : Int32)), .val (.long lb), .second, .val (.ref aF), .val (.int (1 : Int32)), .val (.int (0 : Int32))] [(.int (0 : Int32))]))
          refine own_fs (XS.iload X36.here hx rfl (hb hby at_147) rfl (Steps.refl _)) ?_
          show own_G p.tables e below _ (T36.setTop (mkF m 149 #[.val (.long p1), .second, .val (.long p2), .second, .val (.int fl), .val (.int (1 : Int32)), .val (.int (0 : Int32)), .val (.long lb), .second, .val (.ref aF), .val (.int (1 : Int32)), .val (.int (0 : Int32))] [(.int (0 : Int32)), (.int (0 : Int32))]))
          refine own_fs (XS.icmpNo X36.here hx rfl (hb hby at_149) rfl (XT.ii_ne_f (by decide : (0 : Int32) = (0 : Int32))) (Steps.refl _)) ?_
          show own_G p.tables e below _ (T36.setTop (mkF m 152 #[.val (.long p1), .second, .val (.long p2), .second, .val (.int fl), .val (.int (1 : Int32)), .val (.int (0 : Int32)), .val (.long lb), .second, .val (.ref aF), .val (.int (1 : Int32)), .val (.int (0 : Int32))] []))
          refine own_fs (XS.iconst X36.here hx rfl (hb hby at_152) (Steps.refl _)) ?_
          show own_G p.tables e below _ (T36.setTop (mkF m 153 #[.val (.long p1), .second, .val (.long p2), .second, .val (.int fl), .val (.int (1 : Int32)), .val (.int (0 : Int32)), .val (.long lb), .second, .val (.ref aF), .val (.int (1 : Int32)), .val (.int (0 : Int32))] [(.int (1 : Int32))]))
          refine own_fs (XS.goto X36.here hx rfl (pc0 := 153) (pc' := 157) rfl (hb hby at_153) (by decide) (by decide) (Steps.refl _)) ?_
          show own_G p.tables e below _ (T36.setTop (mkF m 157 #[.val (.long p1), .second, .val (.long p2), .second, .val (.int fl), .val (.int (1 : Int32)), .val (.int (0 : Int32)), .val (.long lb), .second, .val (.ref aF), .val (.int (1 : Int32)), .val (.int (0 : Int32))] [(.int (1 : Int32))]))
          exact own_retN X36 hx (t := .boolean) Bd.returns hlk (by simp) (hb hby at_157) (by decide) (by decide) e36 ⟨rfl, N30⟩
      show own_G p.tables e below _ (s₁.setTop (mkF m 28 #[.val (.long p1), .second, .val (.long p2), .second, .val (.int fl), .val (.int (1 : Int32)), .val (.int (0 : Int32)), .unset, .unset, .unset, .unset, .unset] []))
      refine own_fs (XS.iload X0.here hx rfl (hb hby at_28) rfl (Steps.refl _)) ?_
      show own_G p.tables e below _ (s₁.setTop (mkF m 30 #[.val (.long p1), .second, .val (.long p2), .second, .val (.int fl), .val (.int (1 : Int32)), .val (.int (0 : Int32)), .unset, .unset, .unset, .unset, .unset] [(.int fl)]))
      refine own_fs (XS.iconst X0.here hx rfl (hb hby at_30) (Steps.refl _)) ?_
      show own_G p.tables e below _ (s₁.setTop (mkF m 31 #[.val (.long p1), .second, .val (.long p2), .second, .val (.int fl), .val (.int (1 : Int32)), .val (.int (0 : Int32)), .unset, .unset, .unset, .unset, .unset] [(.int (4 : Int32)), (.int fl)]))
      refine own_fs (XS.iand X0.here hx rfl (hb hby at_31) rfl (Steps.refl _)) ?_
      show own_G p.tables e below _ (s₁.setTop (mkF m 32 #[.val (.long p1), .second, .val (.long p2), .second, .val (.int fl), .val (.int (1 : Int32)), .val (.int (0 : Int32)), .unset, .unset, .unset, .unset, .unset] [(.int (fl &&& (4 : Int32)))]))
      by_cases hc32 : (fl &&& (4 : Int32)) = (0 : Int32)
      · refine own_fs (XS.ifYes X0.here hx rfl (pc0 := 32) (pc' := 39) rfl (hb hby at_32) rfl (XT.i0_eq_t hc32) (by decide) (by decide) (Steps.refl _)) ?_
        show own_G p.tables e below _ (s₁.setTop (mkF m 39 #[.val (.long p1), .second, .val (.long p2), .second, .val (.int fl), .val (.int (1 : Int32)), .val (.int (0 : Int32)), .unset, .unset, .unset, .unset, .unset] []))
        refine own_fs (XS.lloadN X0.here hx rfl (hb hby at_39) rfl (Steps.refl _)) ?_
        exact J40 _
      · refine own_fs (XS.ifNo X0.here hx rfl (hb hby at_32) rfl (XT.i0_eq_f hc32) (Steps.refl _)) ?_
        show own_G p.tables e below _ (s₁.setTop (mkF m 35 #[.val (.long p1), .second, .val (.long p2), .second, .val (.int fl), .val (.int (1 : Int32)), .val (.int (0 : Int32)), .unset, .unset, .unset, .unset, .unset] []))
        refine own_fs (XS.lloadN X0.here hx rfl (hb hby at_35) rfl (Steps.refl _)) ?_
        show own_G p.tables e below _ (s₁.setTop (mkF m 36 #[.val (.long p1), .second, .val (.long p2), .second, .val (.int fl), .val (.int (1 : Int32)), .val (.int (0 : Int32)), .unset, .unset, .unset, .unset, .unset] [(.long p1)]))
        refine own_fs (XS.goto X0.here hx rfl (pc0 := 36) (pc' := 40) rfl (hb hby at_36) (by decide) (by decide) (Steps.refl _)) ?_
        exact J40 _
    · refine own_fs (XS.ifNo X0.here hx rfl (hb hby at_18) rfl (XT.i0_eq_f hc18) (Steps.refl _)) ?_
      show own_G p.tables e below _ (s₁.setTop (mkF m 21 #[.val (.long p1), .second, .val (.long p2), .second, .val (.int fl), .val (.int (1 : Int32)), .unset, .unset, .unset, .unset, .unset, .unset] []))
      refine own_fs (XS.iconst X0.here hx rfl (hb hby at_21) (Steps.refl _)) ?_
      show own_G p.tables e below _ (s₁.setTop (mkF m 22 #[.val (.long p1), .second, .val (.long p2), .second, .val (.int fl), .val (.int (1 : Int32)), .unset, .unset, .unset, .unset, .unset, .unset] [(.int (1 : Int32))]))
      refine own_fs (XS.goto X0.here hx rfl (pc0 := 22) (pc' := 26) rfl (hb hby at_22) (by decide) (by decide) (Steps.refl _)) ?_
      show own_G p.tables e below _ (s₁.setTop (mkF m 26 #[.val (.long p1), .second, .val (.long p2), .second, .val (.int fl), .val (.int (1 : Int32)), .unset, .unset, .unset, .unset, .unset, .unset] [(.int (1 : Int32))]))
      refine own_fs (XS.istore X0.here hx rfl (hb hby at_26) rfl (l' := #[.val (.long p1), .second, .val (.long p2), .second, .val (.int fl), .val (.int (1 : Int32)), .val (.int (1 : Int32)), .unset, .unset, .unset, .unset, .unset]) rfl (Steps.refl _)) ?_
      have J40 : ∀ (lb : Int64), own_G p.tables e below (own_P s (own_law_Q Z p1 p2 fl aS aM aF aW aN h0 n0) room_1.cells room_1.slots) (s₁.setTop (mkF m 40 #[.val (.long p1), .second, .val (.long p2), .second, .val (.int fl), .val (.int (1 : Int32)), .val (.int (1 : Int32)), .unset, .unset, .unset, .unset, .unset] [(.long lb)])) := by
        intro lb
        show own_G p.tables e below _ (s₁.setTop (mkF m 40 #[.val (.long p1), .second, .val (.long p2), .second, .val (.int fl), .val (.int (1 : Int32)), .val (.int (1 : Int32)), .unset, .unset, .unset, .unset, .unset] [(.long lb)]))
        refine own_fs (XS.lstore X0.here hx rfl (hb hby at_40) rfl (l' := #[.val (.long p1), .second, .val (.long p2), .second, .val (.int fl), .val (.int (1 : Int32)), .val (.int (1 : Int32)), .val (.long lb), .second, .unset, .unset, .unset]) rfl (Steps.refl _)) ?_
        show own_G p.tables e below _ (s₁.setTop (mkF m 42 #[.val (.long p1), .second, .val (.long p2), .second, .val (.int fl), .val (.int (1 : Int32)), .val (.int (1 : Int32)), .val (.long lb), .second, .unset, .unset, .unset] []))
        rcases own_dec p1 lb with ⟨cc, cc'⟩ | ⟨cc, cc'⟩
        · show own_G p.tables e below _ (s₁.setTop (mkF m 42 #[.val (.long p1), .second, .val (.long p2), .second, .val (.int fl), .val (.int (1 : Int32)), .val (.int (1 : Int32)), .val (.long lb), .second, .unset, .unset, .unset] []))
          refine own_fs (XS.lloadN X0.here hx rfl (hb hby at_42) rfl (Steps.refl _)) ?_
          show own_G p.tables e below _ (s₁.setTop (mkF m 43 #[.val (.long p1), .second, .val (.long p2), .second, .val (.int fl), .val (.int (1 : Int32)), .val (.int (1 : Int32)), .val (.long lb), .second, .unset, .unset, .unset] [(.long p1)]))
          refine own_fs (XS.lload X0.here hx rfl (hb hby at_43) rfl (Steps.refl _)) ?_
          show own_G p.tables e below _ (s₁.setTop (mkF m 45 #[.val (.long p1), .second, .val (.long p2), .second, .val (.int fl), .val (.int (1 : Int32)), .val (.int (1 : Int32)), .val (.long lb), .second, .unset, .unset, .unset] [(.long lb), (.long p1)]))
          refine own_fs (XS.iload X0.here hx rfl (hb hby at_45) rfl (Steps.refl _)) ?_
          show own_G p.tables e below _ (s₁.setTop (mkF m 47 #[.val (.long p1), .second, .val (.long p2), .second, .val (.int fl), .val (.int (1 : Int32)), .val (.int (1 : Int32)), .val (.long lb), .second, .unset, .unset, .unset] [(.int (1 : Int32)), (.long lb), (.long p1)]))
          refine own_fs (XS.iload X0.here hx rfl (hb hby at_47) rfl (Steps.refl _)) ?_
          show own_G p.tables e below _ (s₁.setTop (mkF m 49 #[.val (.long p1), .second, .val (.long p2), .second, .val (.int fl), .val (.int (1 : Int32)), .val (.int (1 : Int32)), .val (.long lb), .second, .unset, .unset, .unset] [(.int (1 : Int32)), (.int (1 : Int32)), (.long lb), (.long p1)]))
          have Zs39 : n0 ≤ h0.size := Z0
          obtain ⟨_, _, ⟨T38, L38, k38, n38⟩, -, X38, ⟨Lc38, hQ38, l38, y38, z38⟩, st38⟩ := Jvm.LawKit.callS X0 hx (y := (⟨"com/example/cast3/cast3/Relation", "of", "(JJZZ)Lcom/example/cast3/cast3/Relation;"⟩ : MethodName)) hown (mvT hZ (hw _ (List.mem_of_getElem? (i := 0) rfl))) (mvT hZ (hw _ (List.mem_of_getElem? (i := 1) rfl))) (mvT hZ (hw _ (List.mem_of_getElem? (i := 2) rfl))) (mvT hZ (hw _ (List.mem_of_getElem? (i := 3) rfl))) (by decide) (backOf (W := 0) (own_rof l Z a0 hw [] aS aM aF aW aN p1 lb (1 : Int32) (1 : Int32) h0 n0 Zs39 hS_SELF hS_MUTUAL hS_FOLLOWING hS_FOLLOWER hS_NONE) hZ (hw _ (List.mem_of_getElem? (i := 3) rfl)) (hw _ (List.mem_of_getElem? (i := 2) rfl)) (by decide) (by decide)) (g := (mkF m 49 #[.val (.long p1), .second, .val (.long p2), .second, .val (.int fl), .val (.int (1 : Int32)), .val (.int (1 : Int32)), .val (.long lb), .second, .unset, .unset, .unset] [(.int (1 : Int32)), (.int (1 : Int32)), (.long lb), (.long p1)])) rfl (by rw [hml]; rfl) (argsL := [(.long p1), (.long lb), (.int (1 : Int32)), (.int (1 : Int32))]) (rest := []) (lenOf own_pd0 rfl) rfl (by show 2 * 0 + _ ≤ _; exact Nat.le_of_eq rfl) (hb hby at_49) (fun _ _ => ⟨rfl, e0, (by decide : 0 + 0 ≤ _), (by decide : 0 + 0 ≤ _)⟩)
          dsimp only [Pt.U, Pt.locs, Pt.cells, Pt.slots] at X38 l38 y38 z38 st38 hQ38
          subst l38 y38 z38
          obtain ⟨rfl, Nq38, e38⟩ := hQ38
          have N38 := Fr.app N0 Nq38
          refine own_fs (st38 _ (Steps.refl _)) ?_
          show own_G p.tables e below _ (T38.setTop (mkF m 52 #[.val (.long p1), .second, .val (.long p2), .second, .val (.int fl), .val (.int (1 : Int32)), .val (.int (1 : Int32)), .val (.long lb), .second, .unset, .unset, .unset] [(.ref (own_of aS aM aF aW aN p1 lb (1 : Int32) (1 : Int32)))]))
          rw [show own_of aS aM aF aW aN p1 lb (1 : Int32) (1 : Int32) = aS from by simp [own_of, cc']]
          show own_G p.tables e below _ (T38.setTop (mkF m 52 #[.val (.long p1), .second, .val (.long p2), .second, .val (.int fl), .val (.int (1 : Int32)), .val (.int (1 : Int32)), .val (.long lb), .second, .unset, .unset, .unset] [(.ref aS)]))
          refine own_fs (XS.astore X38.here hx rfl (hb hby at_52) rfl rfl (l' := #[.val (.long p1), .second, .val (.long p2), .second, .val (.int fl), .val (.int (1 : Int32)), .val (.int (1 : Int32)), .val (.long lb), .second, .val (.ref aS), .unset, .unset]) rfl (Steps.refl _)) ?_
          show own_G p.tables e below _ (T38.setTop (mkF m 54 #[.val (.long p1), .second, .val (.long p2), .second, .val (.int fl), .val (.int (1 : Int32)), .val (.int (1 : Int32)), .val (.long lb), .second, .val (.ref aS), .unset, .unset] []))
          refine own_fs (XS.aload X38.here hx rfl (hb hby at_54) rfl rfl (Steps.refl _)) ?_
          show own_G p.tables e below _ (T38.setTop (mkF m 56 #[.val (.long p1), .second, .val (.long p2), .second, .val (.int fl), .val (.int (1 : Int32)), .val (.int (1 : Int32)), .val (.long lb), .second, .val (.ref aS), .unset, .unset] [(.ref aS)]))
          refine own_fs (XS.ifnonnullYes X38.here hx rfl (pc0 := 56) (pc' := 61) rfl (hb hby at_56) rfl (by decide) (by decide) (Steps.refl _)) ?_
          show own_G p.tables e below _ (T38.setTop (mkF m 61 #[.val (.long p1), .second, .val (.long p2), .second, .val (.int fl), .val (.int (1 : Int32)), .val (.int (1 : Int32)), .val (.long lb), .second, .val (.ref aS), .unset, .unset] []))
          refine own_fs (XS.lloadN X38.here hx rfl (hb hby at_61) rfl (Steps.refl _)) ?_
          show own_G p.tables e below _ (T38.setTop (mkF m 62 #[.val (.long p1), .second, .val (.long p2), .second, .val (.int fl), .val (.int (1 : Int32)), .val (.int (1 : Int32)), .val (.long lb), .second, .val (.ref aS), .unset, .unset] [(.long p1)]))
          refine own_fs (XS.lload X38.here hx rfl (hb hby at_62) rfl (Steps.refl _)) ?_
          show own_G p.tables e below _ (T38.setTop (mkF m 64 #[.val (.long p1), .second, .val (.long p2), .second, .val (.int fl), .val (.int (1 : Int32)), .val (.int (1 : Int32)), .val (.long lb), .second, .val (.ref aS), .unset, .unset] [(.long lb), (.long p1)]))
          refine own_fs (XT.lcmp X38.here hx rfl (hb hby at_64) rfl (Steps.refl _)) ?_
          show own_G p.tables e below _ (T38.setTop (mkF m 65 #[.val (.long p1), .second, .val (.long p2), .second, .val (.int fl), .val (.int (1 : Int32)), .val (.int (1 : Int32)), .val (.long lb), .second, .val (.ref aS), .unset, .unset] [(.int (XT.cmpL p1 lb))]))
          refine own_fs (XS.ifNo X38.here hx rfl (hb hby at_65) rfl (XT.ll_ne_f cc) (Steps.refl _)) ?_
          show own_G p.tables e below _ (T38.setTop (mkF m 68 #[.val (.long p1), .second, .val (.long p2), .second, .val (.int fl), .val (.int (1 : Int32)), .val (.int (1 : Int32)), .val (.long lb), .second, .val (.ref aS), .unset, .unset] []))
          refine own_fs (XS.aload X38.here hx rfl (hb hby at_68) rfl rfl (Steps.refl _)) ?_
          show own_G p.tables e below _ (T38.setTop (mkF m 70 #[.val (.long p1), .second, .val (.long p2), .second, .val (.int fl), .val (.int (1 : Int32)), .val (.int (1 : Int32)), .val (.long lb), .second, .val (.ref aS), .unset, .unset] [(.ref aS)]))
          obtain ⟨T40, X40, e40, st40⟩ := getS2 X38 hx hZ hown (host := "") (Or.inl (hw _ (List.mem_of_getElem? (i := 6) rfl))) Via.refl e38 hS_SELF (g := (mkF m 70 #[.val (.long p1), .second, .val (.long p2), .second, .val (.int fl), .val (.int (1 : Int32)), .val (.int (1 : Int32)), .val (.long lb), .second, .val (.ref aS), .unset, .unset] [(.ref aS)])) rfl (hb hby at_70)
          refine own_fs (st40 _ (Steps.refl _)) ?_
          show own_G p.tables e below _ (T40.setTop (mkF m 73 #[.val (.long p1), .second, .val (.long p2), .second, .val (.int fl), .val (.int (1 : Int32)), .val (.int (1 : Int32)), .val (.long lb), .second, .val (.ref aS), .unset, .unset] [(.ref aS), (.ref aS)]))
          refine own_fs (Jvm.RoadKit.acmp (g := (mkF m 73 #[.val (.long p1), .second, .val (.long p2), .second, .val (.int fl), .val (.int (1 : Int32)), .val (.int (1 : Int32)), .val (.long lb), .second, .val (.ref aS), .unset, .unset] [(.ref aS), (.ref aS)])) X40 hx rfl rfl rfl (pc0 := 73) (pc' := 76) (same := true) rfl (hb hby at_73) rfl (decide_eq_true (congrArg Value.ref rfl)) (by decide) (by decide) (Steps.refl _)) ?_
          show own_G p.tables e below _ (T40.setTop (mkF m 76 #[.val (.long p1), .second, .val (.long p2), .second, .val (.int fl), .val (.int (1 : Int32)), .val (.int (1 : Int32)), .val (.long lb), .second, .val (.ref aS), .unset, .unset] []))
          refine own_fs (XS.iconst X40.here hx rfl (hb hby at_76) (Steps.refl _)) ?_
          show own_G p.tables e below _ (T40.setTop (mkF m 77 #[.val (.long p1), .second, .val (.long p2), .second, .val (.int fl), .val (.int (1 : Int32)), .val (.int (1 : Int32)), .val (.long lb), .second, .val (.ref aS), .unset, .unset] [(.int (1 : Int32))]))
          refine own_fs (XS.goto X40.here hx rfl (pc0 := 77) (pc' := 81) rfl (hb hby at_77) (by decide) (by decide) (Steps.refl _)) ?_
          show own_G p.tables e below _ (T40.setTop (mkF m 81 #[.val (.long p1), .second, .val (.long p2), .second, .val (.int fl), .val (.int (1 : Int32)), .val (.int (1 : Int32)), .val (.long lb), .second, .val (.ref aS), .unset, .unset] [(.int (1 : Int32))]))
          exact own_retN X40 hx (t := .boolean) Bd.returns hlk (by simp) (hb hby at_81) (by decide) (by decide) e40 ⟨rfl, N38⟩
        · show own_G p.tables e below _ (s₁.setTop (mkF m 42 #[.val (.long p1), .second, .val (.long p2), .second, .val (.int fl), .val (.int (1 : Int32)), .val (.int (1 : Int32)), .val (.long lb), .second, .unset, .unset, .unset] []))
          refine own_fs (XS.lloadN X0.here hx rfl (hb hby at_42) rfl (Steps.refl _)) ?_
          show own_G p.tables e below _ (s₁.setTop (mkF m 43 #[.val (.long p1), .second, .val (.long p2), .second, .val (.int fl), .val (.int (1 : Int32)), .val (.int (1 : Int32)), .val (.long lb), .second, .unset, .unset, .unset] [(.long p1)]))
          refine own_fs (XS.lload X0.here hx rfl (hb hby at_43) rfl (Steps.refl _)) ?_
          show own_G p.tables e below _ (s₁.setTop (mkF m 45 #[.val (.long p1), .second, .val (.long p2), .second, .val (.int fl), .val (.int (1 : Int32)), .val (.int (1 : Int32)), .val (.long lb), .second, .unset, .unset, .unset] [(.long lb), (.long p1)]))
          refine own_fs (XS.iload X0.here hx rfl (hb hby at_45) rfl (Steps.refl _)) ?_
          show own_G p.tables e below _ (s₁.setTop (mkF m 47 #[.val (.long p1), .second, .val (.long p2), .second, .val (.int fl), .val (.int (1 : Int32)), .val (.int (1 : Int32)), .val (.long lb), .second, .unset, .unset, .unset] [(.int (1 : Int32)), (.long lb), (.long p1)]))
          refine own_fs (XS.iload X0.here hx rfl (hb hby at_47) rfl (Steps.refl _)) ?_
          show own_G p.tables e below _ (s₁.setTop (mkF m 49 #[.val (.long p1), .second, .val (.long p2), .second, .val (.int fl), .val (.int (1 : Int32)), .val (.int (1 : Int32)), .val (.long lb), .second, .unset, .unset, .unset] [(.int (1 : Int32)), (.int (1 : Int32)), (.long lb), (.long p1)]))
          have Zs43 : n0 ≤ h0.size := Z0
          obtain ⟨_, _, ⟨T42, L42, k42, n42⟩, -, X42, ⟨Lc42, hQ42, l42, y42, z42⟩, st42⟩ := Jvm.LawKit.callS X0 hx (y := (⟨"com/example/cast3/cast3/Relation", "of", "(JJZZ)Lcom/example/cast3/cast3/Relation;"⟩ : MethodName)) hown (mvT hZ (hw _ (List.mem_of_getElem? (i := 0) rfl))) (mvT hZ (hw _ (List.mem_of_getElem? (i := 1) rfl))) (mvT hZ (hw _ (List.mem_of_getElem? (i := 2) rfl))) (mvT hZ (hw _ (List.mem_of_getElem? (i := 3) rfl))) (by decide) (backOf (W := 0) (own_rof l Z a0 hw [] aS aM aF aW aN p1 lb (1 : Int32) (1 : Int32) h0 n0 Zs43 hS_SELF hS_MUTUAL hS_FOLLOWING hS_FOLLOWER hS_NONE) hZ (hw _ (List.mem_of_getElem? (i := 3) rfl)) (hw _ (List.mem_of_getElem? (i := 2) rfl)) (by decide) (by decide)) (g := (mkF m 49 #[.val (.long p1), .second, .val (.long p2), .second, .val (.int fl), .val (.int (1 : Int32)), .val (.int (1 : Int32)), .val (.long lb), .second, .unset, .unset, .unset] [(.int (1 : Int32)), (.int (1 : Int32)), (.long lb), (.long p1)])) rfl (by rw [hml]; rfl) (argsL := [(.long p1), (.long lb), (.int (1 : Int32)), (.int (1 : Int32))]) (rest := []) (lenOf own_pd0 rfl) rfl (by show 2 * 0 + _ ≤ _; exact Nat.le_of_eq rfl) (hb hby at_49) (fun _ _ => ⟨rfl, e0, (by decide : 0 + 0 ≤ _), (by decide : 0 + 0 ≤ _)⟩)
          dsimp only [Pt.U, Pt.locs, Pt.cells, Pt.slots] at X42 l42 y42 z42 st42 hQ42
          subst l42 y42 z42
          obtain ⟨rfl, Nq42, e42⟩ := hQ42
          have N42 := Fr.app N0 Nq42
          refine own_fs (st42 _ (Steps.refl _)) ?_
          show own_G p.tables e below _ (T42.setTop (mkF m 52 #[.val (.long p1), .second, .val (.long p2), .second, .val (.int fl), .val (.int (1 : Int32)), .val (.int (1 : Int32)), .val (.long lb), .second, .unset, .unset, .unset] [(.ref (own_of aS aM aF aW aN p1 lb (1 : Int32) (1 : Int32)))]))
          rw [show own_of aS aM aF aW aN p1 lb (1 : Int32) (1 : Int32) = aM from by simp [own_of, cc']]
          show own_G p.tables e below _ (T42.setTop (mkF m 52 #[.val (.long p1), .second, .val (.long p2), .second, .val (.int fl), .val (.int (1 : Int32)), .val (.int (1 : Int32)), .val (.long lb), .second, .unset, .unset, .unset] [(.ref aM)]))
          refine own_fs (XS.astore X42.here hx rfl (hb hby at_52) rfl rfl (l' := #[.val (.long p1), .second, .val (.long p2), .second, .val (.int fl), .val (.int (1 : Int32)), .val (.int (1 : Int32)), .val (.long lb), .second, .val (.ref aM), .unset, .unset]) rfl (Steps.refl _)) ?_
          show own_G p.tables e below _ (T42.setTop (mkF m 54 #[.val (.long p1), .second, .val (.long p2), .second, .val (.int fl), .val (.int (1 : Int32)), .val (.int (1 : Int32)), .val (.long lb), .second, .val (.ref aM), .unset, .unset] []))
          refine own_fs (XS.aload X42.here hx rfl (hb hby at_54) rfl rfl (Steps.refl _)) ?_
          show own_G p.tables e below _ (T42.setTop (mkF m 56 #[.val (.long p1), .second, .val (.long p2), .second, .val (.int fl), .val (.int (1 : Int32)), .val (.int (1 : Int32)), .val (.long lb), .second, .val (.ref aM), .unset, .unset] [(.ref aM)]))
          refine own_fs (XS.ifnonnullYes X42.here hx rfl (pc0 := 56) (pc' := 61) rfl (hb hby at_56) rfl (by decide) (by decide) (Steps.refl _)) ?_
          show own_G p.tables e below _ (T42.setTop (mkF m 61 #[.val (.long p1), .second, .val (.long p2), .second, .val (.int fl), .val (.int (1 : Int32)), .val (.int (1 : Int32)), .val (.long lb), .second, .val (.ref aM), .unset, .unset] []))
          refine own_fs (XS.lloadN X42.here hx rfl (hb hby at_61) rfl (Steps.refl _)) ?_
          show own_G p.tables e below _ (T42.setTop (mkF m 62 #[.val (.long p1), .second, .val (.long p2), .second, .val (.int fl), .val (.int (1 : Int32)), .val (.int (1 : Int32)), .val (.long lb), .second, .val (.ref aM), .unset, .unset] [(.long p1)]))
          refine own_fs (XS.lload X42.here hx rfl (hb hby at_62) rfl (Steps.refl _)) ?_
          show own_G p.tables e below _ (T42.setTop (mkF m 64 #[.val (.long p1), .second, .val (.long p2), .second, .val (.int fl), .val (.int (1 : Int32)), .val (.int (1 : Int32)), .val (.long lb), .second, .val (.ref aM), .unset, .unset] [(.long lb), (.long p1)]))
          refine own_fs (XT.lcmp X42.here hx rfl (hb hby at_64) rfl (Steps.refl _)) ?_
          show own_G p.tables e below _ (T42.setTop (mkF m 65 #[.val (.long p1), .second, .val (.long p2), .second, .val (.int fl), .val (.int (1 : Int32)), .val (.int (1 : Int32)), .val (.long lb), .second, .val (.ref aM), .unset, .unset] [(.int (XT.cmpL p1 lb))]))
          refine own_fs (XS.ifYes X42.here hx rfl (pc0 := 65) (pc' := 82) rfl (hb hby at_65) rfl (XT.ll_ne_t cc) (by decide) (by decide) (Steps.refl _)) ?_
          show own_G p.tables e below _ (T42.setTop (mkF m 82 #[.val (.long p1), .second, .val (.long p2), .second, .val (.int fl), .val (.int (1 : Int32)), .val (.int (1 : Int32)), .val (.long lb), .second, .val (.ref aM), .unset, .unset] []))
          refine own_fs (XS.aload X42.here hx rfl (hb hby at_82) rfl rfl (Steps.refl _)) ?_
          show own_G p.tables e below _ (T42.setTop (mkF m 84 #[.val (.long p1), .second, .val (.long p2), .second, .val (.int fl), .val (.int (1 : Int32)), .val (.int (1 : Int32)), .val (.long lb), .second, .val (.ref aM), .unset, .unset] [(.ref aM)]))
          obtain ⟨T44, X44, e44, st44⟩ := getS2 X42 hx hZ hown (host := "") (Or.inl (hw _ (List.mem_of_getElem? (i := 6) rfl))) Via.refl e42 hS_SELF (g := (mkF m 84 #[.val (.long p1), .second, .val (.long p2), .second, .val (.int fl), .val (.int (1 : Int32)), .val (.int (1 : Int32)), .val (.long lb), .second, .val (.ref aM), .unset, .unset] [(.ref aM)])) rfl (hb hby at_84)
          refine own_fs (st44 _ (Steps.refl _)) ?_
          show own_G p.tables e below _ (T44.setTop (mkF m 87 #[.val (.long p1), .second, .val (.long p2), .second, .val (.int fl), .val (.int (1 : Int32)), .val (.int (1 : Int32)), .val (.long lb), .second, .val (.ref aM), .unset, .unset] [(.ref aS), (.ref aM)]))
          refine own_fs (Jvm.RoadKit.acmp (g := (mkF m 87 #[.val (.long p1), .second, .val (.long p2), .second, .val (.int fl), .val (.int (1 : Int32)), .val (.int (1 : Int32)), .val (.long lb), .second, .val (.ref aM), .unset, .unset] [(.ref aS), (.ref aM)])) X44 hx rfl rfl rfl (pc0 := 87) (pc' := 92) (same := false) rfl (hb hby at_87) rfl (decide_eq_false (fun q => (Ne.symm hne_aS_aM) (Value.ref.inj q))) (by decide) (by decide) (Steps.refl _)) ?_
          show own_G p.tables e below _ (T44.setTop (mkF m 92 #[.val (.long p1), .second, .val (.long p2), .second, .val (.int fl), .val (.int (1 : Int32)), .val (.int (1 : Int32)), .val (.long lb), .second, .val (.ref aM), .unset, .unset] []))
          refine own_fs (XS.aload X44.here hx rfl (hb hby at_92) rfl rfl (Steps.refl _)) ?_
          show own_G p.tables e below _ (T44.setTop (mkF m 94 #[.val (.long p1), .second, .val (.long p2), .second, .val (.int fl), .val (.int (1 : Int32)), .val (.int (1 : Int32)), .val (.long lb), .second, .val (.ref aM), .unset, .unset] [(.ref aM)]))
          obtain ⟨T45, X45, e45, st45⟩ := getS2 X44 hx hZ hown (host := "") (Or.inl (hw _ (List.mem_of_getElem? (i := 8) rfl))) Via.refl e44 hS_MUTUAL (g := (mkF m 94 #[.val (.long p1), .second, .val (.long p2), .second, .val (.int fl), .val (.int (1 : Int32)), .val (.int (1 : Int32)), .val (.long lb), .second, .val (.ref aM), .unset, .unset] [(.ref aM)])) rfl (hb hby at_94)
          refine own_fs (st45 _ (Steps.refl _)) ?_
          show own_G p.tables e below _ (T45.setTop (mkF m 97 #[.val (.long p1), .second, .val (.long p2), .second, .val (.int fl), .val (.int (1 : Int32)), .val (.int (1 : Int32)), .val (.long lb), .second, .val (.ref aM), .unset, .unset] [(.ref aM), (.ref aM)]))
          refine own_fs (Jvm.RoadKit.acmp (g := (mkF m 97 #[.val (.long p1), .second, .val (.long p2), .second, .val (.int fl), .val (.int (1 : Int32)), .val (.int (1 : Int32)), .val (.long lb), .second, .val (.ref aM), .unset, .unset] [(.ref aM), (.ref aM)])) X45 hx rfl rfl rfl (pc0 := 97) (pc' := 108) (same := true) rfl (hb hby at_97) rfl (decide_eq_true (congrArg Value.ref rfl)) (by decide) (by decide) (Steps.refl _)) ?_
          show own_G p.tables e below _ (T45.setTop (mkF m 108 #[.val (.long p1), .second, .val (.long p2), .second, .val (.int fl), .val (.int (1 : Int32)), .val (.int (1 : Int32)), .val (.long lb), .second, .val (.ref aM), .unset, .unset] []))
          refine own_fs (XS.iconst X45.here hx rfl (hb hby at_108) (Steps.refl _)) ?_
          show own_G p.tables e below _ (T45.setTop (mkF m 109 #[.val (.long p1), .second, .val (.long p2), .second, .val (.int fl), .val (.int (1 : Int32)), .val (.int (1 : Int32)), .val (.long lb), .second, .val (.ref aM), .unset, .unset] [(.int (1 : Int32))]))
          refine own_fs (XS.goto X45.here hx rfl (pc0 := 109) (pc' := 113) rfl (hb hby at_109) (by decide) (by decide) (Steps.refl _)) ?_
          show own_G p.tables e below _ (T45.setTop (mkF m 113 #[.val (.long p1), .second, .val (.long p2), .second, .val (.int fl), .val (.int (1 : Int32)), .val (.int (1 : Int32)), .val (.long lb), .second, .val (.ref aM), .unset, .unset] [(.int (1 : Int32))]))
          refine own_fs (XS.istore X45.here hx rfl (hb hby at_113) rfl (l' := #[.val (.long p1), .second, .val (.long p2), .second, .val (.int fl), .val (.int (1 : Int32)), .val (.int (1 : Int32)), .val (.long lb), .second, .val (.ref aM), .val (.int (1 : Int32)), .unset]) rfl (Steps.refl _)) ?_
          show own_G p.tables e below _ (T45.setTop (mkF m 115 #[.val (.long p1), .second, .val (.long p2), .second, .val (.int fl), .val (.int (1 : Int32)), .val (.int (1 : Int32)), .val (.long lb), .second, .val (.ref aM), .val (.int (1 : Int32)), .unset] []))
          refine own_fs (XS.aload X45.here hx rfl (hb hby at_115) rfl rfl (Steps.refl _)) ?_
          show own_G p.tables e below _ (T45.setTop (mkF m 117 #[.val (.long p1), .second, .val (.long p2), .second, .val (.int fl), .val (.int (1 : Int32)), .val (.int (1 : Int32)), .val (.long lb), .second, .val (.ref aM), .val (.int (1 : Int32)), .unset] [(.ref aM)]))
          obtain ⟨T46, X46, e46, st46⟩ := getS2 X45 hx hZ hown (host := "") (Or.inl (hw _ (List.mem_of_getElem? (i := 8) rfl))) Via.refl e45 hS_MUTUAL (g := (mkF m 117 #[.val (.long p1), .second, .val (.long p2), .second, .val (.int fl), .val (.int (1 : Int32)), .val (.int (1 : Int32)), .val (.long lb), .second, .val (.ref aM), .val (.int (1 : Int32)), .unset] [(.ref aM)])) rfl (hb hby at_117)
          refine own_fs (st46 _ (Steps.refl _)) ?_
          show own_G p.tables e below _ (T46.setTop (mkF m 120 #[.val (.long p1), .second, .val (.long p2), .second, .val (.int fl), .val (.int (1 : Int32)), .val (.int (1 : Int32)), .val (.long lb), .second, .val (.ref aM), .val (.int (1 : Int32)), .unset] [(.ref aM), (.ref aM)]))
          refine own_fs (Jvm.RoadKit.acmp (g := (mkF m 120 #[.val (.long p1), .second, .val (.long p2), .second, .val (.int fl), .val (.int (1 : Int32)), .val (.int (1 : Int32)), .val (.long lb), .second, .val (.ref aM), .val (.int (1 : Int32)), .unset] [(.ref aM), (.ref aM)])) X46 hx rfl rfl rfl (pc0 := 120) (pc' := 131) (same := true) rfl (hb hby at_120) rfl (decide_eq_true (congrArg Value.ref rfl)) (by decide) (by decide) (Steps.refl _)) ?_
          show own_G p.tables e below _ (T46.setTop (mkF m 131 #[.val (.long p1), .second, .val (.long p2), .second, .val (.int fl), .val (.int (1 : Int32)), .val (.int (1 : Int32)), .val (.long lb), .second, .val (.ref aM), .val (.int (1 : Int32)), .unset] []))
          refine own_fs (XS.iconst X46.here hx rfl (hb hby at_131) (Steps.refl _)) ?_
          show own_G p.tables e below _ (T46.setTop (mkF m 132 #[.val (.long p1), .second, .val (.long p2), .second, .val (.int fl), .val (.int (1 : Int32)), .val (.int (1 : Int32)), .val (.long lb), .second, .val (.ref aM), .val (.int (1 : Int32)), .unset] [(.int (1 : Int32))]))
          refine own_fs (XS.goto X46.here hx rfl (pc0 := 132) (pc' := 136) rfl (hb hby at_132) (by decide) (by decide) (Steps.refl _)) ?_
          show own_G p.tables e below _ (T46.setTop (mkF m 136 #[.val (.long p1), .second, .val (.long p2), .second, .val (.int fl), .val (.int (1 : Int32)), .val (.int (1 : Int32)), .val (.long lb), .second, .val (.ref aM), .val (.int (1 : Int32)), .unset] [(.int (1 : Int32))]))
          refine own_fs (XS.istore X46.here hx rfl (hb hby at_136) rfl (l' := #[.val (.long p1), .second, .val (.long p2), .second, .val (.int fl), .val (.int (1 : Int32)), .val (.int (1 : Int32)), .val (.long lb), .second, .val (.ref aM), .val (.int (1 : Int32)), .val (.int (1 : Int32))]) rfl (Steps.refl _)) ?_
          show own_G p.tables e below _ (T46.setTop (mkF m 138 #[.val (.long p1), .second, .val (.long p2), .second, .val (.int fl), .val (.int (1 : Int32)), .val (.int (1 : Int32)), .val (.long lb), .second, .val (.ref aM), .val (.int (1 : Int32)), .val (.int (1 : Int32))] []))
          refine own_fs (XS.iload X46.here hx rfl (hb hby at_138) rfl (Steps.refl _)) ?_
          show own_G p.tables e below _ (T46.setTop (mkF m 140 #[.val (.long p1), .second, .val (.long p2), .second, .val (.int fl), .val (.int (1 : Int32)), .val (.int (1 : Int32)), .val (.long lb), .second, .val (.ref aM), .val (.int (1 : Int32)), .val (.int (1 : Int32))] [(.int (1 : Int32))]))
          refine own_fs (XS.iload X46.here hx rfl (hb hby at_140) rfl (Steps.refl _)) ?_
          show own_G p.tables e below _ (T46.setTop (mkF m 142 #[.val (.long p1), .second, .val (.long p2), .second, .val (.int fl), .val (.int (1 : Int32)), .val (.int (1 : Int32)), .val (.long lb), .second, .val (.ref aM), .val (.int (1 : Int32)), .val (.int (1 : Int32))] [(.int (1 : Int32)), (.int (1 : Int32))]))
          refine own_fs (XS.icmpNo X46.here hx rfl (hb hby at_142) rfl (XT.ii_ne_f (by decide : (1 : Int32) = (1 : Int32))) (Steps.refl _)) ?_
          show own_G p.tables e below _ (T46.setTop (mkF m 145 #[.val (.long p1), .second, .val (.long p2), .second, .val (.int fl), .val (.int (1 : Int32)), .val (.int (1 : Int32)), .val (.long lb), .second, .val (.ref aM), .val (.int (1 : Int32)), .val (.int (1 : Int32))] []))
          refine own_fs (XS.iload X46.here hx rfl (hb hby at_145) rfl (Steps.refl _)) ?_
          show own_G p.tables e below _ (T46.setTop (mkF m 147 #[.val (.long p1), .second, .val (.long p2), .second, .val (.int fl), .val (.int (1 : Int32)), .val (.int (1 : Int32)), .val (.long lb), .second, .val (.ref aM), .val (.int (1 : Int32)), .val (.int (1 : Int32))] [(.int (1 : Int32))]))
          refine own_fs (XS.iload X46.here hx rfl (hb hby at_147) rfl (Steps.refl _)) ?_
          show own_G p.tables e below _ (T46.setTop (mkF m 149 #[.val (.long p1), .second, .val (.long p2), .second, .val (.int fl), .val (.int (1 : Int32)), .val (.int (1 : Int32)), .val (.long lb), .second, .val (.ref aM), .val (.int (1 : Int32)), .val (.int (1 : Int32))] [(.int (1 : Int32)), (.int (1 : Int32))]))
          refine own_fs (XS.icmpNo X46.here hx rfl (hb hby at_149) rfl (XT.ii_ne_f (by decide : (1 : Int32) = (1 : Int32))) (Steps.refl _)) ?_
          show own_G p.tables e below _ (T46.setTop (mkF m 152 #[.val (.long p1), .second, .val (.long p2), .second, .val (.int fl), .val (.int (1 : Int32)), .val (.int (1 : Int32)), .val (.long lb), .second, .val (.ref aM), .val (.int (1 : Int32)), .val (.int (1 : Int32))] []))
          refine own_fs (XS.iconst X46.here hx rfl (hb hby at_152) (Steps.refl _)) ?_
          show own_G p.tables e below _ (T46.setTop (mkF m 153 #[.val (.long p1), .second, .val (.long p2), .second, .val (.int fl), .val (.int (1 : Int32)), .val (.int (1 : Int32)), .val (.long lb), .second, .val (.ref aM), .val (.int (1 : Int32)), .val (.int (1 : Int32))] [(.int (1 : Int32))]))
          refine own_fs (XS.goto X46.here hx rfl (pc0 := 153) (pc' := 157) rfl (hb hby at_153) (by decide) (by decide) (Steps.refl _)) ?_
          show own_G p.tables e below _ (T46.setTop (mkF m 157 #[.val (.long p1), .second, .val (.long p2), .second, .val (.int fl), .val (.int (1 : Int32)), .val (.int (1 : Int32)), .val (.long lb), .second, .val (.ref aM), .val (.int (1 : Int32)), .val (.int (1 : Int32))] [(.int (1 : Int32))]))
          exact own_retN X46 hx (t := .boolean) Bd.returns hlk (by simp) (hb hby at_157) (by decide) (by decide) e46 ⟨rfl, N42⟩
      show own_G p.tables e below _ (s₁.setTop (mkF m 28 #[.val (.long p1), .second, .val (.long p2), .second, .val (.int fl), .val (.int (1 : Int32)), .val (.int (1 : Int32)), .unset, .unset, .unset, .unset, .unset] []))
      refine own_fs (XS.iload X0.here hx rfl (hb hby at_28) rfl (Steps.refl _)) ?_
      show own_G p.tables e below _ (s₁.setTop (mkF m 30 #[.val (.long p1), .second, .val (.long p2), .second, .val (.int fl), .val (.int (1 : Int32)), .val (.int (1 : Int32)), .unset, .unset, .unset, .unset, .unset] [(.int fl)]))
      refine own_fs (XS.iconst X0.here hx rfl (hb hby at_30) (Steps.refl _)) ?_
      show own_G p.tables e below _ (s₁.setTop (mkF m 31 #[.val (.long p1), .second, .val (.long p2), .second, .val (.int fl), .val (.int (1 : Int32)), .val (.int (1 : Int32)), .unset, .unset, .unset, .unset, .unset] [(.int (4 : Int32)), (.int fl)]))
      refine own_fs (XS.iand X0.here hx rfl (hb hby at_31) rfl (Steps.refl _)) ?_
      show own_G p.tables e below _ (s₁.setTop (mkF m 32 #[.val (.long p1), .second, .val (.long p2), .second, .val (.int fl), .val (.int (1 : Int32)), .val (.int (1 : Int32)), .unset, .unset, .unset, .unset, .unset] [(.int (fl &&& (4 : Int32)))]))
      by_cases hc32 : (fl &&& (4 : Int32)) = (0 : Int32)
      · refine own_fs (XS.ifYes X0.here hx rfl (pc0 := 32) (pc' := 39) rfl (hb hby at_32) rfl (XT.i0_eq_t hc32) (by decide) (by decide) (Steps.refl _)) ?_
        show own_G p.tables e below _ (s₁.setTop (mkF m 39 #[.val (.long p1), .second, .val (.long p2), .second, .val (.int fl), .val (.int (1 : Int32)), .val (.int (1 : Int32)), .unset, .unset, .unset, .unset, .unset] []))
        refine own_fs (XS.lloadN X0.here hx rfl (hb hby at_39) rfl (Steps.refl _)) ?_
        exact J40 _
      · refine own_fs (XS.ifNo X0.here hx rfl (hb hby at_32) rfl (XT.i0_eq_f hc32) (Steps.refl _)) ?_
        show own_G p.tables e below _ (s₁.setTop (mkF m 35 #[.val (.long p1), .second, .val (.long p2), .second, .val (.int fl), .val (.int (1 : Int32)), .val (.int (1 : Int32)), .unset, .unset, .unset, .unset, .unset] []))
        refine own_fs (XS.lloadN X0.here hx rfl (hb hby at_35) rfl (Steps.refl _)) ?_
        show own_G p.tables e below _ (s₁.setTop (mkF m 36 #[.val (.long p1), .second, .val (.long p2), .second, .val (.int fl), .val (.int (1 : Int32)), .val (.int (1 : Int32)), .unset, .unset, .unset, .unset, .unset] [(.long p1)]))
        refine own_fs (XS.goto X0.here hx rfl (pc0 := 36) (pc' := 40) rfl (hb hby at_36) (by decide) (by decide) (Steps.refl _)) ?_
        exact J40 _
set_option maxRecDepth 65536 in
set_option maxHeartbeats 40000000 in
theorem comes_1 {Post : Tables → Env → Array Value → State → Outcome → State → Prop} (hpost : ∀ tb e args s v u, (limb_1_1.after args s (.returned v) u = true ∧ limb_1_2.after args s (.returned v) u = true ∧ True) → FrameEnd s (.returned v) u (Jvm.fieldLocs frame_1_writes args s ++ Jvm.arrayLocs frame_1_arrays args s ++ Jvm.staticLocs frame_1_statics s) 0 0 → Post tb e args s (.returned v) u) :
    ArmFor flags0 classFile x code maxLocals ret World_1 tables_1 room_1 Calls_1 rest_1 Pre_1 Post := by
  intro l hfl _ _ p e ha hc hk s m args below hf hA hF happ hP
  obtain ⟨hcalls, hrest, hpre⟩ := hP
  obtain ⟨-, -, -, hnamed, -, -, -, hat⟩ := (Spec.applies_iff hf).mp happ
  obtain ⟨hg, hn⟩ := and_e (Cond.before_iff.mp (show (Jvm.Cond.and given_1 narrow_1).before args s = true from hpre))
  obtain ⟨hcount, hg0⟩ := and_e hg
  obtain ⟨ga0, hg1⟩ := and_e hg0
  obtain ⟨ga1, hg2⟩ := and_e hg1
  obtain ⟨w0, w1, w2, rfl⟩ : ∃ w0 w1 w2 : Value, args = #[w0, w1, w2] := by
    have hs : args.size = 3 := by simpa [Cond.value, given_1] using hcount
    obtain ⟨L⟩ := args
    match L, hs with
    | [w0, w1, w2], _ => exact ⟨w0, w1, w2, rfl⟩
  have hw := fun d (hd : d ∈ tables_1) => atoms_spec (ws := Jvm.Cond.code x code maxLocals ret :: tables_1) hat d (List.mem_cons_of_mem _ hd)
  have hfit : Fit s := fun {y c} hc i hi => by
    obtain ⟨ha, rfl⟩ := Array.getElem?_eq_some_iff.mp hc
    have q := List.all_eq_true.mp ((Array.all_eq_true_iff_forall_mem.mp hF) _ (Array.getElem_mem ha)) i (List.mem_range.mpr hi)
    simpa [Array.getElem?_eq_getElem hi] using q
  obtain ⟨i0, ei0⟩ := isL_v ga0
  obtain rfl : w0 = (.long i0) := Option.some.inj ei0
  obtain ⟨i1, ei1⟩ := isL_v ga1
  obtain rfl : w1 = (.long i1) := Option.some.inj ei1
  obtain ⟨i2, ei2⟩ := is_v hg2
  obtain rfl : w2 = (.int i2) := Option.some.inj ei2
  obtain ⟨xN, hn⟩ := and_e hn
  obtain ⟨xS, hn⟩ := and_e hn
  obtain ⟨oN, hn⟩ := and_e hn
  obtain ⟨oS, hn⟩ := and_e hn
  obtain ⟨xM, hn⟩ := and_e hn
  obtain ⟨oM, hn⟩ := and_e hn
  obtain ⟨xF, hn⟩ := and_e hn
  obtain ⟨oF, hn⟩ := and_e hn
  obtain ⟨xW, oW⟩ := and_e hn
  obtain ⟨aS, vS⟩ := exa_v xS
  have SS : Sta s s.heap "com/example/cast3/cast3/Relation" "SELF" "Lcom/example/cast3/cast3/Relation;" (.ref aS) := Sta.start vS (Or.inr ⟨(hw _ (List.mem_of_getElem? (i := 2) rfl)), (hw _ (List.mem_of_getElem? (i := 7) rfl))⟩)
  have FS := own_ord oS vS
  obtain ⟨aM, vM⟩ := exa_v xM
  have SM : Sta s s.heap "com/example/cast3/cast3/Relation" "MUTUAL" "Lcom/example/cast3/cast3/Relation;" (.ref aM) := Sta.start vM (Or.inr ⟨(hw _ (List.mem_of_getElem? (i := 2) rfl)), (hw _ (List.mem_of_getElem? (i := 9) rfl))⟩)
  have FM := own_ord oM vM
  obtain ⟨aF, vF⟩ := exa_v xF
  have SF : Sta s s.heap "com/example/cast3/cast3/Relation" "FOLLOWING" "Lcom/example/cast3/cast3/Relation;" (.ref aF) := Sta.start vF (Or.inr ⟨(hw _ (List.mem_of_getElem? (i := 2) rfl)), (hw _ (List.mem_of_getElem? (i := 11) rfl))⟩)
  have FF := own_ord oF vF
  obtain ⟨aW, vW⟩ := exa_v xW
  have SW : Sta s s.heap "com/example/cast3/cast3/Relation" "FOLLOWER" "Lcom/example/cast3/cast3/Relation;" (.ref aW) := Sta.start vW (Or.inr ⟨(hw _ (List.mem_of_getElem? (i := 2) rfl)), (hw _ (List.mem_of_getElem? (i := 13) rfl))⟩)
  have FW := own_ord oW vW
  obtain ⟨aN, vN⟩ := exa_v xN
  have SN : Sta s s.heap "com/example/cast3/cast3/Relation" "NONE" "Lcom/example/cast3/cast3/Relation;" (.ref aN) := Sta.start vN (Or.inr ⟨(hw _ (List.mem_of_getElem? (i := 2) rfl)), (hw _ (List.mem_of_getElem? (i := 5) rfl))⟩)
  have FN := own_ord oN vN
  obtain ⟨n, o, h1, h2, h3, _, L, rfl, ⟨rfl, N⟩, hq⟩ := own_law l s _ hw tables_1 i0 i1 i2 aS aM aF aW aN s.heap s.heap.size (Nat.le_refl _) SS SM SF SW SN (Fld.ne FS FM (by decide)) (Fld.ne FS FF (by decide)) (Fld.ne FS FW (by decide)) (Fld.ne FS FN (by decide)) (Fld.ne FM FF (by decide)) (Fld.ne FM FW (by decide)) (Fld.ne FM FN (by decide)) (Fld.ne FF FW (by decide)) (Fld.ne FF FN (by decide)) (Fld.ne FW FN (by decide)) p e ha hc hk s m _ below hf ((Spec.applies_iff_loose hf).mp happ).1 ⟨rfl, State.Warmed39.refl s, rfl⟩ trivial
  refine ⟨n, _, h1, h2, h3, hpost _ _ _ _ _ _ ⟨Cond.after_iff.mpr rfl, Cond.after_iff.mpr (eq_i res_at (Term.int_eval (1)) rfl), trivial⟩ ⟨hq.1, hq.2.1, (hq.2.2.sift fun y hy => Or.inr (N y hy)).mono (by decide) (by decide)⟩⟩
theorem main_1_1 : Claimed_1_1 := comes_1 fun _ _ _ _ _ _ h hF => ⟨h.1, hF⟩
theorem main_1_2 : Claimed_1_2 := comes_1 fun _ _ _ _ _ _ h hF => ⟨h.2.1, hF⟩
end Jvm.Pilot.@@N@@
namespace Jvm.Pilot.@@N@@
open Jvm Jvm.ClassFile Sem Op Lib Jvm.Free Jvm.Stand Jvm.Pilot.@@N@@.Jvm.D
/-! MADE BY PROGRAM (witnessworld.py) out of the Statement's table words and the real class files: 10 classes; the members and pool entries that the words name. The judged class is class 1, her method 1. -/
namespace start1
open Jvm.ClassFile
def u (s : String) : CpInfo := .utf8 (stringToUtf16 s)
/-- a pool by its gaps: so many unusable entries, then the entry; so many at the end -/
def gap : Nat → List CpInfo → List CpInfo
  | 0, r => r
  | n + 1, r => .unusable :: gap n r
def poolList (es : List (Nat × CpInfo)) (last : Nat) : List CpInfo := es.foldr (fun e r => gap e.1 (e.2 :: r)) (gap last [])
def pool (es : List (Nat × CpInfo)) (last : Nat) : Array CpInfo := ⟨poolList es last⟩
def fileOf (pool : Array CpInfo) (this : Nat) (attrs : Array Attribute := #[]) (ms : Array MethodInfo := #[]) (fl : Nat := 33) (sup : Nat := 0) (ifs : Array Nat := #[]) (fds : Array FieldInfo := #[]) : ClassFile where
  minorVersion := 0
  majorVersion := 65
  constantPool := pool
  accessFlags := fl
  thisClass := this
  superClass := sup
  interfaces := ifs
  fields := fds
  methods := ms
  attributes := attrs
def plain (name : String) (sup : Option ClassId) : Class where
  name := name
  kind := .ordinary
  loader := none
  accessFlags := 33
  super := sup
  interfaces := #[]
  cf := none
  fields := #[]
  methods := #[]
  instanceTypes := #[]
  staticTypes := #[]
  resolved := #[]
  callSites := []
  init := .initialized
  statics := none
  mirror := none

def pool0 : Array CpInfo := pool [(5, u "<init>"), (0, u "()V"), (1, .class_ 10), (1, u "java/lang/Object")] 113

def k0m0 : Method := { name := "<init>", desc := "()V", sig := { parameters := [], returnType := none }, accessFlags := 1, code := none }
/-- java/lang/Object -/
def k0 : Class := { plain "java/lang/Object" none with
  accessFlags := 33
  interfaces := #[]
  cf := some (fileOf pool0 8 #[] #[{ accessFlags := 1, nameIndex := 5, descriptorIndex := 6, attributes := #[] }] 33 0 #[] #[])
  fields := #[]
  methods := #[k0m0]
  instanceTypes := #[]
  staticTypes := #[]
  resolved := Array.replicate 124 none
  statics := none }

def pool1 : Array CpInfo := pool [(2, .class_ 4), (1, u "java/lang/Object"), (0, u "<init>"), (0, u "()V"), (0, .methodref 8 9), (0, .class_ 10), (0, .nameAndType 11 12), (0, u "com/example/cast3/cast3/Relation"), (0, u "of"), (0, u "(JJZZ)Lcom/example/cast3/cast3/Relation;"), (0, .fieldref 8 14), (0, .nameAndType 15 16), (0, u "SELF"), (0, u "Lcom/example/cast3/cast3/Relation;"), (0, .fieldref 8 18), (0, .nameAndType 19 16), (0, u "MUTUAL"), (0, .fieldref 8 21), (0, .nameAndType 22 16), (0, u "FOLLOWING"), (0, .fieldref 8 24), (0, .nameAndType 25 16), (0, u "FOLLOWER"), (0, .class_ 27), (0, u "com/example/cast3/cast3/RelationOfPinLaw"), (2, u "law"), (0, u "(JJI)Z")] 3

def k1m0 : Method := { name := "<init>", desc := "()V", sig := { parameters := [], returnType := none }, accessFlags := 2, code := none }
def k1c1 : Code := { maxStack := 6, maxLocals := 12, code := code, exceptionTable := #[], attributes := #[] }
def k1m1 : Method := { name := "law", desc := "(JJI)Z", sig := { parameters := [.long, .long, .int], returnType := some .boolean }, accessFlags := 9, code := some k1c1 }
/-- com/example/cast3/cast3/RelationOfPinLaw -/
def k1 : Class := { plain "com/example/cast3/cast3/RelationOfPinLaw" (some 0) with
  accessFlags := 49
  interfaces := #[]
  cf := some (fileOf pool1 26 #[] #[{ accessFlags := 2, nameIndex := 5, descriptorIndex := 6, attributes := #[] }, { accessFlags := 9, nameIndex := 30, descriptorIndex := 31, attributes := #[] }] 49 2 #[] #[])
  fields := #[]
  methods := #[k1m0, k1m1]
  instanceTypes := #[]
  staticTypes := #[]
  resolved := Array.replicate 35 none
  statics := none }

def pool2 : Array CpInfo := pool [(1, .class_ 2), (0, u "java/lang/constant/Constable"), (0, .class_ 4), (0, u "java/lang/Object")] 6

/-- java/lang/constant/Constable -/
def k2 : Class := { plain "java/lang/constant/Constable" (some 0) with
  accessFlags := 1537
  interfaces := #[]
  cf := some (fileOf pool2 1 #[] #[] 1537 3 #[] #[])
  fields := #[]
  methods := #[]
  instanceTypes := #[]
  staticTypes := #[]
  resolved := Array.replicate 11 none
  statics := none }

def pool3 : Array CpInfo := pool [(1, .class_ 2), (0, u "java/lang/Comparable"), (0, .class_ 4), (0, u "java/lang/Object")] 7

/-- java/lang/Comparable -/
def k3 : Class := { plain "java/lang/Comparable" (some 0) with
  accessFlags := 1537
  interfaces := #[]
  cf := some (fileOf pool3 1 #[] #[] 1537 3 #[] #[])
  fields := #[]
  methods := #[]
  instanceTypes := #[]
  staticTypes := #[]
  resolved := Array.replicate 12 none
  statics := none }

def pool4 : Array CpInfo := pool [(1, .class_ 2), (0, u "java/io/Serializable"), (0, .class_ 4), (0, u "java/lang/Object")] 2

/-- java/io/Serializable -/
def k4 : Class := { plain "java/io/Serializable" (some 0) with
  accessFlags := 1537
  interfaces := #[]
  cf := some (fileOf pool4 1 #[] #[] 1537 3 #[] #[])
  fields := #[]
  methods := #[]
  instanceTypes := #[]
  staticTypes := #[]
  resolved := Array.replicate 7 none
  statics := none }

def pool5 : Array CpInfo := pool [(2, .class_ 4), (1, u "java/lang/Enum"), (0, u "name"), (0, u "Ljava/lang/String;"), (2, u "ordinal"), (0, u "I"), (1, .class_ 14), (1, u "java/lang/Object"), (4, u "hash"), (86, .class_ 108), (1, u "java/lang/Enum$EnumDesc"), (2, .class_ 112), (0, u "java/lang/constant/Constable"), (0, .class_ 114), (0, u "java/lang/Comparable"), (0, .class_ 116), (0, u "java/io/Serializable")] 87

/-- java/lang/Enum -/
def k5 : Class := { plain "java/lang/Enum" (some 0) with
  accessFlags := 1057
  interfaces := #[2, 3, 4]
  cf := some (fileOf pool5 2 #[.nestMembers #[106]] #[] 1057 12 #[111, 113, 115] #[{ accessFlags := 18, nameIndex := 5, descriptorIndex := 6, attributes := #[] }, { accessFlags := 18, nameIndex := 9, descriptorIndex := 10, attributes := #[] }, { accessFlags := 2, nameIndex := 19, descriptorIndex := 10, attributes := #[] }])
  fields := #[{ name := "name", type := (.object "java/lang/String"), accessFlags := 18, slot := 0, constantValue := 0 }, { name := "ordinal", type := .int, accessFlags := 18, slot := 1, constantValue := 0 }, { name := "hash", type := .int, accessFlags := 2, slot := 2, constantValue := 0 }]
  methods := #[]
  instanceTypes := #[(.object "java/lang/String"), .int, .int]
  staticTypes := #[]
  resolved := Array.replicate 204 none
  statics := none }

def pool6 : Array CpInfo := pool [(1, .class_ 2), (0, u "com/example/cast3/cast3/Relation"), (0, .fieldref 1 4), (0, .nameAndType 5 6), (0, u "SELF"), (0, u "Lcom/example/cast3/cast3/Relation;"), (0, .fieldref 1 8), (0, .nameAndType 9 6), (0, u "MUTUAL"), (0, .fieldref 1 11), (0, .nameAndType 12 6), (0, u "FOLLOWING"), (0, .fieldref 1 14), (0, .nameAndType 15 6), (0, u "FOLLOWER"), (0, .fieldref 1 17), (0, .nameAndType 18 6), (0, u "NONE"), (2, u "$VALUES"), (0, u "[Lcom/example/cast3/cast3/Relation;"), (6, .class_ 31), (1, u "java/lang/Enum"), (39, u "of"), (0, u "(JJZZ)Lcom/example/cast3/cast3/Relation;")] 6

def k6c0 : Code := { maxStack := 4, maxLocals := 7, code := prog_21_method_4_code, exceptionTable := #[], attributes := #[] }
def k6m0 : Method := { name := "of", desc := "(JJZZ)Lcom/example/cast3/cast3/Relation;", sig := { parameters := [.long, .long, .boolean, .boolean], returnType := some (.object "com/example/cast3/cast3/Relation") }, accessFlags := 9, code := some k6c0 }
/-- com/example/cast3/cast3/Relation -/
def k6 : Class := { plain "com/example/cast3/cast3/Relation" (some 5) with
  accessFlags := 16433
  interfaces := #[]
  cf := some (fileOf pool6 1 #[] #[{ accessFlags := 9, nameIndex := 71, descriptorIndex := 72, attributes := #[] }] 16433 29 #[] #[{ accessFlags := 16409, nameIndex := 5, descriptorIndex := 6, attributes := #[] }, { accessFlags := 16409, nameIndex := 9, descriptorIndex := 6, attributes := #[] }, { accessFlags := 16409, nameIndex := 12, descriptorIndex := 6, attributes := #[] }, { accessFlags := 16409, nameIndex := 15, descriptorIndex := 6, attributes := #[] }, { accessFlags := 16409, nameIndex := 18, descriptorIndex := 6, attributes := #[] }, { accessFlags := 4122, nameIndex := 21, descriptorIndex := 22, attributes := #[] }])
  fields := #[{ name := "SELF", type := (.object "com/example/cast3/cast3/Relation"), accessFlags := 16409, slot := 0, constantValue := 0 }, { name := "MUTUAL", type := (.object "com/example/cast3/cast3/Relation"), accessFlags := 16409, slot := 1, constantValue := 0 }, { name := "FOLLOWING", type := (.object "com/example/cast3/cast3/Relation"), accessFlags := 16409, slot := 2, constantValue := 0 }, { name := "FOLLOWER", type := (.object "com/example/cast3/cast3/Relation"), accessFlags := 16409, slot := 3, constantValue := 0 }, { name := "NONE", type := (.object "com/example/cast3/cast3/Relation"), accessFlags := 16409, slot := 4, constantValue := 0 }, { name := "$VALUES", type := (.array (.object "com/example/cast3/cast3/Relation")), accessFlags := 4122, slot := 5, constantValue := 0 }]
  methods := #[k6m0]
  instanceTypes := #[(.object "java/lang/String"), .int, .int]
  staticTypes := #[(.object "com/example/cast3/cast3/Relation"), (.object "com/example/cast3/cast3/Relation"), (.object "com/example/cast3/cast3/Relation"), (.object "com/example/cast3/cast3/Relation"), (.object "com/example/cast3/cast3/Relation"), (.array (.object "com/example/cast3/cast3/Relation"))]
  resolved := Array.replicate 79 none
  statics := some 0 }

def pool7 : Array CpInfo := pool [(1, u "java/lang/Cloneable"), (0, .class_ 1), (0, u "java/lang/Object"), (0, .class_ 3)] 3

/-- java/lang/Cloneable -/
def k7 : Class := { plain "java/lang/Cloneable" (some 0) with
  accessFlags := 1537
  interfaces := #[]
  cf := some (fileOf pool7 2 #[] #[] 1537 4 #[] #[])
  fields := #[]
  methods := #[]
  instanceTypes := #[]
  staticTypes := #[]
  resolved := Array.replicate 8 none
  statics := none }

/-- the primitive byte -/
def k8 : Class := { plain "byte" none with kind := .primitive 'B', accessFlags := 0x411 }
/-- [B -/
def k9 : Class := { plain "[B" (some 0) with kind := .array 8 .byte, interfaces := #[7, 4], accessFlags := 1041 }

def heap : Heap := #[{ cls := 6, slots := #[.ref 1, .ref 2, .ref 3, .ref 4, .ref 5, .null], vm := .statics 6 },
  { cls := 6, slots := #[.null, .int 0, .int 0], vm := .none },
  { cls := 6, slots := #[.null, .int 1, .int 0], vm := .none },
  { cls := 6, slots := #[.null, .int 2, .int 0], vm := .none },
  { cls := 6, slots := #[.null, .int 3, .int 0], vm := .none },
  { cls := 6, slots := #[.null, .int 4, .int 0], vm := .none }]
def classes : Array Class := #[k0, k1, k2, k3, k4, k5, k6, k7, k8, k9]
def interned : List (Array UInt16 × Addr) := []
def slotsUsed : Nat := 21
def theMethod : MethodId := ⟨1, 1⟩
def args0 : Array Value := #[.long 5, .long 6, .int 3]
def aboutOver (below : List Frame) : State where
  vm := { classes := classes, interned := interned.toArray }
  heap := heap
  slotsUsed := slotsUsed
  threads := #[{ frames := .invoking theMethod args0 :: below }]
def below0 : List Frame := [.native { method := ⟨0, 0⟩, args := #[] }]
def about1 : State := aboutOver below0
def p0 : Program := .bare "" "" ""
def e0 : Env := launch0.env 0 0 0
theorem w_frames : about1.frames = Frame.invoking theMethod args0 :: below0 := rfl
set_option maxRecDepth 65536 in
theorem w_args : argsFit about1.vm theMethod args0 = true := by decide +kernel
set_option maxRecDepth 65536 in
theorem w_heap : heapFits about1 = true := by decide +kernel
set_option maxRecDepth 65536 in
theorem w_runnable : about1.curStatus? = some .runnable := by decide +kernel
set_option maxRecDepth 65536 in
theorem w_alone : about1.alone = true := by decide +kernel
set_option maxRecDepth 65536 in
theorem w_named : about1.methodNamed? x = some theMethod := by decide +kernel
set_option maxRecDepth 65536 in
theorem w_hears : about1.hears theMethod below0 = true := by decide +kernel
set_option maxRecDepth 65536 in
theorem w_ripe : about1.ripe theMethod args0 below0 = true := by decide +kernel
theorem w_running : about1.status = .running := rfl
set_option maxRecDepth 65536 in
theorem w_room : about1.hasRoom e0.platform room_1 = true :=
  launch0.hasRoom_least _ room_1 (by decide +kernel) (by decide +kernel) (by decide +kernel) (by decide +kernel) (by decide +kernel) (by decide +kernel)
theorem allAtoms_all (ts : List Jvm.Cond) (a : Array Jvm.Value) (st : Jvm.State) : (allAtoms ts).before a st = ts.all (fun c => c.before a st) := by
  induction ts with
  | nil => rfl
  | cons c t ih =>
    show (Jvm.Cond.and c (allAtoms t)).before a st = _
    rw [Jvm.Cond.before_and, ih, List.all_cons]
def words1 : List Jvm.Cond := Jvm.Cond.code x code maxLocals ret :: tables_1
/-- a 'code' word, met by the world's own term for the bytes: nothing is compared byte by byte -/
theorem code_word {y : MethodName} {bytes : ByteArray} {mx : Nat} {rt : Option FieldType} {a : Array Value} {s : State} {m : MethodId} {meth : Method} {c : Code} (h1 : s.methodNamed? y = some m) (h2 : s.vm.method? m = some meth) (h3 : meth.code = some c) (h4 : c.code = bytes)
    (h5 : (c.maxLocals == mx && c.exceptionTable.isEmpty && decide (c.maxStack ≤ mostOperands) && decide (meth.sig.returnType = rt) && !meth.locks && decide (parseMethodDescriptor y.desc = some meth.sig)) = true) : (Jvm.Cond.code y bytes mx rt).before a s = true := by
  simp only [Bool.and_eq_true, beq_iff_eq, Bool.not_eq_true', decide_eq_true_eq] at h5
  obtain ⟨⟨⟨⟨⟨g1, g2⟩, g3⟩, g4⟩, g5⟩, g6⟩ := h5
  simp [Cond.before, Cond.holds, Cond.value, h1, h2, h3, h4, g1, g2, g3, g4, g5, g6]
def isCode : Jvm.Cond → Bool
  | .code _ _ _ _ => true
  | _ => false
theorem all_split {L : List Jvm.Cond} {P : Jvm.Cond → Bool} (h1 : L.all (fun c => isCode c || P c) = true) (h2 : ∀ c ∈ L.filter isCode, P c = true) : L.all P = true := by
  refine List.all_eq_true.mpr fun c hc => ?_
  have h := List.all_eq_true.mp h1 c hc
  rcases Bool.eq_false_or_eq_true (isCode c) with hi | hi
  · exact h2 c (List.mem_filter.mpr ⟨hc, hi⟩)
  · simpa [hi] using h
set_option maxRecDepth 65536 in
theorem w_c0 : (Jvm.Cond.code x code maxLocals ret).before args0 about1 = true := code_word (m := ⟨1, 1⟩) (meth := k1m1) (c := k1c1) (by decide +kernel) rfl rfl rfl (by decide +kernel)
set_option maxRecDepth 65536 in
theorem w_c1 : (Jvm.Cond.code ({ cls := "com/example/cast3/cast3/Relation", name := "of", desc := "(JJZZ)Lcom/example/cast3/cast3/Relation;" } : Jvm.MethodName) prog_21_method_4_code (7 : Nat) (Option.some (Jvm.ClassFile.FieldType.object "com/example/cast3/cast3/Relation"))).before args0 about1 = true := code_word (m := ⟨6, 0⟩) (meth := k6m0) (c := k6c0) (by decide +kernel) rfl rfl rfl (by decide +kernel)
def codes1 : List Jvm.Cond := [Jvm.Cond.code x code maxLocals ret, Jvm.Cond.code ({ cls := "com/example/cast3/cast3/Relation", name := "of", desc := "(JJZZ)Lcom/example/cast3/cast3/Relation;" } : Jvm.MethodName) prog_21_method_4_code (7 : Nat) (Option.some (Jvm.ClassFile.FieldType.object "com/example/cast3/cast3/Relation"))]
set_option maxRecDepth 65536 in
theorem codes_eq : words1.filter isCode = codes1 := rfl
theorem w_codes : ∀ c ∈ words1.filter isCode, c.before args0 about1 = true := by
  rw [codes_eq]
  intro c hc
  simp only [codes1, List.mem_cons, List.not_mem_nil, or_false] at hc
  rcases hc with rfl | rfl
  · exact w_c0
  · exact w_c1
set_option maxRecDepth 65536 in
theorem w_t1 : words1.all (fun c => isCode c || c.before args0 about1) = true := by decide +kernel
theorem w_tables : (allAtoms (Jvm.Cond.code x code maxLocals ret :: tables_1)).before args0 about1 = true := by
  rw [allAtoms_all]
  show words1.all (fun c => c.before args0 about1) = true
  refine all_split ?_ w_codes
  rw [w_t1]
set_option maxRecDepth 65536 in
theorem w_case : (Jvm.Cond.and given_1 narrow_1).before args0 about1 = true := by decide +kernel
theorem w_applies : (headSpec (Jvm.Cond.code x code maxLocals ret :: tables_1) room_1).applies x e0.platform about1 = true :=
  (Spec.applies_iff w_frames).mpr ⟨w_running, w_runnable, w_alone, w_named, w_hears, w_ripe, w_room, w_tables⟩
theorem atStart : AtStart classFile x code maxLocals ret World_1 tables_1 room_1 Calls_1 rest_1 Pre_1 launch0 p0 e0 about1 theMethod args0 below0 :=
  ⟨lists_1, trivial, launch0.admits_env _ _ _, launch0.least_env, fairChoices_fair.cas, fairChoices_fair.clock, w_frames, w_args, w_heap, w_applies, trivial, trivial, w_case⟩
end start1
theorem witness_1 : WitnessClaimed_1 := ⟨start1.p0, start1.e0, start1.about1, start1.theMethod, start1.args0, start1.below0, start1.atStart⟩
end Jvm.Pilot.@@N@@
