import JvmDerived
import JvmDerived.Pilot.@@N@@Statement
import JvmDerived.Pilot.@@N@@Code
set_option linter.unusedVariables false
set_option linter.unusedSimpArgs false
namespace Jvm.RoadKit
open Sem ClassFile Op Lib Bundle Jvm.Stand Jvm.Free Jvm.LawKit Jvm.Free.SB Jvm.Free.SBG
section New
variable {p : Program} {l : Launch} {e : Env} {R : Room} {s : State} {m : MethodId} {args : Array Value} {below : List Frame} {meth : Method} {c : Code} {T : State} {locs : List Loc} {cells slots : Nat}
theorem retI (X : Stand p l e R s m args below meth c T locs cells slots) (hx : p.tables.exec = Jvm.exec) {pc : Nat} {Ls : Array Slot} {z : Int32} {rest : List Value} (hret : meth.sig.returnType = some .int) (hd : decode c.code pc = .ok (.ireturn, 1)) {fs : List Frame}
    (hl : ∀ (f : JFrame) (acts : List Action), f.method = m -> f.locked = none -> f.entered = [] -> (doReturn e (T.setTop f) acts (some (.int z))).1 = T.setFrames fs) : Steps p.tables e below (T.setTop (mkF m pc Ls (.int z :: rest))) (T.setFrames fs) := by
  have hm' : T.vm.method? m = some meth := X.method'
  have hn : narrow .int (.int z) = .int z := rfl
  show Steps p.tables e below (T.setTop { method := m, pc := pc, locals := Ls, stack := _ :: rest, locked := none }) _
  jvm_step X.here [X.here.top, hx, hd, hm', hret, hn]
  first | (intro acts; rw [hl _ acts rfl rfl rfl]) | rw [hl _ _ rfl rfl rfl]
  exact Steps.refl _
def own_G (tb : Tables) (e : Env) (below : List Frame) (Q : Outcome -> State -> Prop) (A : State) : Prop := ∃ s₂ o, Steps tb e below A s₂ /\ s₂.status = .running /\ Ended s₂ below o /\ Q o s₂
theorem own_fs {tb : Tables} {Q : Outcome -> State -> Prop} {A B : State} (h : Steps tb e below A B) (g : own_G tb e below Q B) : own_G tb e below Q A := by
  obtain ⟨s₂, o, h1, r⟩ := g
  exact ⟨s₂, o, h.trans h1, r⟩
def own_P (s : State) (QQ : Option Value -> Heap -> List Loc -> Prop) (rc rs : Nat) (o : Outcome) (U : State) : Prop := ∃ v L, o = .returned v /\ QQ v U.heap L /\ FrameEnd s o U L rc rs
variable {QQ : Option Value -> Heap -> List Loc -> Prop} {rc rs : Nat} {h : Heap}
theorem own_start {tb : Tables} {g g' : JFrame} (q : g = g') (k : own_G tb e below (own_P s QQ rc rs) (T.setTop g')) : ∃ s₂ o, Steps tb e below (T.setTop g) s₂ /\ s₂.status = .running /\ Ended s₂ below o /\ ∃ v L, o = .returned v /\ QQ v s₂.heap L /\ FrameEnd s o s₂ L rc rs := q ▸ k
theorem own_retI (X : Stand p l e R s m args below meth c T locs cells slots) (hx : p.tables.exec = Jvm.exec) {pc : Nat} {Ls : Array Slot} {z : Int32} {rest : List Value} (hret : meth.sig.returnType = some .int) (hlk : meth.locks = false) (hd : decode c.code pc = .ok (.ireturn, 1)) (hc : cells <= rc) (hs : slots <= rs) (eT : T.heap = h) (hQ : QQ (some (.int z)) h locs) :
    own_G p.tables e below (own_P s QQ rc rs) (T.setTop (mkF m pc Ls (.int z :: rest))) := by
  obtain ⟨fs, hr, hrun, hended, hW, hsame⟩ := X.leave (v := some (.int z)) (fun h => by rw [hret] at h; cases h) hlk
  exact ⟨_, _, retI X hx hret hd hr, hrun, hended, _, _, rfl, (by show QQ _ T.heap _; rw [eT]; exact hQ), ⟨_, rfl⟩, hW, hsame.mono hc hs⟩
theorem own_retN (X : Stand p l e R s m args below meth c T locs cells slots) (hx : p.tables.exec = Jvm.exec) {pc : Nat} {Ls : Array Slot} {z : Int32} {t : FieldType} {rest : List Value} (hret : meth.sig.returnType = some t) (hlk : meth.locks = false) (ht : t = .boolean ∨ t = .byte ∨ t = .char ∨ t = .short) (hd : decode c.code pc = .ok (.ireturn, 1)) (hc : cells <= rc) (hs : slots <= rs) (eT : T.heap = h) (hQ : QQ (some (.int (nar t z))) h locs) :
    own_G p.tables e below (own_P s QQ rc rs) (T.setTop (mkF m pc Ls (.int z :: rest))) := by
  obtain ⟨fs, hr, hrun, hended, hW, hsame⟩ := X.leave (v := some (.int (nar t z))) (fun h => by rw [hret] at h; cases h) hlk
  exact ⟨_, _, retN X hx hret ht hd hr, hrun, hended, _, _, rfl, (by show QQ _ T.heap _; rw [eT]; exact hQ), ⟨_, rfl⟩, hW, hsame.mono hc hs⟩
theorem own_narR {t : FieldType} {w : Value} (hw : w.isRef = true) : narrow t w = w := by rcases ref_cases hw with rfl | ⟨a, rfl⟩ <;> cases t <;> rfl
theorem own_retA (X : Stand p l e R s m args below meth c T locs cells slots) (hx : p.tables.exec = Jvm.exec) {pc : Nat} {Ls : Array Slot} {w : Value} {t : FieldType} {rest : List Value} (hret : meth.sig.returnType = some t) (hlk : meth.locks = false) (ht : t.isReference = true) (hw : w.isRef = true) (hd : decode c.code pc = .ok (.areturn, 1)) (hc : cells <= rc) (hs : slots <= rs) (eT : T.heap = h) (hQ : QQ (some w) h locs) :
    own_G p.tables e below (own_P s QQ rc rs) (T.setTop (mkF m pc Ls (w :: rest))) := by
  obtain ⟨fs, hr, hrun, hended, hW, hsame⟩ := X.leave (v := some w) (fun h => by rw [hret] at h; cases h) hlk
  exact ⟨_, _, retOut X hx hret (own_narR hw) (Or.inr (Or.inr (Or.inr (Or.inr ⟨rfl, ht, hw⟩)))) hd hr, hrun, hended, _, _, rfl, (by show QQ _ T.heap _; rw [eT]; exact hQ), ⟨_, rfl⟩, hW, hsame.mono hc hs⟩
theorem own_retV (X : Stand p l e R s m args below meth c T locs cells slots) (hx : p.tables.exec = Jvm.exec) {pc : Nat} {Ls : Array Slot} (hret : meth.sig.returnType = none) (hlk : meth.locks = false) (hd : decode c.code pc = .ok (.return_, 1)) (hc : cells <= rc) (hs : slots <= rs) (eT : T.heap = h) (hQ : QQ none h locs) :
    own_G p.tables e below (own_P s QQ rc rs) (T.setTop (mkF m pc Ls [])) := by
  obtain ⟨fs, hr, hrun, hended, hW, hsame⟩ := X.leave (v := none) (fun _ => rfl) hlk
  exact ⟨_, _, X.returnOut hx hret hd hr, hrun, hended, _, _, rfl, (by show QQ _ T.heap _; rw [eT]; exact hQ), ⟨_, rfl⟩, hW, hsame.mono hc hs⟩
def own_PW (Z : State) (EL : List (String × Nat)) (s : State) (QQ : Option Value -> Heap -> List Loc -> Prop) (rc rs : Nat) (o : Outcome) (U : State) : Prop := ∃ v L, o = .returned v /\ QQ v U.heap L /\ CHr Z EL s.vm s.heap U.vm U.heap /\ ReturnedEndW s o U L rc rs
variable {Z : State} {EL : List (String × Nat)} {vm0 : Vm} {h0 : Heap}
theorem own_startW {tb : Tables} {g g' : JFrame} (hh : s.heap = h0) (q : g = g') (k : own_G tb e below (own_PW Z EL s QQ rc rs) (T.setTop g')) : ∃ s₂ o, Steps tb e below (T.setTop g) s₂ /\ s₂.status = .running /\ Ended s₂ below o /\ ∃ v L, o = .returned v /\ QQ v s₂.heap L /\ CHr Z EL s.vm s.heap s₂.vm s₂.heap /\ ReturnedEndW s o s₂ L rc rs := q ▸ k
theorem own_monoW {o : Outcome} {U : State} {L : List Loc} {k n k' n' : Nat} (h : ReturnedEndW s o U L k n) (hk : k <= k') (hn : n <= n') : ReturnedEndW s o U L k' n' := ⟨h.1, h.2.1, h.2.2.1, h.2.2.2.mono hk hn⟩
theorem own_retVW (X : Stand p l e R (s.setVm vm0) m args below meth c T locs cells slots) (hx : p.tables.exec = Jvm.exec) {pc : Nat} {Ls : Array Slot} (hret : meth.sig.returnType = none) (hlk : meth.locks = false) (hd : decode c.code pc = .ok (.return_, 1)) (hc : cells <= rc) (hs : slots <= rs) (eT : T.heap = h) {n : Nat} (hS : s.Since vm0 n) (hn : n <= h.size) (hR : CHr Z EL s.vm s.heap T.vm h) (hQ : QQ none h locs) :
    own_G p.tables e below (own_PW Z EL s QQ rc rs) (T.setTop (mkF m pc Ls [])) := by
  obtain ⟨fs, hr, hrun, hended, hW⟩ := X.leaveW hS (by rw [eT]; exact hn) (v := none) (fun _ => rfl) hlk
  exact ⟨_, _, X.returnOut hx hret hd hr, hrun, hended, _, _, rfl, (by show QQ _ T.heap _; rw [eT]; exact hQ), (by show CHr Z EL s.vm s.heap T.vm T.heap; rw [eT]; exact hR), own_monoW hW hc hs⟩
theorem own_retNW (X : Stand p l e R (s.setVm vm0) m args below meth c T locs cells slots) (hx : p.tables.exec = Jvm.exec) {pc : Nat} {Ls : Array Slot} {z : Int32} {t : FieldType} {rest : List Value} (hret : meth.sig.returnType = some t) (hlk : meth.locks = false) (ht : t = .boolean ∨ t = .byte ∨ t = .char ∨ t = .short) (hd : decode c.code pc = .ok (.ireturn, 1)) (hc : cells <= rc) (hs : slots <= rs) (eT : T.heap = h) {n : Nat} (hS : s.Since vm0 n) (hn : n <= h.size) (hR : CHr Z EL s.vm s.heap T.vm h) (hQ : QQ (some (.int (nar t z))) h locs) :
    own_G p.tables e below (own_PW Z EL s QQ rc rs) (T.setTop (mkF m pc Ls (.int z :: rest))) := by
  obtain ⟨fs, hr, hrun, hended, hW⟩ := X.leaveW hS (by rw [eT]; exact hn) (v := some (.int (nar t z))) (fun h => by rw [hret] at h; cases h) hlk
  exact ⟨_, _, retN X hx hret ht hd hr, hrun, hended, _, _, rfl, (by show QQ _ T.heap _; rw [eT]; exact hQ), (by show CHr Z EL s.vm s.heap T.vm T.heap; rw [eT]; exact hR), own_monoW hW hc hs⟩
theorem own_retAW (X : Stand p l e R (s.setVm vm0) m args below meth c T locs cells slots) (hx : p.tables.exec = Jvm.exec) {pc : Nat} {Ls : Array Slot} {w : Value} {t : FieldType} {rest : List Value} (hret : meth.sig.returnType = some t) (hlk : meth.locks = false) (ht : t.isReference = true) (hw : w.isRef = true) (hd : decode c.code pc = .ok (.areturn, 1)) (hc : cells <= rc) (hs : slots <= rs) (eT : T.heap = h) {n : Nat} (hS : s.Since vm0 n) (hn : n <= h.size) (hR : CHr Z EL s.vm s.heap T.vm h) (hQ : QQ (some w) h locs) :
    own_G p.tables e below (own_PW Z EL s QQ rc rs) (T.setTop (mkF m pc Ls (w :: rest))) := by
  obtain ⟨fs, hr, hrun, hended, hW⟩ := X.leaveW hS (by rw [eT]; exact hn) (v := some w) (fun h => by rw [hret] at h; cases h) hlk
  exact ⟨_, _, retOut X hx hret (own_narR hw) (Or.inr (Or.inr (Or.inr (Or.inr ⟨rfl, ht, hw⟩)))) hd hr, hrun, hended, _, _, rfl, (by show QQ _ T.heap _; rw [eT]; exact hQ), (by show CHr Z EL s.vm s.heap T.vm T.heap; rw [eT]; exact hR), own_monoW hW hc hs⟩
theorem own_safeV {Z : State} {EL : List (String × Nat)} {vm : Vm} {h : Heap} {x : Addr} {k : ClassId} {ty : FieldType} {n : Int32} {vs : List Value} {d : Value} (hal : Z.vm.Alike vm) (V : Arv Z h x k ty n vs d) (ht : ty ≠ .byte) : Safe Z EL vm h x := by
  obtain ⟨c, A, -⟩ := V
  exact Safe.arr hal A ht
theorem own_safeH {Z : State} {EL : List (String × Nat)} {vm : Vm} {h : Heap} {x : Addr} {k : ClassId} {ty : FieldType} {n : Int32} {hs : List (Int32 × Value)} {vs : List Value} {d : Value} (hal : Z.vm.Alike vm) (V : Arh Z h x k ty n hs vs d) (ht : ty ≠ .byte) : Safe Z EL vm h x := by
  obtain ⟨c, A, -⟩ := V
  exact Safe.arr hal A ht
theorem own_neArh {Z : State} {a0 : Array Value} {h : Heap} {x b : Addr} {C : String} {nn : Nat} {k : ClassId} {ty : FieldType} {n : Int32} {hs : List (Int32 × Value)} {vs : List Value} {d : Value} (E : Exa Z h x C) (V : Arh Z h b k ty n hs vs d) (w : (Cond.instantiable C nn).before a0 Z = true) : x ≠ b := by
  obtain ⟨c, A, q1, q2, q3, H, G⟩ := V
  have F : Arv Z h b k ty n ((List.range c.slots.size).map (getH hs vs d)) d := ⟨c, A, q1, q2, q3, fun i hi => by rw [H i hi]; simp [hi], fun i hi => by have := G i hi; simpa [hi] using this⟩
  exact Exa.neArv E F w
theorem own_av {Z : State} {h : Heap} {x : Addr} {k : ClassId} {ty : FieldType} {n : Int32} {vs : List Value} {d : Value} (V : Arv Z h x k ty n vs d) : ∃ c : Cell, Arr Z h x c ty := by obtain ⟨c, A, -⟩ := V; exact ⟨c, A⟩
theorem own_ah {Z : State} {h : Heap} {x : Addr} {k : ClassId} {ty : FieldType} {n : Int32} {hs : List (Int32 × Value)} {vs : List Value} {d : Value} (V : Arh Z h x k ty n hs vs d) : ∃ c : Cell, Arr Z h x c ty := by obtain ⟨c, A, -⟩ := V; exact ⟨c, A⟩
theorem own_neVV {Z : State} {h : Heap} {x y : Addr} {t u : FieldType} (A : ∃ c : Cell, Arr Z h x c t) (B : ∃ c : Cell, Arr Z h y c u) (ne : t ≠ u) : x ≠ y := by
  rintro rfl
  obtain ⟨c, a1, ⟨-, k, hk, comp, hkind⟩, -⟩ := A
  obtain ⟨c', b1, ⟨-, k', hk', comp', hkind'⟩, -⟩ := B
  cases a1.symm.trans b1
  cases hk.symm.trans hk'
  have := hkind.symm.trans hkind'
  injection this with _ e
  exact ne e
theorem own_sameSelf {Z : State} {a0 : Array Value} {y : MethodName} (hi : (Cond.instanceMethod y).before a0 Z = true) (hy : y.cls ≠ "java/lang/invoke/MethodHandle" /\ y.cls ≠ "java/lang/invoke/VarHandle") {c : ClassId} {k : Class} (h1 : Z.vm.findClass y.cls = some c) (h2 : Z.vm.classes[c]? = some k) (h4 : k.isInterface = false) : (Cond.sameMethod y.cls y.cls y.name y.desc).before a0 Z = true := by
  obtain ⟨mk, methM, hnamed, hmethM, -, -⟩ := Cond.instanceMethod_spec hi
  have hfound : Z.methodFound? y.cls y.name y.desc = some mk := State.methodFound?_of_named hnamed hy
  have hc := findClass_of_methodNamed hnamed
  have hn : Z.methodNamed? ⟨y.cls, y.name, y.desc⟩ = some mk := hnamed
  apply Cond.before_iff.mpr
  cases h1.symm.trans hc
  simp [Cond.value, hc, hfound, hn, h2, h4]
theorem own_nfz {s : State} {args : Array Value} {C : String} {x y z : MethodName} (hsel : (Cond.selects C x z).before args s = true) (e : z.cls = y.cls) : NotFace s y := fun r0 h0 => by
  obtain ⟨c2, r2, m2, q1, q2, q3, q4, kP, hkP, hkPi⟩ := Cond.selects_spec hsel
  have a := findClass_of_methodNamed h0
  have b := findClass_of_methodNamed q3
  rw [e] at b
  have e2 : r0.cls = m2.cls := Option.some.inj (a.symm.trans b)
  exact ⟨kP, by rw [e2]; exact hkP, hkPi⟩
theorem own_virtUpS (X : Stand p l e R s m args below meth c T locs cells slots) (hexec : p.tables.exec = Jvm.exec) {own C owner : String} {index : Nat} {x y : MethodName}
    (hown : s.vm.findClass own = some m.cls) (hlink : (Cond.methodLink own index x).before args s = true) (hsame : (Cond.sameMethod x.cls owner x.name x.desc).before args s = true)
    (hdecl : (Cond.declares ⟨owner, x.name, x.desc⟩).before args s = true) (howner : owner ≠ "java/lang/invoke/MethodHandle" /\ owner ≠ "java/lang/invoke/VarHandle")
    (hsel : (Cond.selects C x y).before args s = true) (hinst : (Cond.instanceMethod y).before args s = true)
    {W : Nat} {Pre : Pt -> Array Value -> Prop} {Post : Pt -> Array Value -> Option Value -> Pt -> Prop} (hK : BackS l R p e below s args y 3 W Pre Post)
    {b : Addr} {cB : ClassId} (hcB : s.vm.findClass C = some cB) (hrecv : IsOf cB T b)
    {g : JFrame} (hg : g.method = m) (hsize : g.locals.size = c.maxLocals) {s₀ : State} (hcome : Steps p.tables e below s₀ (T.setTop g)) {argsL rest : List Value}
    (hlen : ∀ sig, parseMethodDescriptor x.desc = some sig -> argsL.length = sig.parameters.length) (hstack : g.stack = argsL.reverse ++ .ref b :: rest) (hW : 2 * g.monitorRoom + (rest.map fun v => v.category).sum <= W)
    (hdg : decode c.code g.pc = .ok (.invokevirtual index, 3)) (hpre : ∀ vm₁, s.WarmedH vm₁ -> Pre ⟨T.setVm vm₁, locs, cells, slots⟩ (.ref b :: argsL).toArray) :
    ∃ (v : Option Value) (vm₁ : Vm) (B : Pt), s.WarmedH vm₁ /\ Stand p l e R (s.setVm B.U.vm) m args below meth c B.U B.locs B.cells B.slots /\ s.Since B.U.vm B.U.heap.size /\ T.heap.size <= B.U.heap.size /\ Post ⟨T.setVm vm₁, locs, cells, slots⟩ (.ref b :: argsL).toArray v B /\
      Steps p.tables e below s₀ (B.U.setTop { g with pc := g.pc + 3, stack := v.toList ++ rest }) := by
  obtain ⟨cellB, hcellB, hclsB, hstatB⟩ := hrecv
  obtain ⟨r0, r, hn, hrm, hstR, hsigR⟩ := Cond.declares_spec hdecl
  obtain ⟨cn, ck, r1, hcn, hck, hni, hf, hn1⟩ := Cond.sameMethod_found hsame
  cases hn.symm.trans hn1
  obtain ⟨mk, methM, hnamed, hmethM, -, habM⟩ := Cond.instanceMethod_spec hinst
  obtain ⟨c2, r2, m2, q1, q2, q3, q4, kP, hkP, hkPi⟩ := Cond.selects_spec hsel
  cases hcB.symm.trans q1
  cases hf.symm.trans q2
  cases hnamed.symm.trans q3
  have hselP : selectMethod e.platform s.vm cellB.cls r0 = .method mk := by rw [Launch.admits_selectMethod X.admits, hclsB]; exact q4
  obtain ⟨vm₁, X₁, hstep₁⟩ := X.invokevirtualUp hexec hown hlink hsame howner hn hrm hstR (a := b) (cell := cellB) hcellB
    (fun z h => by rw [h] at hstatB; cases hstatB) hselP hmethM habM hkP hkPi (g := g) hg (argsL := argsL) (rest := rest) (hlen _ hsigR) hstack hdg
  obtain ⟨v, B, X', hS, hgr, hpost, hsteps⟩ := hK m meth c ⟨T.setVm vm₁, locs, cells, slots⟩ { g with stack := rest } (.invokevirtual index) mk (.ref b :: argsL).toArray X₁ hg hsize hdg hW (X₁.named hnamed) (hpre vm₁ X₁.warmed)
  exact ⟨v, vm₁, B, X₁.warmed, X', hS, hgr, hpost, (hcome.trans (hstep₁ _ fun acts => by rw [doInvoke_state]; exact Steps.refl _)).trans hsteps⟩
end New
end Jvm.RoadKit
namespace Jvm.Pilot.@@N@@
open Jvm Jvm.ClassFile Sem Op Lib Jvm.Free Jvm.Stand Jvm.LawKit Jvm.RoadKit Bundle Jvm.Pilot.@@N@@.Jvm.D
set_option maxRecDepth 65536
set_option maxHeartbeats 40000000
section OwnSteps
abbrev own_HW (a0 : Array Value) (Z : State) : Prop := ∀ d ∈ tables_1, d.before a0 Z = true
theorem oh {Z : State} {a0 : Array Value} (hw : own_HW a0 Z) (i : Nat) : (tables_1.getD i .tt).before a0 Z = true := by
  by_cases q : i < tables_1.length
  · rw [List.getD_eq_getElem?_getD, List.getElem?_eq_getElem q]; exact hw _ (List.getElem_mem q)
  · rw [List.getD_eq_getElem?_getD, List.getElem?_eq_none (Nat.le_of_not_lt q)]; rfl
abbrev own_T : Type := List (Nat × Instr × Nat × Nat × Nat)
def own_get : own_T -> Nat -> Option (Instr × Nat × Nat × Nat)
  | [], _ => none
  | (a, r) :: t, k => bif Nat.beq a k then some r else own_get t k
theorem own_gm : ∀ {L : own_T} {k : Nat} {r : Instr × Nat × Nat × Nat}, own_get L k = some r -> (k, r) ∈ L
  | (a, r') :: t, k, r, q => by
    unfold own_get at q
    cases d : Nat.beq a k with
    | true => rw [d] at q; cases q; cases Nat.eq_of_beq_eq_true d; exact List.mem_cons_self ..
    | false => rw [d] at q; exact List.mem_cons_of_mem _ (own_gm q)
def own_off : Instr -> Option Int
  | .goto o => some o
  | .ifCond _ o => some o
  | .if_icmp _ o => some o
  | .if_acmp _ o => some o
  | .ifnull o => some o
  | .ifnonnull o => some o
  | _ => none
def own_tj (x : Nat × Instr × Nat × Nat × Nat) : Bool := match own_off x.2.1 with
  | some o => decide (0 <= (x.1 : Int) + o /\ ((x.1 : Int) + o).toNat = x.2.2.2.2)
  | none => true
abbrev own_TB (b : ByteArray) (L : own_T) : Prop := ∀ x ∈ L, decode b x.1 = .ok (x.2.1, x.2.2.1) /\ x.1 + x.2.2.1 = x.2.2.2.1 /\ own_tj x = true

variable {p : Program} {l : Launch} {e : Env} {R : Room} {s : State} {m : MethodId} {args : Array Value} {below : List Frame} {meth : Method} {c : Code} {T : State} {locs : List Loc} {cells slots : Nat} {Z : State} {a0 : Array Value} {h h0 : Heap} {Q : Outcome -> State -> Prop} {b : ByteArray} {pc nx t ml : Nat} {Ls : Array Slot} {S : List Value} {own nme : String} {rt : Option FieldType} {L : own_T}
def own_K (p : Program) (c : Code) (L : own_T) (Z s : State) (own : String) (m : MethodId) (meth : Method) (ml : Nat) (rt : Option FieldType) (nme : String) : Prop := p.tables.exec = Jvm.exec /\ own_TB c.code L /\ Z.Warmed39 s.vm /\ s.vm.findClass own = some m.cls /\ c.maxLocals = ml /\ meth.sig.returnType = rt /\ meth.locks = false /\ meth.name = nme
theorem own_K.d (K : own_K p c L Z s own m meth ml rt nme) {i : Instr} {n : Nat} (D : own_get L pc = some (i, n, nx, t)) : decode c.code pc = .ok (i, n) := (K.2.1 _ (own_gm D)).1
theorem own_K.n (K : own_K p c L Z s own m meth ml rt nme) {i : Instr} {n : Nat} (D : own_get L pc = some (i, n, nx, t)) : pc + n = nx := (K.2.1 _ (own_gm D)).2.1
theorem own_K.j (K : own_K p c L Z s own m meth ml rt nme) {i : Instr} {n : Nat} {o : Int} (D : own_get L pc = some (i, n, nx, t)) (q : own_off i = some o) : 0 <= (pc : Int) + o /\ ((pc : Int) + o).toNat = t := by
  have r := (K.2.1 _ (own_gm D)).2.2
  unfold own_tj at r
  rw [show own_off (pc, i, n, nx, t).2.1 = some o from q] at r
  exact of_decide_eq_true r
theorem own_K.wz (K : own_K p c L Z s own m meth ml rt nme) : Z.Warmed39 s.vm := K.2.2.1
theorem own_K.ow (K : own_K p c L Z s own m meth ml rt nme) : s.vm.findClass own = some m.cls := K.2.2.2.1
theorem own_K.lm (K : own_K p c L Z s own m meth ml rt nme) : c.maxLocals = ml := K.2.2.2.2.1
theorem own_K.tr (K : own_K p c L Z s own m meth ml rt nme) : meth.sig.returnType = rt := K.2.2.2.2.2.1
theorem own_K.lk (K : own_K p c L Z s own m meth ml rt nme) : meth.locks = false := K.2.2.2.2.2.2.1
theorem own_K.re {s' : State} (K : own_K p c L Z s' own m meth ml rt nme) (h1 : Z.Warmed39 s.vm) (h2 : s.vm.findClass own = some m.cls) : own_K p c L Z s own m meth ml rt nme := ⟨K.1, K.2.1, h1, h2, K.2.2.2.2⟩
theorem own_K.nm (K : own_K p c L Z s own m meth ml rt nme) : meth.name = nme := K.2.2.2.2.2.2.2
theorem oA (X : Stand p l e R s m args below meth c T locs cells slots) (K : own_K p c L Z s own m meth ml rt nme) {k : Fin 4} {v : Value} (D : own_get L pc = some (.aload_n k, 1, nx, t)) (hl : Ls[k.val]? = some (.val v)) (hv : v.isRef = true) (G : own_G p.tables e below Q (T.setTop (mkF m nx Ls (v :: S)))) : own_G p.tables e below Q (T.setTop (mkF m pc Ls S)) := by
  cases K.n D; exact own_fs (XS.aloadN X.here K.1 rfl (K.d D) hl hv (Steps.refl _)) G
theorem oB (X : Stand p l e R s m args below meth c T locs cells slots) (K : own_K p c L Z s own m meth ml rt nme) {k : Nat} {v : Value} (D : own_get L pc = some (.aload k, 2, nx, t)) (hl : Ls[k]? = some (.val v)) (hv : v.isRef = true) (G : own_G p.tables e below Q (T.setTop (mkF m nx Ls (v :: S)))) : own_G p.tables e below Q (T.setTop (mkF m pc Ls S)) := by
  cases K.n D; exact own_fs (XS.aload X.here K.1 rfl (K.d D) hl hv (Steps.refl _)) G
theorem oI (X : Stand p l e R s m args below meth c T locs cells slots) (K : own_K p c L Z s own m meth ml rt nme) {k : Fin 4} {v : Int32} (D : own_get L pc = some (.iload_n k, 1, nx, t)) (hl : Ls[k.val]? = some (.val (.int v))) (G : own_G p.tables e below Q (T.setTop (mkF m nx Ls (.int v :: S)))) : own_G p.tables e below Q (T.setTop (mkF m pc Ls S)) := by
  cases K.n D; exact own_fs (XS.iloadN X.here K.1 rfl (K.d D) hl (Steps.refl _)) G
theorem oJ (X : Stand p l e R s m args below meth c T locs cells slots) (K : own_K p c L Z s own m meth ml rt nme) {k : Nat} {v : Int32} (D : own_get L pc = some (.iload k, 2, nx, t)) (hl : Ls[k]? = some (.val (.int v))) (G : own_G p.tables e below Q (T.setTop (mkF m nx Ls (.int v :: S)))) : own_G p.tables e below Q (T.setTop (mkF m pc Ls S)) := by
  cases K.n D; exact own_fs (XS.iload X.here K.1 rfl (K.d D) hl (Steps.refl _)) G
theorem oC (X : Stand p l e R s m args below meth c T locs cells slots) (K : own_K p c L Z s own m meth ml rt nme) {i : Int} {z : Int32} (D : own_get L pc = some (.iconst i, 1, nx, t)) (hz : Int32.ofInt i = z) (G : own_G p.tables e below Q (T.setTop (mkF m nx Ls (.int z :: S)))) : own_G p.tables e below Q (T.setTop (mkF m pc Ls S)) := by
  cases K.n D; subst hz; exact own_fs (XS.iconst X.here K.1 rfl (K.d D) (Steps.refl _)) G
theorem oN (X : Stand p l e R s m args below meth c T locs cells slots) (K : own_K p c L Z s own m meth ml rt nme)  (D : own_get L pc = some (.aconst_null, 1, nx, t))  (G : own_G p.tables e below Q (T.setTop (mkF m nx Ls (.null :: S)))) : own_G p.tables e below Q (T.setTop (mkF m pc Ls S)) := by
  cases K.n D; exact own_fs (XS.aconstNull X.here K.1 rfl (K.d D) (Steps.refl _)) G
theorem oSIn (X : Stand p l e R s m args below meth c T locs cells slots) (K : own_K p c L Z s own m meth ml rt nme) {k : Fin 4} {x : Int32} {L' : Array Slot} (D : own_get L pc = some (.istore_n k, 1, nx, t)) (hl : storeLocals Ls k.val (.int x) = some L') (G : own_G p.tables e below Q (T.setTop (mkF m nx L' S))) : own_G p.tables e below Q (T.setTop (mkF m pc Ls (.int x :: S))) := by
  cases K.n D; exact own_fs (XS.istoreN X.here K.1 rfl (K.d D) rfl hl (Steps.refl _)) G
theorem oSI (X : Stand p l e R s m args below meth c T locs cells slots) (K : own_K p c L Z s own m meth ml rt nme) {k : Nat} {x : Int32} {L' : Array Slot} (D : own_get L pc = some (.istore k, 2, nx, t)) (hl : storeLocals Ls k (.int x) = some L') (G : own_G p.tables e below Q (T.setTop (mkF m nx L' S))) : own_G p.tables e below Q (T.setTop (mkF m pc Ls (.int x :: S))) := by
  cases K.n D; exact own_fs (XS.istore X.here K.1 rfl (K.d D) rfl hl (Steps.refl _)) G
theorem oSAn (X : Stand p l e R s m args below meth c T locs cells slots) (K : own_K p c L Z s own m meth ml rt nme) {k : Fin 4} {x : Value} {L' : Array Slot} (D : own_get L pc = some (.astore_n k, 1, nx, t)) (hx : x.isRef = true) (hl : storeLocals Ls k.val x = some L') (G : own_G p.tables e below Q (T.setTop (mkF m nx L' S))) : own_G p.tables e below Q (T.setTop (mkF m pc Ls (x :: S))) := by
  cases K.n D; exact own_fs (XS.astoreN X.here K.1 rfl (K.d D) rfl hx hl (Steps.refl _)) G
theorem oSA (X : Stand p l e R s m args below meth c T locs cells slots) (K : own_K p c L Z s own m meth ml rt nme) {k : Nat} {x : Value} {L' : Array Slot} (D : own_get L pc = some (.astore k, 2, nx, t)) (hx : x.isRef = true) (hl : storeLocals Ls k x = some L') (G : own_G p.tables e below Q (T.setTop (mkF m nx L' S))) : own_G p.tables e below Q (T.setTop (mkF m pc Ls (x :: S))) := by
  cases K.n D; exact own_fs (XS.astore X.here K.1 rfl (K.d D) rfl hx hl (Steps.refl _)) G
theorem oInc (X : Stand p l e R s m args below meth c T locs cells slots) (K : own_K p c L Z s own m meth ml rt nme) {k : Nat} {i : Int} {x z : Int32} {L' : Array Slot} (D : own_get L pc = some (.iinc k i, 3, nx, t)) (hl : Ls[k]? = some (.val (.int x))) (hz : x + Int32.ofInt i = z) (hl' : storeLocals Ls k (.int z) = some L') (G : own_G p.tables e below Q (T.setTop (mkF m nx L' S))) : own_G p.tables e below Q (T.setTop (mkF m pc Ls S)) := by
  cases K.n D; subst hz; exact own_fs (XS.iinc X.here K.1 rfl (K.d D) hl hl' (Steps.refl _)) G
theorem oAdd (X : Stand p l e R s m args below meth c T locs cells slots) (K : own_K p c L Z s own m meth ml rt nme) {x y z : Int32} (D : own_get L pc = some (.iadd, 1, nx, t)) (hz : x + y = z) (G : own_G p.tables e below Q (T.setTop (mkF m nx Ls (.int z :: S)))) : own_G p.tables e below Q (T.setTop (mkF m pc Ls (.int y :: .int x :: S))) := by
  cases K.n D; subst hz; exact own_fs (XS.iadd X.here K.1 rfl (K.d D) rfl (Steps.refl _)) G
theorem oSub (X : Stand p l e R s m args below meth c T locs cells slots) (K : own_K p c L Z s own m meth ml rt nme) {x y z : Int32} (D : own_get L pc = some (.isub, 1, nx, t)) (hz : x - y = z) (G : own_G p.tables e below Q (T.setTop (mkF m nx Ls (.int z :: S)))) : own_G p.tables e below Q (T.setTop (mkF m pc Ls (.int y :: .int x :: S))) := by
  cases K.n D; subst hz; exact own_fs (XS.isub X.here K.1 rfl (K.d D) rfl (Steps.refl _)) G
theorem oPop (X : Stand p l e R s m args below meth c T locs cells slots) (K : own_K p c L Z s own m meth ml rt nme) {x : Value} (D : own_get L pc = some (.pop, 1, nx, t)) (hc : x.category = 1) (G : own_G p.tables e below Q (T.setTop (mkF m nx Ls S))) : own_G p.tables e below Q (T.setTop (mkF m pc Ls (x :: S))) := by
  cases K.n D; exact own_fs (XS.pop X.here K.1 rfl (K.d D) rfl hc (Steps.refl _)) G
theorem oDup (X : Stand p l e R s m args below meth c T locs cells slots) (K : own_K p c L Z s own m meth ml rt nme) {x : Value} (D : own_get L pc = some (.dup, 1, nx, t)) (hc : x.category = 1) (G : own_G p.tables e below Q (T.setTop (mkF m nx Ls (x :: x :: S)))) : own_G p.tables e below Q (T.setTop (mkF m pc Ls (x :: S))) := by
  cases K.n D; exact own_fs (XS.dup X.here K.1 rfl (K.d D) rfl hc (Steps.refl _)) G
theorem oGo (X : Stand p l e R s m args below meth c T locs cells slots) (K : own_K p c L Z s own m meth ml rt nme) {o : Int} (D : own_get L pc = some (.goto o, 3, nx, t))  (G : own_G p.tables e below Q (T.setTop (mkF m t Ls S))) : own_G p.tables e below Q (T.setTop (mkF m pc Ls S)) := by
  exact own_fs (XS.goto X.here K.1 rfl (pc0 := pc) (pc' := t) rfl (K.d D) (K.j D rfl).1 (K.j D rfl).2 (Steps.refl _)) G
theorem oFN (X : Stand p l e R s m args below meth c T locs cells slots) (K : own_K p c L Z s own m meth ml rt nme) {cd : ClassFile.Cond} {x : Int32} {o : Int} (D : own_get L pc = some (.ifCond cd o, 3, nx, t)) (hc : ifCond.holds cd x = false) (G : own_G p.tables e below Q (T.setTop (mkF m nx Ls S))) : own_G p.tables e below Q (T.setTop (mkF m pc Ls (.int x :: S))) := by
  cases K.n D; exact own_fs (XS.ifNo X.here K.1 rfl (K.d D) rfl hc (Steps.refl _)) G
theorem oFY (X : Stand p l e R s m args below meth c T locs cells slots) (K : own_K p c L Z s own m meth ml rt nme) {cd : ClassFile.Cond} {x : Int32} {o : Int} (D : own_get L pc = some (.ifCond cd o, 3, nx, t)) (hc : ifCond.holds cd x = true) (G : own_G p.tables e below Q (T.setTop (mkF m t Ls S))) : own_G p.tables e below Q (T.setTop (mkF m pc Ls (.int x :: S))) := by
  exact own_fs (XS.ifYes X.here K.1 rfl (pc0 := pc) (pc' := t) rfl (K.d D) rfl hc (K.j D rfl).1 (K.j D rfl).2 (Steps.refl _)) G
theorem oCN (X : Stand p l e R s m args below meth c T locs cells slots) (K : own_K p c L Z s own m meth ml rt nme) {cd : ClassFile.Cond} {x y : Int32} {o : Int} (D : own_get L pc = some (.if_icmp cd o, 3, nx, t)) (hc : if_icmp.holds cd x y = false) (G : own_G p.tables e below Q (T.setTop (mkF m nx Ls S))) : own_G p.tables e below Q (T.setTop (mkF m pc Ls (.int y :: .int x :: S))) := by
  cases K.n D; exact own_fs (XS.icmpNo X.here K.1 rfl (K.d D) rfl hc (Steps.refl _)) G
theorem oCY (X : Stand p l e R s m args below meth c T locs cells slots) (K : own_K p c L Z s own m meth ml rt nme) {cd : ClassFile.Cond} {x y : Int32} {o : Int} (D : own_get L pc = some (.if_icmp cd o, 3, nx, t)) (hc : if_icmp.holds cd x y = true) (G : own_G p.tables e below Q (T.setTop (mkF m t Ls S))) : own_G p.tables e below Q (T.setTop (mkF m pc Ls (.int y :: .int x :: S))) := by
  exact own_fs (XS.icmpYes X.here K.1 rfl (pc0 := pc) (pc' := t) rfl (K.d D) rfl hc (K.j D rfl).1 (K.j D rfl).2 (Steps.refl _)) G
theorem oNY (X : Stand p l e R s m args below meth c T locs cells slots) (K : own_K p c L Z s own m meth ml rt nme) {o : Int} (D : own_get L pc = some (.ifnull o, 3, nx, t))  (G : own_G p.tables e below Q (T.setTop (mkF m t Ls S))) : own_G p.tables e below Q (T.setTop (mkF m pc Ls (.null :: S))) := by
  exact own_fs (XS.ifnullYes X.here K.1 rfl (pc0 := pc) (pc' := t) rfl (K.d D) rfl (K.j D rfl).1 (K.j D rfl).2 (Steps.refl _)) G
theorem oNN (X : Stand p l e R s m args below meth c T locs cells slots) (K : own_K p c L Z s own m meth ml rt nme) {o : Int} {a : Addr} (D : own_get L pc = some (.ifnull o, 3, nx, t))  (G : own_G p.tables e below Q (T.setTop (mkF m nx Ls S))) : own_G p.tables e below Q (T.setTop (mkF m pc Ls (.ref a :: S))) := by
  cases K.n D; exact own_fs (XS.ifnullNo X.here K.1 rfl (K.d D) rfl (Steps.refl _)) G
theorem oMY (X : Stand p l e R s m args below meth c T locs cells slots) (K : own_K p c L Z s own m meth ml rt nme) {o : Int} {a : Addr} (D : own_get L pc = some (.ifnonnull o, 3, nx, t))  (G : own_G p.tables e below Q (T.setTop (mkF m t Ls S))) : own_G p.tables e below Q (T.setTop (mkF m pc Ls (.ref a :: S))) := by
  exact own_fs (XS.ifnonnullYes X.here K.1 rfl (pc0 := pc) (pc' := t) rfl (K.d D) rfl (K.j D rfl).1 (K.j D rfl).2 (Steps.refl _)) G
theorem oMN (X : Stand p l e R s m args below meth c T locs cells slots) (K : own_K p c L Z s own m meth ml rt nme) {o : Int} (D : own_get L pc = some (.ifnonnull o, 3, nx, t))  (G : own_G p.tables e below Q (T.setTop (mkF m nx Ls S))) : own_G p.tables e below Q (T.setTop (mkF m pc Ls (.null :: S))) := by
  cases K.n D; exact own_fs (XS.ifnonnullNo X.here K.1 rfl (K.d D) rfl (Steps.refl _)) G
theorem oGF (X : Stand p l e R s m args below meth c T locs cells slots) (K : own_K p c L Z s own m meth ml rt nme) {R0 O n d host : String} {index : Nat} {a : Addr} {v : Value} (D : own_get L pc = some (.getfield index, 3, nx, t)) (w : (Cond.fieldLink own index R0 n d).before a0 Z = true ∨ (Cond.fieldLinkNest own index R0 n d host).before a0 Z = true) (via : Via Z R0 O n d) (eT : T.heap = h) (F : Fld Z h a O n d v)
    (G : ∀ T', Stand p l e R s m args below meth c T' locs cells slots -> T'.heap = h -> own_G p.tables e below Q (T'.setTop (mkF m nx Ls (v :: S)))) : own_G p.tables e below Q (T.setTop (mkF m pc Ls (.ref a :: S))) := by
  cases K.n D
  obtain ⟨T', X', e', st⟩ := getF X K.1 K.wz K.ow w via eT F (g := mkF m pc Ls (.ref a :: S)) rfl rfl (K.d D)
  exact own_fs (st _ (Steps.refl _)) (G T' X' e')
theorem oGf (X : Stand p l e R s m args below meth c T locs cells slots) (K : own_K p c L Z s own m meth ml rt nme) {O n d : String} {index : Nat} {a : Addr} {v : Value} (D : own_get L pc = some (.getfield index, 3, nx, t)) (w : (Cond.fieldLink own index O n d).before a0 Z = true) (eT : T.heap = h) (F : Fld Z h a O n d v) (G : ∀ T', Stand p l e R s m args below meth c T' locs cells slots -> T'.heap = h -> own_G p.tables e below Q (T'.setTop (mkF m nx Ls (v :: S)))) : own_G p.tables e below Q (T.setTop (mkF m pc Ls (.ref a :: S))) := oGF X K D (host := "") (Or.inl w) Via.refl eT F G
theorem oGs (X : Stand p l e R s m args below meth c T locs cells slots) (K : own_K p c L Z s own m meth ml rt nme) {O n d : String} {index : Nat} {v : Value} (D : own_get L pc = some (.getstatic index, 3, nx, t)) (w : (Cond.fieldLink own index O n d).before a0 Z = true) (eT : T.heap = h) (F : Sta Z h O n d v)
    (G : ∀ T', Stand p l e R s m args below meth c T' locs cells slots -> T'.heap = h -> own_G p.tables e below Q (T'.setTop (mkF m nx Ls (v :: S)))) : own_G p.tables e below Q (T.setTop (mkF m pc Ls S)) := by
  cases K.n D
  obtain ⟨T', X', e', st⟩ := getS2 X K.1 K.wz K.ow (host := "") (Or.inl w) Via.refl eT F (g := mkF m pc Ls S) rfl (K.d D)
  exact own_fs (st _ (Steps.refl _)) (G T' X' e')
theorem oPF (X : Stand p l e R s m args below meth c T locs cells slots) (K : own_K p c L Z s own m meth ml rt nme) {R0 O n d host C : String} {index kk : Nat} {ty : FieldType} {a : Addr} {v v' old : Value} (D : own_get L pc = some (.putfield index, 3, nx, t)) (w : (Cond.fieldLink own index R0 n d).before a0 Z = true ∨ (Cond.fieldLinkNest own index R0 n d host).before a0 Z = true) (via : Via Z R0 O n d) (eT : T.heap = h) (F : Fld Z h a O n d old) (E : Exa Z h a C) (LL : (Cond.lays C O n d).before a0 Z = true ∨ ((Cond.laysFinal C O n d).before a0 Z = true /\ own = O /\ meth.name = "<init>")) (wi : (Cond.instantiable C kk).before a0 Z = true) (hty : parseFieldDescriptor d = some ty) (hn : narrow ty v = v') (hf : fits ty v' = true) {n0 : Nat} (N : Fr n0 locs) (ge : n0 <= a) (wl : (Cond.fieldLink own index R0 n d).before a0 Z = true ∨ narrow ty v = v)
    (G : ∀ T' h' L', Fr n0 L' -> Stand p l e R s m args below meth c T' L' cells slots -> T'.heap = h' -> Wr h h' a (Jvm.RoadKit.slotOf Z O n d) v' -> Fld Z h' a O n d v' -> own_G p.tables e below Q (T'.setTop (mkF m nx Ls S))) : own_G p.tables e below Q (T.setTop (mkF m pc Ls (v :: .ref a :: S))) := by
  cases K.n D
  rcases wl with wl | hv
  · obtain ⟨T', h', X', e', W, st⟩ := putFN X K.1 K.wz K.ow wl via eT F E LL wi hty hn hf (g := mkF m pc Ls (v :: .ref a :: S)) rfl rfl (K.d D)
    exact own_fs (st _ (Steps.refl _)) (G T' h' _ (Fr.snoc X' N ge) X' e' W (Fld.same W F))
  · obtain rfl : v = v' := hv.symm.trans hn
    obtain ⟨T', h', X', e', W, st⟩ := putF X K.1 K.wz K.ow w via eT F E LL wi hty hv hf (g := mkF m pc Ls (v :: .ref a :: S)) rfl rfl (K.d D)
    exact own_fs (st _ (Steps.refl _)) (G T' h' _ (Fr.snoc X' N ge) X' e' W (Fld.same W F))
theorem oPf (X : Stand p l e R s m args below meth c T locs cells slots) (K : own_K p c L Z s own m meth ml rt nme) {O n d C : String} {index kk : Nat} {ty : FieldType} {a : Addr} {v v' old : Value} (D : own_get L pc = some (.putfield index, 3, nx, t)) (w : (Cond.fieldLink own index O n d).before a0 Z = true) (eT : T.heap = h) (F : Fld Z h a O n d old) (E : Exa Z h a C) (LL : (Cond.lays C O n d).before a0 Z = true ∨ ((Cond.laysFinal C O n d).before a0 Z = true /\ own = O /\ meth.name = "<init>")) (wi : (Cond.instantiable C kk).before a0 Z = true) (hty : parseFieldDescriptor d = some ty) (hn : narrow ty v = v') (hf : fits ty v' = true) {n0 : Nat} (N : Fr n0 locs) (ge : n0 <= a) (G : ∀ T' h' L', Fr n0 L' -> Stand p l e R s m args below meth c T' L' cells slots -> T'.heap = h' -> Wr h h' a (Jvm.RoadKit.slotOf Z O n d) v' -> Fld Z h' a O n d v' -> own_G p.tables e below Q (T'.setTop (mkF m nx Ls S))) : own_G p.tables e below Q (T.setTop (mkF m pc Ls (v :: .ref a :: S))) := oPF X K D (host := "") (Or.inl w) Via.refl eT F E LL wi hty hn hf N ge (Or.inl w) G
theorem oNew (X : Stand p l e R s m args below meth c T locs cells slots) (K : own_K p c L Z s own m meth ml rt nme) {C : String} {index n : Nat} (D : own_get L pc = some (.new index, 3, nx, t)) (w : (Cond.classLink own index C).before a0 Z = true) (wi : (Cond.instantiable C n).before a0 Z = true) (wz : (Cond.initialized C).before a0 Z = true) (eT : T.heap = h) (zs : h0.size <= h.size) (q : cells + 1 <= R.cells /\ slots + n <= R.slots)
    (G : ∀ T' h' a , a = h.size -> h0.size <= a -> Stand p l e R s m args below meth c T' locs (cells + 1) (slots + n) -> T'.heap = h' -> Ext h h' -> Exa Z h' a C -> (∀ {O nm d : String} {ty : FieldType}, Laid Z a0 C O nm d -> parseFieldDescriptor d = some ty -> Fld Z h' a O nm d (defaultValue ty)) -> own_G p.tables e below Q (T'.setTop (mkF m nx Ls (.ref a :: S)))) : own_G p.tables e below Q (T.setTop (mkF m pc Ls S)) := by
  cases K.n D
  obtain ⟨T', h', X', e', E, A, F, -, st⟩ := newO X K.1 K.wz K.ow w wi wz eT (g := mkF m pc Ls S) rfl (K.d D) q.1 q.2
  exact own_fs (st _ (Steps.refl _)) (G T' h' _ rfl zs X' e' E A F)
theorem oNA (X : Stand p l e R s m args below meth c T locs cells slots) (K : own_K p c L Z s own m meth ml rt nme) {aty : ArrayType} {n : Int32} (D : own_get L pc = some (.newarray aty, 2, nx, t)) (w : (Cond.arrayClass (newarray.typeOf aty)).before a0 Z = true) (eT : T.heap = h) (zs : h0.size <= h.size) (hn : ¬ n < 0) (cap : Nat) (hcap : n.toNatClampNeg <= cap) (q : cap * 8 <= 536870912 /\ cells + 1 <= R.cells /\ slots + cap <= R.slots)
    (G : ∀ T' h' a cA, a = h.size -> h0.size <= a -> Stand p l e R s m args below meth c T' locs (cells + 1) (slots + cap) -> T'.heap = h' -> Ext h h' -> Arv Z h' a cA (newarray.typeOf aty) n [] (defaultValue (newarray.typeOf aty)) -> own_G p.tables e below Q (T'.setTop (mkF m nx Ls (.ref a :: S)))) : own_G p.tables e below Q (T.setTop (mkF m pc Ls (.int n :: S))) := by
  cases K.n D
  obtain ⟨T', h', cA, X', e', E, A, st⟩ := newP X K.1 K.wz w eT (g := mkF m pc Ls (.int n :: S)) rfl (K.d D) rfl hn hcap q.1 q.2.1 q.2.2
  exact own_fs (st _ (Steps.refl _)) (G T' h' _ cA rfl zs X' e' E (Arv.new A hn))
theorem oNR (X : Stand p l e R s m args below meth c T locs cells slots) (K : own_K p c L Z s own m meth ml rt nme) {C : String} {index : Nat} {n : Int32} (D : own_get L pc = some (.anewarray index, 3, nx, t)) (w1 : (Cond.classLink own index C).before a0 Z = true) (w2 : (Cond.arrayOver (.object C)).before a0 Z = true) (eT : T.heap = h) (zs : h0.size <= h.size) (hn : ¬ n < 0) (cap : Nat) (hcap : n.toNatClampNeg <= cap) (q : cap * 8 <= 536870912 /\ cells + 1 <= R.cells /\ slots + cap <= R.slots)
    (G : ∀ T' h' a cA, a = h.size -> h0.size <= a -> Stand p l e R s m args below meth c T' locs (cells + 1) (slots + cap) -> T'.heap = h' -> Ext h h' -> Arv Z h' a cA (.object C) n [] .null -> Exa Z h' a ("[" ++ (FieldType.object C).toString) -> Ovr Z cA C -> own_G p.tables e below Q (T'.setTop (mkF m nx Ls (.ref a :: S)))) : own_G p.tables e below Q (T.setTop (mkF m pc Ls (.int n :: S))) := by
  cases K.n D
  obtain ⟨T', h', cA, X', e', E, A, F, O, st⟩ := newRE X K.1 K.wz K.ow w1 w2 eT (g := mkF m pc Ls (.int n :: S)) rfl (K.d D) rfl hn hcap q.1 q.2.1 q.2.2 rfl
  exact own_fs (st _ (Steps.refl _)) (G T' h' _ cA rfl zs X' e' E (Arv.new A hn) F O)
theorem oAL (X : Stand p l e R s m args below meth c T locs cells slots) (K : own_K p c L Z s own m meth ml rt nme) {a : Addr} {cl : Cell} {ty : FieldType} {j : Int32} {v : Value} (D : own_get L pc = some (.aaload, 1, nx, t)) (eT : T.heap = h) (A : Arr Z h a cl ty) (hty : ty.isReference = true) (hin : ¬ (j < 0 ∨ cl.slots.size <= j.toNatClampNeg)) (hat : cl.slots[j.toNatClampNeg]? = some v) (G : own_G p.tables e below Q (T.setTop (mkF m nx Ls (v :: S)))) : own_G p.tables e below Q (T.setTop (mkF m pc Ls (.int j :: .ref a :: S))) := by
  cases K.n D
  exact own_fs (X.aaload K.1 (by rw [eT]; exact A.1) (State.isArrayOf_alike K.wz.alike A.2.1) hty A.2.2 hin hat (g := mkF m pc Ls (.int j :: .ref a :: S)) rfl rfl (K.d D) _ (Steps.refl _)) G
theorem oAn (X : Stand p l e R s m args below meth c T locs cells slots) (K : own_K p c L Z s own m meth ml rt nme) {a : Addr} {cl : Cell} {ty : FieldType} {z : Int32} (D : own_get L pc = some (.arraylength, 1, nx, t)) (eT : T.heap = h) (A : Arr Z h a cl ty) (hz : cl.slots.size.toInt32 = z) (G : own_G p.tables e below Q (T.setTop (mkF m nx Ls (.int z :: S)))) : own_G p.tables e below Q (T.setTop (mkF m pc Ls (.ref a :: S))) := by
  cases K.n D; subst hz
  exact own_fs (X.arraylength K.1 (by rw [eT]; exact A.1) (State.isArrayOf_alike K.wz.alike A.2.1) (g := mkF m pc Ls (.ref a :: S)) rfl rfl (K.d D) _ (Steps.refl _)) G
theorem oCst (X : Stand p l e R s m args below meth c T locs cells slots) (K : own_K p c L Z s own m meth ml rt nme) {N : String} {index : Nat} {a : Addr} (D : own_get L pc = some (.checkcast index, 3, nx, t)) (w : (Cond.classLink own index N).before a0 Z = true) (eT : T.heap = h) (F : Ins Z h a N true)
    (G : ∀ T', Stand p l e R s m args below meth c T' locs cells slots -> T'.heap = h -> own_G p.tables e below Q (T'.setTop (mkF m nx Ls (.ref a :: S)))) : own_G p.tables e below Q (T.setTop (mkF m pc Ls (.ref a :: S))) := by
  cases K.n D
  obtain ⟨T', X', e', st⟩ := castY X K.1 K.wz K.ow w eT F (g := mkF m pc Ls (.ref a :: S)) rfl rfl (K.d D)
  exact own_fs (st _ (Steps.refl _)) (G T' X' e')
theorem oObj (X : Stand p l e R s m args below meth c T locs cells slots) (K : own_K p c L Z s own m meth ml rt nme) {idx : Nat} {a : Addr} (D : own_get L pc = some (.invokespecial idx, 3, nx, t)) (w1 : (Cond.methodLink own idx Lib.objectInit).before a0 Z = true) (w2 : (Cond.instanceMethod Lib.objectInit).before a0 Z = true) (w3 : (Cond.code Lib.objectInit ⟨#[0xb1]⟩ 1 none).before a0 Z = true) (eT : T.heap = h) (hz : Ls.size = ml) (W : Nat) (hW : (S.map fun v => v.category).sum = W) (hl : 1 <= R.frames /\ W + 12 <= R.locals)
    (G : ∀ T', Stand p l e R s m args below meth c T' locs cells slots -> T'.heap = h -> own_G p.tables e below Q (T'.setTop (mkF m nx Ls S))) : own_G p.tables e below Q (T.setTop (mkF m pc Ls (.ref a :: S))) := by
  cases K.n D
  obtain ⟨T', X', e', st⟩ := initO X K.1 K.wz K.ow w1 w2 w3 eT (g := mkF m pc Ls (.ref a :: S)) rfl (hz.trans K.lm.symm) rfl (K.d D) hl.1 (W := W) (by show 2 * 0 + _ <= _; omega) hl.2
  exact own_fs (st _ (Steps.refl _)) (G T' X' e')
theorem oLd {vm0 : Vm} {EL : List (String × Nat)} {text : String} {index k0 n : Nat} (X : Stand p l e R (s.setVm vm0) m args below meth c T locs cells slots) (K : own_K p c L Z (s.setVm vm0) own m meth ml rt nme) (D : own_get L pc = some (.ldc index, 2, nx, t)) (w : (Cond.stringLink own index text).before a0 Z = true) (wS : ∀ a ∈ Bundle.stringAtoms, a.before a0 Z = true) (eT : T.heap = h) (hS : s.Since vm0 k0) (hk : k0 <= h.size) (hEL : EW Z a0 EL) (RR : CHr Z EL s.vm h0 vm0 h) (q : 4 * text.toList.length <= n /\ n <= 536870912 /\ cells + 2 <= R.cells /\ slots + (n + 4) <= R.slots)
    (G : ∀ a T' h' k1, Stand p l e R (s.setVm T'.vm) m args below meth c T' locs (cells + 2) (slots + (n + 4)) -> T'.heap = h' -> Ext h h' -> s.Since T'.vm k1 -> k1 <= h'.size -> own_K p c L Z (s.setVm T'.vm) own m meth ml rt nme -> CHr Z EL s.vm h0 T'.vm h' -> own_G p.tables e below Q (T'.setTop (mkF m nx Ls (.ref a :: S)))) : own_G p.tables e below Q (T.setTop (mkF m pc Ls S)) := by
  cases K.n D
  obtain ⟨a, T', h', k1, X', e', E, h1, h2, h3, h4, h5, -, st⟩ := ldcOH X K.1 K.wz K.ow w wS eT hS hk hEL RR.1 (g := mkF m pc Ls S) rfl (K.d D) q.1 q.2.1 q.2.2.1 q.2.2.2
  exact own_fs (st _ (Steps.refl _)) (G a T' h' k1 X' e' E h1 h2 ⟨K.1, K.2.1, h3, h4, K.2.2.2.2⟩ (RR.trans h5))
def own_PN (s : State) (QQ : Option Value -> Heap -> Prop) (n0 rc rs : Nat) (o : Outcome) (U : State) : Prop := own_P s (fun v h L => QQ v h /\ Fr n0 L) rc rs o U
def own_PV (Z : State) (EL : List (String × Nat)) (s : State) (QQ : Option Value -> Heap -> Prop) (n0 rc rs : Nat) (o : Outcome) (U : State) : Prop := own_PW Z EL s (fun v h L => QQ v h /\ Fr n0 L) rc rs o U
def own_M (l : Launch) (y : MethodName) (b : ByteArray) (ml : Nat) (rt : Option FieldType) (rm : Room) (ws : List Jvm.Cond) (Z : State) (h : Heap) (n0 : Nat) (as : Array Value) (QQ : Option Value -> Heap -> Prop) : Prop :=
  MetFree l y (head1 (Jvm.Cond.code y b ml rt :: ws) rm) (fun a U => a = as /\ Z.Warmed39 U.vm /\ U.heap = h) (fun _ _ _ _ _ => True) (fun _ U o U' => ∃ v L, o = .returned v /\ (QQ v U'.heap /\ Fr n0 L) /\ FrameEnd U o U' L rm.cells rm.slots)
def own_MW (EL : List (String × Nat)) (l : Launch) (y : MethodName) (b : ByteArray) (ml : Nat) (rt : Option FieldType) (rm : Room) (ws : List Jvm.Cond) (Z : State) (h : Heap) (n0 : Nat) (as : Array Value) (QQ : Option Value -> Heap -> Prop) : Prop :=
  MetFree l y (head1 (Jvm.Cond.code y b ml rt :: ws) rm) (fun a U => a = as /\ Z.Warmed39 U.vm /\ U.heap = h /\ CHv Z EL U.vm h) (fun _ _ _ _ _ => True) (fun _ U o U' => ∃ v L, o = .returned v /\ (QQ v U'.heap /\ Fr n0 L) /\ CHr Z EL U.vm U.heap U'.vm U'.heap /\ ReturnedEndW U o U' L rm.cells rm.slots)
section OwnBegin
variable {y : MethodName} {rm : Room} {ws : List Jvm.Cond} {as : Array Value} {n0 : Nat} {QQ : Option Value -> Heap -> Prop} {EL : List (String × Nat)} {vm0 : Vm} {rc rs : Nat} {w : Value} {z : Int32} {ty : FieldType}
theorem own_beg (pf : plainFor y = true) (tb : own_TB b L) (ls : Array Slot) (he : ∀ m, entryFrame m as ml = mkF m 0 ls [])
    (G : ∀ (p : Program) (e : Env) (s : State) (m : MethodId) (below : List Frame) (meth : Method) (c : Code) (sa : State), own_K p c L Z s y.cls m meth ml rt y.name -> Stand p l e rm s m as below meth c sa [] 0 0 -> sa.heap = h0 -> own_G p.tables e below (own_PN s QQ n0 rm.cells rm.slots) (sa.setTop (mkF m 0 ls []))) : own_M l y b ml rt rm ws Z h0 n0 as QQ := by
  refine MetFree.of_bodySF pf hisR ?_
  intro p e s m args below meth c sa Bd hml0 hP hK
  obtain ⟨rfl, hZ, hh⟩ := hP
  exact own_start (he m) (G p e s m below meth c sa ⟨Bd.exec, by rw [Bd.bytes]; exact tb, hZ, findClass_of_methodNamed Bd.named, hml0, Bd.returns, BodyLoose.notSynchronized Bd, (name_of_methodNamed Bd.named Bd.method).1⟩ (Stand.of_body Bd) (by rw [← hh, Bd.state]; rfl))
theorem own_begW (pf : plainFor y = true) (tb : own_TB b L) (ls : Array Slot) (he : ∀ m, entryFrame m as ml = mkF m 0 ls [])
    (G : ∀ (p : Program) (e : Env) (s : State) (m : MethodId) (below : List Frame) (meth : Method) (c : Code) (sa : State), own_K p c L Z (s.setVm s.vm) y.cls m meth ml rt y.name -> Stand p l e rm (s.setVm s.vm) m as below meth c sa [] 0 0 -> sa.heap = h0 -> s.heap = h0 -> s.Since s.vm 0 -> CHr Z EL s.vm h0 s.vm h0 -> own_G p.tables e below (own_PV Z EL s QQ n0 rm.cells rm.slots) (sa.setTop (mkF m 0 ls []))) : own_MW EL l y b ml rt rm ws Z h0 n0 as QQ := by
  refine MetFree.of_bodySF pf hisR ?_
  intro p e s m args below meth c sa Bd hml0 hP hK
  obtain ⟨rfl, hZ, hh, CH0⟩ := hP
  exact own_startW hh (he m) (G p e s m below meth c sa ⟨Bd.exec, by rw [Bd.bytes]; exact tb, hZ, findClass_of_methodNamed Bd.named, hml0, Bd.returns, BodyLoose.notSynchronized Bd, (name_of_methodNamed Bd.named Bd.method).1⟩ (Stand.of_body Bd) (by rw [← hh, Bd.state]; rfl) hh ((State.WarmedH.refl s).since 0) (CHr.refl CH0))
theorem oRv (X : Stand p l e R s m args below meth c T locs cells slots) (K : own_K p c L Z s own m meth ml none nme) (D : own_get L pc = some (.return_, 1, nx, t)) (eT : T.heap = h) (N : Fr n0 locs) (hc : cells <= rc /\ slots <= rs) (q : QQ none h) : own_G p.tables e below (own_PN s QQ n0 rc rs) (T.setTop (mkF m pc Ls [])) := own_retV X K.1 K.tr K.lk (K.d D) hc.1 hc.2 eT ⟨q, N⟩
theorem oRi (X : Stand p l e R s m args below meth c T locs cells slots) (K : own_K p c L Z s own m meth ml (some .int) nme) (D : own_get L pc = some (.ireturn, 1, nx, t)) (eT : T.heap = h) (N : Fr n0 locs) (hc : cells <= rc /\ slots <= rs) (q : QQ (some (.int z)) h) : own_G p.tables e below (own_PN s QQ n0 rc rs) (T.setTop (mkF m pc Ls (.int z :: S))) := own_retI X K.1 K.tr K.lk (K.d D) hc.1 hc.2 eT ⟨q, N⟩
theorem oRn (X : Stand p l e R s m args below meth c T locs cells slots) (K : own_K p c L Z s own m meth ml (some ty) nme) (ht : ty = .boolean ∨ ty = .byte ∨ ty = .char ∨ ty = .short) (D : own_get L pc = some (.ireturn, 1, nx, t)) (eT : T.heap = h) (N : Fr n0 locs) (hc : cells <= rc /\ slots <= rs) (q : QQ (some (.int (nar ty z))) h) : own_G p.tables e below (own_PN s QQ n0 rc rs) (T.setTop (mkF m pc Ls (.int z :: S))) := own_retN X K.1 K.tr K.lk ht (K.d D) hc.1 hc.2 eT ⟨q, N⟩
theorem oRa (X : Stand p l e R s m args below meth c T locs cells slots) (K : own_K p c L Z s own m meth ml (some ty) nme) (ht : ty.isReference = true) (hw : w.isRef = true) (D : own_get L pc = some (.areturn, 1, nx, t)) (eT : T.heap = h) (N : Fr n0 locs) (hc : cells <= rc /\ slots <= rs) (q : QQ (some w) h) : own_G p.tables e below (own_PN s QQ n0 rc rs) (T.setTop (mkF m pc Ls (w :: S))) := own_retA X K.1 K.tr K.lk ht hw (K.d D) hc.1 hc.2 eT ⟨q, N⟩
theorem oRvw (X : Stand p l e R (s.setVm vm0) m args below meth c T locs cells slots) (K : own_K p c L Z (s.setVm vm0) own m meth ml none nme) (D : own_get L pc = some (.return_, 1, nx, t)) (eT : T.heap = h) (N : Fr n0 locs) (hc : cells <= rc /\ slots <= rs) {k0 : Nat} (hh : s.heap = h0) (hEL : EW Z a0 EL) (hS : s.Since vm0 k0) (hk : k0 <= h.size) (RR : CHr Z EL s.vm h0 vm0 h) (q : QQ none h) : own_G p.tables e below (own_PV Z EL s QQ n0 rc rs) (T.setTop (mkF m pc Ls [])) := own_retVW X K.1 K.tr K.lk (K.d D) hc.1 hc.2 eT hS hk (by rw [hh]; exact RR.trans (CHv.at X K.wz hEL RR.1)) ⟨q, N⟩
theorem oRnw (X : Stand p l e R (s.setVm vm0) m args below meth c T locs cells slots) (K : own_K p c L Z (s.setVm vm0) own m meth ml (some ty) nme) (ht : ty = .boolean ∨ ty = .byte ∨ ty = .char ∨ ty = .short) (D : own_get L pc = some (.ireturn, 1, nx, t)) (eT : T.heap = h) (N : Fr n0 locs) (hc : cells <= rc /\ slots <= rs) {k0 : Nat} (hh : s.heap = h0) (hEL : EW Z a0 EL) (hS : s.Since vm0 k0) (hk : k0 <= h.size) (RR : CHr Z EL s.vm h0 vm0 h) (q : QQ (some (.int (nar ty z))) h) : own_G p.tables e below (own_PV Z EL s QQ n0 rc rs) (T.setTop (mkF m pc Ls (.int z :: S))) := own_retNW X K.1 K.tr K.lk ht (K.d D) hc.1 hc.2 eT hS hk (by rw [hh]; exact RR.trans (CHv.at X K.wz hEL RR.1)) ⟨q, N⟩
theorem oRaw (X : Stand p l e R (s.setVm vm0) m args below meth c T locs cells slots) (K : own_K p c L Z (s.setVm vm0) own m meth ml (some ty) nme) (ht : ty.isReference = true) (hw : w.isRef = true) (D : own_get L pc = some (.areturn, 1, nx, t)) (eT : T.heap = h) (N : Fr n0 locs) (hc : cells <= rc /\ slots <= rs) {k0 : Nat} (hh : s.heap = h0) (hEL : EW Z a0 EL) (hS : s.Since vm0 k0) (hk : k0 <= h.size) (RR : CHr Z EL s.vm h0 vm0 h) (q : QQ (some w) h) : own_G p.tables e below (own_PV Z EL s QQ n0 rc rs) (T.setTop (mkF m pc Ls (w :: S))) := own_retAW X K.1 K.tr K.lk ht hw (K.d D) hc.1 hc.2 eT hS hk (by rw [hh]; exact RR.trans (CHv.at X K.wz hEL RR.1)) ⟨q, N⟩
end OwnBegin
theorem oFo {a' b' : Addr} {h' : Heap} {C O n d O' n' d' : String} {v w : Value} (W : Wr h h' a' (Jvm.RoadKit.slotOf Z O' n' d') v) (F : Fld Z h b' O n d w) (A : Laid Z a0 C O n d) (A' : Laid Z a0 C O' n' d') (q : n ≠ n' /\ (parseFieldDescriptor d).isSome = true /\ (parseFieldDescriptor d').isSome = true) : Fld Z h' b' O n d w := by
  obtain ⟨q1, q2, q3⟩ := q
  obtain ⟨t1, q2⟩ := Option.isSome_iff_exists.mp q2
  obtain ⟨t2, q3⟩ := Option.isSome_iff_exists.mp q3
  exact Fld.other W F (Or.inr (slot_ne A A' q1 q2 q3))
theorem oFn {a' b' : Addr} {h' : Heap} {sl : Nat} {O n d : String} {v w : Value} (W : Wr h h' a' sl v) (F : Fld Z h b' O n d w) (q : b' ≠ a') : Fld Z h' b' O n d w := Fld.other W F (Or.inl q)
theorem oNe {a' b' n : Nat} (q : a' < n) (r : n <= b') : a' ≠ b' := Nat.ne_of_lt (Nat.lt_of_lt_of_le q r)
theorem oM {A : List Addr} {P : Prop} {x : Addr} (i : Nat) (q : A[i]? = some x) : x ∈ A ∨ P := Or.inl (List.mem_of_getElem? q)
theorem oSx {EL : List (String × Nat)} {vm : Vm} {x : Addr} {C : String} (hz : Z.Warmed39 vm) (E : Exa Z h x C) (q : C ≠ "java/lang/String" /\ C ≠ "[B") : Safe Z EL vm h x := Safe.exa hz.alike E q.1 q.2
theorem own_re {EL : List (String × Nat)} {vm vm1 : Vm} {h' : Heap} (A : CHr Z EL vm h0 vm1 h) (E : Ext h h') : CHr Z EL vm h0 vm1 h' := A.trans (CHr.ext E A.1)
theorem own_rw {EL : List (String × Nat)} {vm vm1 : Vm} {h' : Heap} {a : Addr} {sl : Nat} {v : Value} (A : CHr Z EL vm h0 vm1 h) (W : Wr h h' a sl v) (q : Safe Z EL vm1 h a) : CHr Z EL vm h0 vm1 h' := A.trans (CHr.wr W q A.1)
theorem own_rk {EL : List (String × Nat)} {vm vm1 : Vm} {h' : Heap} {ws : List Addr} (A : CHr Z EL vm h0 vm1 h) (K : Keep h h' ws) (q : ∀ x ∈ ws, Safe Z EL vm1 h x) : CHr Z EL vm h0 vm1 h' := A.trans (CHr.keep K q A.1)
end OwnSteps
section OwnCalls
variable {p : Program} {l : Launch} {e : Env} {R : Room} {s : State} {m : MethodId} {args : Array Value} {below : List Frame} {meth : Method} {c : Code} {T : State} {locs : List Loc} {cells slots : Nat} {Z : State} {a0 : Array Value} {h h0 : Heap} {Q : Outcome -> State -> Prop} {b : ByteArray} {pc nx t ml : Nat} {Ls : Array Slot} {S : List Value} {own nme : String} {rt : Option FieldType} {L : own_T} {C I : String} {index : Nat} {y z : MethodName} {bz : ByteArray} {mz : Nat} {rz : Option FieldType} {rm : Room} {QQ : Option Value -> Heap -> Prop} {as : Array Value} {rest : List Value} {o : Addr} {n0 : Nat}
theorem own_cb {g : JFrame} {rc rs : Nat} (N : Fr n0 locs)
    (H : ∃ (v : Option Value) (vm₁ : Vm) (B : Pt), s.WarmedH vm₁ /\ Stand p l e R s m args below meth c B.U B.locs B.cells B.slots /\ (∃ L, (QQ v B.U.heap /\ Fr n0 L) /\ B.locs = locs ++ L /\ B.cells = cells + rc /\ B.slots = slots + rs) /\ Steps p.tables e below (T.setTop g) (B.U.setTop (mkF m nx Ls (v.toList ++ rest))))
    (G : ∀ v T' h' L', Fr n0 L' -> QQ v h' -> T'.heap = h' -> Stand p l e R s m args below meth c T' L' (cells + rc) (slots + rs) -> own_G p.tables e below Q (T'.setTop (mkF m nx Ls (v.toList ++ rest)))) : own_G p.tables e below Q (T.setTop g) := by
  obtain ⟨v, _, ⟨U, L', k, n⟩, -, X', ⟨L, ⟨q, N'⟩, e1, e2, e3⟩, st⟩ := H
  dsimp only [Pt.U, Pt.locs, Pt.cells, Pt.slots] at X' e1 e2 e3 st q
  subst e1 e2 e3
  exact own_fs st (G v U _ _ (Fr.app N N') q rfl X')
theorem own_cbW {EL : List (String × Nat)} {vm0 : Vm} {k0 rc rs : Nat} {g : JFrame} (K : own_K p c L Z (s.setVm vm0) own m meth ml rt nme) (N : Fr n0 locs) (hS : s.Since vm0 k0) (hk : k0 <= T.heap.size) (RR : CHr Z EL s.vm h0 vm0 h)
    (H : ∃ (v : Option Value) (vm₁ : Vm) (B : Pt), (s.setVm vm0).WarmedH vm₁ /\ Stand p l e R ((s.setVm vm0).setVm B.U.vm) m args below meth c B.U B.locs B.cells B.slots /\ (s.setVm vm0).Since B.U.vm B.U.heap.size /\ T.heap.size <= B.U.heap.size /\ (∃ L, (QQ v B.U.heap /\ Fr n0 L) /\ B.locs = locs ++ L /\ B.cells = cells + rc /\ B.slots = slots + rs /\ CHr Z EL vm0 h B.U.vm B.U.heap) /\ Steps p.tables e below (T.setTop g) (B.U.setTop (mkF m nx Ls (v.toList ++ rest))))
    (G : ∀ v T' h' L', Fr n0 L' -> QQ v h' -> T'.heap = h' -> Stand p l e R (s.setVm T'.vm) m args below meth c T' L' (cells + rc) (slots + rs) -> s.Since T'.vm h'.size -> own_K p c L Z (s.setVm T'.vm) own m meth ml rt nme -> CHr Z EL s.vm h0 T'.vm h' -> own_G p.tables e below Q (T'.setTop (mkF m nx Ls (v.toList ++ rest)))) : own_G p.tables e below Q (T.setTop g) := by
  obtain ⟨v, _, ⟨U, L', k, n⟩, -, X', hS', gr, ⟨L, ⟨q, N'⟩, e1, e2, e3, hR⟩, st⟩ := H
  dsimp only [Pt.U, Pt.locs, Pt.cells, Pt.slots] at X' hS' gr e1 e2 e3 st q hR
  subst e1 e2 e3
  obtain ⟨X1, hS1, hZ1, hown1⟩ := rebS hS hk X' hS' gr K.wz K.ow
  exact own_fs st (G v U _ _ (Fr.app N N') q rfl X1 hS1 ⟨K.1, K.2.1, hZ1, hown1, K.2.2.2.2⟩ (RR.trans hR))
theorem oVc (X : Stand p l e R s m args below meth c T locs cells slots) (K : own_K p c L Z s own m meth ml rt nme) (D : own_get L pc = some (.invokevirtual index, 3, nx, t)) (w1 : (Cond.methodLink own index y).before a0 Z = true) (w2 : (Cond.declares y).before a0 Z = true) (nf : NotFace s y) (w3 : (Cond.selects C y z).before a0 Z = true) (w4 : (Cond.instanceMethod z).before a0 Z = true) (wc : (Cond.code z bz mz rz).before a0 Z = true) (wi : (Cond.initialized z.cls).before a0 Z = true) (hy : y.cls ≠ "java/lang/invoke/MethodHandle" /\ y.cls ≠ "java/lang/invoke/VarHandle") (eT : T.heap = h) (E : Exa Z h o C) (M : own_M l z bz mz rz rm [] Z h n0 as QQ) (hst : S = (as.toList.drop 1).reverse ++ .ref o :: rest) (has : as = (.ref o :: as.toList.drop 1).toArray) (hln : ∀ sig, parseMethodDescriptor y.desc = some sig -> (as.toList.drop 1).length = sig.parameters.length) (hsz : Ls.size = ml) (N : Fr n0 locs) (W : Nat) (hW : (rest.map fun v => v.category).sum = W) (hr : (rm.frames + 1 <= R.frames /\ W + (mz + 11) + rm.locals <= R.locals) /\ cells + rm.cells <= R.cells /\ slots + rm.slots <= R.slots)
    (G : ∀ v T' h' L', Fr n0 L' -> QQ v h' -> T'.heap = h' -> Stand p l e R s m args below meth c T' L' (cells + rm.cells) (slots + rm.slots) -> own_G p.tables e below Q (T'.setTop (mkF m nx Ls (v.toList ++ rest)))) : own_G p.tables e below Q (T.setTop (mkF m pc Ls S)) := by
  cases K.n D
  subst hst
  obtain ⟨cB, kB, i1, i2, i3⟩ := isOf K.wz eT E
  exact own_cb N (X.virtualBack K.1 (y := y) (z := z) K.ow (mvT K.wz w1) (mvT K.wz w2) nf (mvT K.wz w3) (mvT K.wz w4) hy (backOf (W := W) (Q := fun v h L => QQ v h /\ Fr n0 L) M K.wz wc wi hr.1.1 hr.1.2) i1 i3 (g := mkF m pc Ls ((as.toList.drop 1).reverse ++ .ref o :: rest)) rfl (hsz.trans K.lm.symm) (Steps.refl _) (argsL := (as.toList.drop 1)) hln rfl (by show 2 * 0 + _ <= _; omega) (K.d D) (fun _ _ => ⟨has.symm, eT, hr.2.1, hr.2.2⟩)) G
theorem oUc (X : Stand p l e R s m args below meth c T locs cells slots) (K : own_K p c L Z s own m meth ml rt nme) (D : own_get L pc = some (.invokevirtual index, 3, nx, t)) (w1 : (Cond.methodLink own index y).before a0 Z = true) (w2 : (Cond.sameMethod y.cls I y.name y.desc).before a0 Z = true) (w5 : (Cond.declares ⟨I, y.name, y.desc⟩).before a0 Z = true) (w3 : (Cond.selects C y z).before a0 Z = true) (w4 : (Cond.instanceMethod z).before a0 Z = true) (wc : (Cond.code z bz mz rz).before a0 Z = true) (wi : (Cond.initialized z.cls).before a0 Z = true) (hy : I ≠ "java/lang/invoke/MethodHandle" /\ I ≠ "java/lang/invoke/VarHandle") (eT : T.heap = h) (E : Exa Z h o C) (M : own_M l z bz mz rz rm [] Z h n0 as QQ) (hst : S = (as.toList.drop 1).reverse ++ .ref o :: rest) (has : as = (.ref o :: as.toList.drop 1).toArray) (hln : ∀ sig, parseMethodDescriptor y.desc = some sig -> (as.toList.drop 1).length = sig.parameters.length) (hsz : Ls.size = ml) (N : Fr n0 locs) (W : Nat) (hW : (rest.map fun v => v.category).sum = W) (hr : (rm.frames + 1 <= R.frames /\ W + (mz + 11) + rm.locals <= R.locals) /\ cells + rm.cells <= R.cells /\ slots + rm.slots <= R.slots)
    (G : ∀ v T' h' L', Fr n0 L' -> QQ v h' -> T'.heap = h' -> Stand p l e R s m args below meth c T' L' (cells + rm.cells) (slots + rm.slots) -> own_G p.tables e below Q (T'.setTop (mkF m nx Ls (v.toList ++ rest)))) : own_G p.tables e below Q (T.setTop (mkF m pc Ls S)) := by
  cases K.n D
  subst hst
  obtain ⟨cB, kB, i1, i2, i3⟩ := isOf K.wz eT E
  exact own_cb N (X.virtualBackUp K.1 (owner := I) (x := y) (y := z) K.ow (mvT K.wz w1) (mvT K.wz w2) (mvT K.wz w5) hy (mvT K.wz w3) (mvT K.wz w4) (backOf (W := W) (Q := fun v h L => QQ v h /\ Fr n0 L) M K.wz wc wi hr.1.1 hr.1.2) i1 i3 (g := mkF m pc Ls ((as.toList.drop 1).reverse ++ .ref o :: rest)) rfl (hsz.trans K.lm.symm) (Steps.refl _) (argsL := (as.toList.drop 1)) hln rfl (by show 2 * 0 + _ <= _; omega) (K.d D) (fun _ _ => ⟨has.symm, eT, hr.2.1, hr.2.2⟩)) G
theorem oPc (X : Stand p l e R s m args below meth c T locs cells slots) (K : own_K p c L Z s own m meth ml rt nme) (D : own_get L pc = some (.invokevirtual index, 3, nx, t)) (w1 : (Cond.methodLink own index z).before a0 Z = true) (w4 : (Cond.instanceMethod z).before a0 Z = true) (w3 : (Cond.selects z.cls z z).before a0 Z = true) (w2 : (Cond.privateMethod z).before a0 Z = true) (wc : (Cond.code z bz mz rz).before a0 Z = true) (wi : (Cond.initialized z.cls).before a0 Z = true) (hy : z.cls ≠ "java/lang/invoke/MethodHandle" /\ z.cls ≠ "java/lang/invoke/VarHandle") (eT : T.heap = h) (E : Exa Z h o C) (M : own_M l z bz mz rz rm [] Z h n0 as QQ) (hst : S = (as.toList.drop 1).reverse ++ .ref o :: rest) (has : as = (.ref o :: as.toList.drop 1).toArray) (hln : ∀ sig, parseMethodDescriptor z.desc = some sig -> (as.toList.drop 1).length = sig.parameters.length) (hsz : Ls.size = ml) (N : Fr n0 locs) (W : Nat) (hW : (rest.map fun v => v.category).sum = W) (hr : (rm.frames + 1 <= R.frames /\ W + (mz + 11) + rm.locals <= R.locals) /\ cells + rm.cells <= R.cells /\ slots + rm.slots <= R.slots)
    (G : ∀ v T' h' L', Fr n0 L' -> QQ v h' -> T'.heap = h' -> Stand p l e R s m args below meth c T' L' (cells + rm.cells) (slots + rm.slots) -> own_G p.tables e below Q (T'.setTop (mkF m nx Ls (v.toList ++ rest)))) : own_G p.tables e below Q (T.setTop (mkF m pc Ls S)) := by
  cases K.n D
  subst hst
  obtain ⟨cq, i1, i2⟩ := Exa.cell E
  exact own_cb N (X.privateBack K.1 (y := z) K.ow (mvT K.wz w1) (mvT K.wz w4) (mvT K.wz w3) (Cond.privateMethod_at (mvP K.wz w2 (args := #[]))) (mvT K.wz wc) hy (backOf (W := W) (Q := fun v h L => QQ v h /\ Fr n0 L) M K.wz wc wi hr.1.1 hr.1.2) (g := mkF m pc Ls ((as.toList.drop 1).reverse ++ .ref o :: rest)) rfl (hsz.trans K.lm.symm) (Steps.refl _) (a := o) (by rw [eT]; exact i1) i2 (argsL := (as.toList.drop 1)) hln rfl (by show 2 * 0 + _ <= _; omega) (K.d D) (fun _ _ => ⟨has.symm, eT, hr.2.1, hr.2.2⟩)) G
theorem oNc (X : Stand p l e R s m args below meth c T locs cells slots) (K : own_K p c L Z s own m meth ml rt nme) (D : own_get L pc = some (.invokespecial index, 3, nx, t)) (w1 : (Cond.methodLink own index z).before a0 Z = true) (w4 : (Cond.instanceMethod z).before a0 Z = true) (wc : (Cond.code z bz mz none).before a0 Z = true) (wi : (Cond.initialized z.cls).before a0 Z = true) (hy : z.cls ≠ "java/lang/invoke/MethodHandle" /\ z.cls ≠ "java/lang/invoke/VarHandle") (hz : z.name = "<init>") (eT : T.heap = h)  (M : own_M l z bz mz none rm [] Z h n0 as QQ) (hst : S = (as.toList.drop 1).reverse ++ .ref o :: rest) (has : as = (.ref o :: as.toList.drop 1).toArray) (hln : ∀ sig, parseMethodDescriptor z.desc = some sig -> (as.toList.drop 1).length = sig.parameters.length) (hsz : Ls.size = ml) (N : Fr n0 locs) (W : Nat) (hW : (rest.map fun v => v.category).sum = W) (hr : (rm.frames + 1 <= R.frames /\ W + (mz + 11) + rm.locals <= R.locals) /\ cells + rm.cells <= R.cells /\ slots + rm.slots <= R.slots)
    (G : ∀ v T' h' L', Fr n0 L' -> QQ v h' -> T'.heap = h' -> Stand p l e R s m args below meth c T' L' (cells + rm.cells) (slots + rm.slots) -> own_G p.tables e below Q (T'.setTop (mkF m nx Ls (v.toList ++ rest)))) : own_G p.tables e below Q (T.setTop (mkF m pc Ls S)) := by
  cases K.n D
  subst hst
  exact own_cb N (X.specialBack K.1 (y := z) hz K.ow (mvT K.wz w1) (mvT K.wz w4) (mvT K.wz wc) hy (backOf (W := W) (Q := fun v h L => QQ v h /\ Fr n0 L) M K.wz wc wi hr.1.1 hr.1.2) (g := mkF m pc Ls ((as.toList.drop 1).reverse ++ .ref o :: rest)) rfl (hsz.trans K.lm.symm) (Steps.refl _) (a := o) (argsL := (as.toList.drop 1)) hln rfl (by show 2 * 0 + _ <= _; omega) (K.d D) (fun _ _ => ⟨has.symm, eT, hr.2.1, hr.2.2⟩)) G
theorem oTc (X : Stand p l e R s m args below meth c T locs cells slots) (K : own_K p c L Z s own m meth ml rt nme) (D : own_get L pc = some (.invokestatic index, 3, nx, t)) (w1 : (Cond.methodLink own index z).before a0 Z = true) (w2 : (Cond.static z).before a0 Z = true) (wc : (Cond.code z bz mz rz).before a0 Z = true) (wi : (Cond.initialized z.cls).before a0 Z = true) (hy : z.cls ≠ "java/lang/invoke/MethodHandle" /\ z.cls ≠ "java/lang/invoke/VarHandle") (eT : T.heap = h)  (M : own_M l z bz mz rz rm [] Z h n0 as QQ) (hst : S = as.toList.reverse ++ rest)  (hln : ∀ sig, parseMethodDescriptor z.desc = some sig -> as.toList.length = sig.parameters.length) (hsz : Ls.size = ml) (N : Fr n0 locs) (W : Nat) (hW : (rest.map fun v => v.category).sum = W) (hr : (rm.frames + 1 <= R.frames /\ W + (mz + 11) + rm.locals <= R.locals) /\ cells + rm.cells <= R.cells /\ slots + rm.slots <= R.slots)
    (G : ∀ v T' h' L', Fr n0 L' -> QQ v h' -> T'.heap = h' -> Stand p l e R s m args below meth c T' L' (cells + rm.cells) (slots + rm.slots) -> own_G p.tables e below Q (T'.setTop (mkF m nx Ls (v.toList ++ rest)))) : own_G p.tables e below Q (T.setTop (mkF m pc Ls S)) := by
  cases K.n D
  subst hst
  obtain ⟨v, vm₁, B, q1, q2, q3, q4⟩ := Jvm.LawKit.callS X K.1 (y := z) K.ow (mvT K.wz w1) (mvT K.wz w2) (mvT K.wz wi) (mvT K.wz wc) hy (backOf (W := W) (Q := fun v h L => QQ v h /\ Fr n0 L) M K.wz wc wi hr.1.1 hr.1.2) (g := mkF m pc Ls (as.toList.reverse ++ rest)) rfl (hsz.trans K.lm.symm) (argsL := as.toList) hln rfl (by show 2 * 0 + _ <= _; omega) (K.d D) (fun _ _ => ⟨(by cases as; rfl), eT, hr.2.1, hr.2.2⟩)
  exact own_cb N ⟨v, vm₁, B, q1, q2, q3, q4 _ (Steps.refl _)⟩ G
theorem oFc (X : Stand p l e R s m args below meth c T locs cells slots) (K : own_K p c L Z s own m meth ml rt nme) {ct : Nat} (D : own_get L pc = some (.invokeinterface index ct, 5, nx, t)) (w1 : (Cond.methodLink own index y).before a0 Z = true) (w2 : (Cond.declares y).before a0 Z = true) (w5 : (Cond.interfaceMethod y.cls y.cls y.name y.desc).before args s = true) (w3 : (Cond.selects C y z).before a0 Z = true) (w4 : (Cond.instanceMethod z).before a0 Z = true) (w6 : (Cond.publicMethod z).before a0 Z = true) (w7 : (Cond.unhidden C y.name y.desc).before a0 Z = true) (w8 : (Cond.castable C y.cls).before a0 Z = true) (wc : (Cond.code z bz mz rz).before a0 Z = true) (wi : (Cond.initialized z.cls).before a0 Z = true) (hy : y.cls ≠ "java/lang/invoke/MethodHandle" /\ y.cls ≠ "java/lang/invoke/VarHandle") (eT : T.heap = h) (E : Exa Z h o C) (M : own_M l z bz mz rz rm [] Z h n0 as QQ) (hst : S = (as.toList.drop 1).reverse ++ .ref o :: rest) (has : as = (.ref o :: as.toList.drop 1).toArray) (hln : ∀ sig, parseMethodDescriptor y.desc = some sig -> (as.toList.drop 1).length = sig.parameters.length) (hsz : Ls.size = ml) (N : Fr n0 locs) (W : Nat) (hW : (rest.map fun v => v.category).sum = W) (hr : (rm.frames + 1 <= R.frames /\ W + (mz + 11) + rm.locals <= R.locals) /\ cells + rm.cells <= R.cells /\ slots + rm.slots <= R.slots)
    (G : ∀ v T' h' L', Fr n0 L' -> QQ v h' -> T'.heap = h' -> Stand p l e R s m args below meth c T' L' (cells + rm.cells) (slots + rm.slots) -> own_G p.tables e below Q (T'.setTop (mkF m nx Ls (v.toList ++ rest)))) : own_G p.tables e below Q (T.setTop (mkF m pc Ls S)) := by
  cases K.n D
  subst hst
  obtain ⟨cB, kB, i1, i2, i3⟩ := isOf K.wz eT E
  exact own_cb N (X.interfaceBack K.1 (xi := y) (y := z) K.ow (mvT K.wz w1) (mvT K.wz w2) w5 (mvT K.wz w3) (mvT K.wz w4) (mvT K.wz w6) (mvT K.wz w7) (mvT K.wz w8) hy (backOf (W := W) (Q := fun v h L => QQ v h /\ Fr n0 L) M K.wz wc wi hr.1.1 hr.1.2) i1 i2 i3 (g := mkF m pc Ls ((as.toList.drop 1).reverse ++ .ref o :: rest)) rfl (hsz.trans K.lm.symm) (Steps.refl _) (argsL := (as.toList.drop 1)) hln rfl (by show 2 * 0 + _ <= _; omega) (K.d D) (fun _ _ => ⟨has.symm, eT, hr.2.1, hr.2.2⟩)) G
theorem oSc (X : Stand p l e R s m args below meth c T locs cells slots) (K : own_K p c L Z s own m meth ml rt nme) (D : own_get L pc = some (.invokespecial index, 3, nx, t)) (w1 : (Cond.methodLink own index z).before a0 Z = true) (w2 : (Cond.sameMethod z.cls z.cls z.name z.desc).before a0 Z = true) (w4 : (Cond.instanceMethod z).before a0 Z = true) (w3 : (Cond.superclass own z.cls).before a0 Z = true) (wc : (Cond.code z bz mz rz).before a0 Z = true) (wi : (Cond.initialized z.cls).before a0 Z = true) (hy : z.name ≠ "<init>") (eT : T.heap = h) (E : Exa Z h o C) (M : own_M l z bz mz rz rm [] Z h n0 as QQ) (hst : S = (as.toList.drop 1).reverse ++ .ref o :: rest) (has : as = (.ref o :: as.toList.drop 1).toArray) (hln : ∀ sig, parseMethodDescriptor z.desc = some sig -> (as.toList.drop 1).length = sig.parameters.length) (hsz : Ls.size = ml) (N : Fr n0 locs) (W : Nat) (hW : (rest.map fun v => v.category).sum = W) (hr : (rm.frames + 1 <= R.frames /\ W + (mz + 11) + rm.locals <= R.locals) /\ cells + rm.cells <= R.cells /\ slots + rm.slots <= R.slots)
    (G : ∀ v T' h' L', Fr n0 L' -> QQ v h' -> T'.heap = h' -> Stand p l e R s m args below meth c T' L' (cells + rm.cells) (slots + rm.slots) -> own_G p.tables e below Q (T'.setTop (mkF m nx Ls (v.toList ++ rest)))) : own_G p.tables e below Q (T.setTop (mkF m pc Ls S)) := by
  cases K.n D
  subst hst
  exact own_cb N (superBack X K.1 K.wz (y := z) K.ow w1 w2 w4 w3 hy (backOf (W := W) (Q := fun v h L => QQ v h /\ Fr n0 L) M K.wz wc wi hr.1.1 hr.1.2) eT (Ins.self E) (g := mkF m pc Ls ((as.toList.drop 1).reverse ++ .ref o :: rest)) rfl (hsz.trans K.lm.symm) wc (argsL := (as.toList.drop 1)) hln rfl (by show 2 * 0 + _ <= _; omega) (K.d D) (fun _ _ => ⟨has.symm, eT, hr.2.1, hr.2.2⟩)) G
theorem oVw {vm0 : Vm} {EL : List (String × Nat)} {k0 : Nat} (X : Stand p l e R (s.setVm vm0) m args below meth c T locs cells slots) (K : own_K p c L Z (s.setVm vm0) own m meth ml rt nme) (hS : s.Since vm0 k0) (hk : k0 <= h.size) (hEL : EW Z a0 EL) (RR : CHr Z EL s.vm h0 vm0 h) (D : own_get L pc = some (.invokevirtual index, 3, nx, t)) (w1 : (Cond.methodLink own index y).before a0 Z = true) (w2 : (Cond.declares y).before a0 Z = true) (nf : NotFace (s.setVm vm0) y) (w3 : (Cond.selects C y z).before a0 Z = true) (w4 : (Cond.instanceMethod z).before a0 Z = true) (wc : (Cond.code z bz mz rz).before a0 Z = true) (wi : (Cond.initialized z.cls).before a0 Z = true) (hy : y.cls ≠ "java/lang/invoke/MethodHandle" /\ y.cls ≠ "java/lang/invoke/VarHandle") (eT : T.heap = h) (E : Exa Z h o C) (M : own_MW EL l z bz mz rz rm [] Z h n0 as QQ) (hst : S = (as.toList.drop 1).reverse ++ .ref o :: rest) (has : as = (.ref o :: as.toList.drop 1).toArray) (hln : ∀ sig, parseMethodDescriptor y.desc = some sig -> (as.toList.drop 1).length = sig.parameters.length) (hsz : Ls.size = ml) (N : Fr n0 locs) (W : Nat) (hW : (rest.map fun v => v.category).sum = W) (hr : (rm.frames + 1 <= R.frames /\ W + (mz + 11) + rm.locals <= R.locals) /\ cells + rm.cells <= R.cells /\ slots + rm.slots <= R.slots)
    (G : ∀ v T' h' L', Fr n0 L' -> QQ v h' -> T'.heap = h' -> Stand p l e R (s.setVm T'.vm) m args below meth c T' L' (cells + rm.cells) (slots + rm.slots) -> s.Since T'.vm h'.size -> own_K p c L Z (s.setVm T'.vm) own m meth ml rt nme -> CHr Z EL s.vm h0 T'.vm h' -> own_G p.tables e below Q (T'.setTop (mkF m nx Ls (v.toList ++ rest)))) : own_G p.tables e below Q (T.setTop (mkF m pc Ls S)) := by
  cases K.n D
  subst hst
  obtain ⟨cB, kB, i1, i2, i3⟩ := isOf K.wz eT E
  exact own_cbW K N hS (by rw [eT]; exact hk) RR (X.virtualBackS K.1 (y := y) (z := z) K.ow (mvT K.wz w1) (mvT K.wz w2) nf (mvT K.wz w3) (mvT K.wz w4) hy (backOfSH (s := s) (vm0 := vm0) (W := W) (Q := fun v h L => QQ v h /\ Fr n0 L) M K.wz wc wi hr.1.1 hr.1.2 hEL RR.1) i1 i3 (g := mkF m pc Ls ((as.toList.drop 1).reverse ++ .ref o :: rest)) rfl (hsz.trans K.lm.symm) (Steps.refl _) (argsL := (as.toList.drop 1)) hln rfl (by show 2 * 0 + _ <= _; omega) (K.d D) (fun _ _ => ⟨has.symm, eT, hr.2.1, hr.2.2⟩)) G
theorem oUw {vm0 : Vm} {EL : List (String × Nat)} {k0 : Nat} (X : Stand p l e R (s.setVm vm0) m args below meth c T locs cells slots) (K : own_K p c L Z (s.setVm vm0) own m meth ml rt nme) (hS : s.Since vm0 k0) (hk : k0 <= h.size) (hEL : EW Z a0 EL) (RR : CHr Z EL s.vm h0 vm0 h) (D : own_get L pc = some (.invokevirtual index, 3, nx, t)) (w1 : (Cond.methodLink own index y).before a0 Z = true) (w2 : (Cond.sameMethod y.cls I y.name y.desc).before a0 Z = true) (w5 : (Cond.declares ⟨I, y.name, y.desc⟩).before a0 Z = true) (w3 : (Cond.selects C y z).before a0 Z = true) (w4 : (Cond.instanceMethod z).before a0 Z = true) (wc : (Cond.code z bz mz rz).before a0 Z = true) (wi : (Cond.initialized z.cls).before a0 Z = true) (hy : I ≠ "java/lang/invoke/MethodHandle" /\ I ≠ "java/lang/invoke/VarHandle") (eT : T.heap = h) (E : Exa Z h o C) (M : own_MW EL l z bz mz rz rm [] Z h n0 as QQ) (hst : S = (as.toList.drop 1).reverse ++ .ref o :: rest) (has : as = (.ref o :: as.toList.drop 1).toArray) (hln : ∀ sig, parseMethodDescriptor y.desc = some sig -> (as.toList.drop 1).length = sig.parameters.length) (hsz : Ls.size = ml) (N : Fr n0 locs) (W : Nat) (hW : (rest.map fun v => v.category).sum = W) (hr : (rm.frames + 1 <= R.frames /\ W + (mz + 11) + rm.locals <= R.locals) /\ cells + rm.cells <= R.cells /\ slots + rm.slots <= R.slots)
    (G : ∀ v T' h' L', Fr n0 L' -> QQ v h' -> T'.heap = h' -> Stand p l e R (s.setVm T'.vm) m args below meth c T' L' (cells + rm.cells) (slots + rm.slots) -> s.Since T'.vm h'.size -> own_K p c L Z (s.setVm T'.vm) own m meth ml rt nme -> CHr Z EL s.vm h0 T'.vm h' -> own_G p.tables e below Q (T'.setTop (mkF m nx Ls (v.toList ++ rest)))) : own_G p.tables e below Q (T.setTop (mkF m pc Ls S)) := by
  cases K.n D
  subst hst
  obtain ⟨cB, kB, i1, i2, i3⟩ := isOf K.wz eT E
  exact own_cbW K N hS (by rw [eT]; exact hk) RR (own_virtUpS X K.1 (owner := I) (x := y) (y := z) K.ow (mvT K.wz w1) (mvT K.wz w2) (mvT K.wz w5) hy (mvT K.wz w3) (mvT K.wz w4) (backOfSH (s := s) (vm0 := vm0) (W := W) (Q := fun v h L => QQ v h /\ Fr n0 L) M K.wz wc wi hr.1.1 hr.1.2 hEL RR.1) i1 i3 (g := mkF m pc Ls ((as.toList.drop 1).reverse ++ .ref o :: rest)) rfl (hsz.trans K.lm.symm) (Steps.refl _) (argsL := (as.toList.drop 1)) hln rfl (by show 2 * 0 + _ <= _; omega) (K.d D) (fun _ _ => ⟨has.symm, eT, hr.2.1, hr.2.2⟩)) G
theorem oPw {vm0 : Vm} {EL : List (String × Nat)} {k0 : Nat} (X : Stand p l e R (s.setVm vm0) m args below meth c T locs cells slots) (K : own_K p c L Z (s.setVm vm0) own m meth ml rt nme) (hS : s.Since vm0 k0) (hk : k0 <= h.size) (hEL : EW Z a0 EL) (RR : CHr Z EL s.vm h0 vm0 h) (D : own_get L pc = some (.invokevirtual index, 3, nx, t)) (w1 : (Cond.methodLink own index z).before a0 Z = true) (w4 : (Cond.instanceMethod z).before a0 Z = true) (w3 : (Cond.selects z.cls z z).before a0 Z = true) (w2 : (Cond.privateMethod z).before a0 Z = true) (wc : (Cond.code z bz mz rz).before a0 Z = true) (wi : (Cond.initialized z.cls).before a0 Z = true) (hy : z.cls ≠ "java/lang/invoke/MethodHandle" /\ z.cls ≠ "java/lang/invoke/VarHandle") (eT : T.heap = h) (E : Exa Z h o C) (M : own_MW EL l z bz mz rz rm [] Z h n0 as QQ) (hst : S = (as.toList.drop 1).reverse ++ .ref o :: rest) (has : as = (.ref o :: as.toList.drop 1).toArray) (hln : ∀ sig, parseMethodDescriptor z.desc = some sig -> (as.toList.drop 1).length = sig.parameters.length) (hsz : Ls.size = ml) (N : Fr n0 locs) (W : Nat) (hW : (rest.map fun v => v.category).sum = W) (hr : (rm.frames + 1 <= R.frames /\ W + (mz + 11) + rm.locals <= R.locals) /\ cells + rm.cells <= R.cells /\ slots + rm.slots <= R.slots)
    (G : ∀ v T' h' L', Fr n0 L' -> QQ v h' -> T'.heap = h' -> Stand p l e R (s.setVm T'.vm) m args below meth c T' L' (cells + rm.cells) (slots + rm.slots) -> s.Since T'.vm h'.size -> own_K p c L Z (s.setVm T'.vm) own m meth ml rt nme -> CHr Z EL s.vm h0 T'.vm h' -> own_G p.tables e below Q (T'.setTop (mkF m nx Ls (v.toList ++ rest)))) : own_G p.tables e below Q (T.setTop (mkF m pc Ls S)) := by
  cases K.n D
  subst hst
  obtain ⟨cq, i1, i2⟩ := Exa.cell E
  exact own_cbW K N hS (by rw [eT]; exact hk) RR (X.privateBackS K.1 (y := z) K.ow (mvT K.wz w1) (mvT K.wz w4) (mvT K.wz w3) (Cond.privateMethod_at (mvP K.wz w2 (args := #[]))) (mvT K.wz wc) hy (backOfSH (s := s) (vm0 := vm0) (W := W) (Q := fun v h L => QQ v h /\ Fr n0 L) M K.wz wc wi hr.1.1 hr.1.2 hEL RR.1) (g := mkF m pc Ls ((as.toList.drop 1).reverse ++ .ref o :: rest)) rfl (hsz.trans K.lm.symm) (Steps.refl _) (a := o) (by rw [eT]; exact i1) i2 (argsL := (as.toList.drop 1)) hln rfl (by show 2 * 0 + _ <= _; omega) (K.d D) (fun _ _ => ⟨has.symm, eT, hr.2.1, hr.2.2⟩)) G
theorem oNw {vm0 : Vm} {EL : List (String × Nat)} {k0 : Nat} (X : Stand p l e R (s.setVm vm0) m args below meth c T locs cells slots) (K : own_K p c L Z (s.setVm vm0) own m meth ml rt nme) (hS : s.Since vm0 k0) (hk : k0 <= h.size) (hEL : EW Z a0 EL) (RR : CHr Z EL s.vm h0 vm0 h) (D : own_get L pc = some (.invokespecial index, 3, nx, t)) (w1 : (Cond.methodLink own index z).before a0 Z = true) (w4 : (Cond.instanceMethod z).before a0 Z = true) (wc : (Cond.code z bz mz none).before a0 Z = true) (wi : (Cond.initialized z.cls).before a0 Z = true) (hy : z.cls ≠ "java/lang/invoke/MethodHandle" /\ z.cls ≠ "java/lang/invoke/VarHandle") (hz : z.name = "<init>") (eT : T.heap = h)  (M : own_MW EL l z bz mz none rm [] Z h n0 as QQ) (hst : S = (as.toList.drop 1).reverse ++ .ref o :: rest) (has : as = (.ref o :: as.toList.drop 1).toArray) (hln : ∀ sig, parseMethodDescriptor z.desc = some sig -> (as.toList.drop 1).length = sig.parameters.length) (hsz : Ls.size = ml) (N : Fr n0 locs) (W : Nat) (hW : (rest.map fun v => v.category).sum = W) (hr : (rm.frames + 1 <= R.frames /\ W + (mz + 11) + rm.locals <= R.locals) /\ cells + rm.cells <= R.cells /\ slots + rm.slots <= R.slots)
    (G : ∀ v T' h' L', Fr n0 L' -> QQ v h' -> T'.heap = h' -> Stand p l e R (s.setVm T'.vm) m args below meth c T' L' (cells + rm.cells) (slots + rm.slots) -> s.Since T'.vm h'.size -> own_K p c L Z (s.setVm T'.vm) own m meth ml rt nme -> CHr Z EL s.vm h0 T'.vm h' -> own_G p.tables e below Q (T'.setTop (mkF m nx Ls (v.toList ++ rest)))) : own_G p.tables e below Q (T.setTop (mkF m pc Ls S)) := by
  cases K.n D
  subst hst
  exact own_cbW K N hS (by rw [eT]; exact hk) RR (X.specialBackS K.1 (y := z) hz K.ow (mvT K.wz w1) (mvT K.wz w4) (mvT K.wz wc) hy (backOfSH (s := s) (vm0 := vm0) (W := W) (Q := fun v h L => QQ v h /\ Fr n0 L) M K.wz wc wi hr.1.1 hr.1.2 hEL RR.1) (g := mkF m pc Ls ((as.toList.drop 1).reverse ++ .ref o :: rest)) rfl (hsz.trans K.lm.symm) (Steps.refl _) (a := o) (argsL := (as.toList.drop 1)) hln rfl (by show 2 * 0 + _ <= _; omega) (K.d D) (fun _ _ => ⟨has.symm, eT, hr.2.1, hr.2.2⟩)) G
theorem oTw {vm0 : Vm} {EL : List (String × Nat)} {k0 : Nat} (X : Stand p l e R (s.setVm vm0) m args below meth c T locs cells slots) (K : own_K p c L Z (s.setVm vm0) own m meth ml rt nme) (hS : s.Since vm0 k0) (hk : k0 <= h.size) (hEL : EW Z a0 EL) (RR : CHr Z EL s.vm h0 vm0 h) (D : own_get L pc = some (.invokestatic index, 3, nx, t)) (w1 : (Cond.methodLink own index z).before a0 Z = true) (w2 : (Cond.static z).before a0 Z = true) (wc : (Cond.code z bz mz rz).before a0 Z = true) (wi : (Cond.initialized z.cls).before a0 Z = true) (hy : z.cls ≠ "java/lang/invoke/MethodHandle" /\ z.cls ≠ "java/lang/invoke/VarHandle") (eT : T.heap = h)  (M : own_MW EL l z bz mz rz rm [] Z h n0 as QQ) (hst : S = as.toList.reverse ++ rest)  (hln : ∀ sig, parseMethodDescriptor z.desc = some sig -> as.toList.length = sig.parameters.length) (hsz : Ls.size = ml) (N : Fr n0 locs) (W : Nat) (hW : (rest.map fun v => v.category).sum = W) (hr : (rm.frames + 1 <= R.frames /\ W + (mz + 11) + rm.locals <= R.locals) /\ cells + rm.cells <= R.cells /\ slots + rm.slots <= R.slots)
    (G : ∀ v T' h' L', Fr n0 L' -> QQ v h' -> T'.heap = h' -> Stand p l e R (s.setVm T'.vm) m args below meth c T' L' (cells + rm.cells) (slots + rm.slots) -> s.Since T'.vm h'.size -> own_K p c L Z (s.setVm T'.vm) own m meth ml rt nme -> CHr Z EL s.vm h0 T'.vm h' -> own_G p.tables e below Q (T'.setTop (mkF m nx Ls (v.toList ++ rest)))) : own_G p.tables e below Q (T.setTop (mkF m pc Ls S)) := by
  cases K.n D
  subst hst
  exact own_cbW K N hS (by rw [eT]; exact hk) RR (callSS X K.1 (y := z) K.ow (mvT K.wz w1) (mvT K.wz w2) (mvT K.wz wi) (mvT K.wz wc) hy (backOfSH (s := s) (vm0 := vm0) (W := W) (Q := fun v h L => QQ v h /\ Fr n0 L) M K.wz wc wi hr.1.1 hr.1.2 hEL RR.1) (g := mkF m pc Ls (as.toList.reverse ++ rest)) rfl (hsz.trans K.lm.symm) (argsL := as.toList) hln rfl (by show 2 * 0 + _ <= _; omega) (K.d D) (fun _ _ => ⟨(by cases as; rfl), eT, hr.2.1, hr.2.2⟩)) G
end OwnCalls
variable {l : Launch} {Z : State} {a0 : Array Value} {ws : List Jvm.Cond} {h0 : Heap} {n0 : Nat}
theorem own_e1_1 (m : MethodId) {a0 : Value} (h : a0.category = 1) : entryFrame m #[a0] 1 = mkF m 0 #[.val a0] [] := by simp [entryFrame, mkF, argsToLocals, h]
theorem own_pn0 : plainName "java/lang/Record" = true := by first | (simp [plainName, overriddenIn]; done) | decide +kernel
def own_L13 : own_T := [(0, .aload_n 0, 1, 1, 0), (1, .invokespecial 1, 3, 4, 0), (4, .return_, 1, 5, 0)]
theorem own_t13 : own_TB jdk_30_method_1_code own_L13 := by decide +kernel
theorem own_pn1 : plainName "java/util/AbstractMap" = true := by first | (simp [plainName, overriddenIn]; done) | decide +kernel
def own_L5 : own_T := [(0, .aload_n 0, 1, 1, 0), (1, .invokespecial 1, 3, 4, 0), (4, .return_, 1, 5, 0)]
theorem own_t5 : own_TB jdk_71_method_1_code own_L5 := by decide +kernel
theorem own_pn2 : plainName "java/util/TreeMap" = true := by first | (simp [plainName, overriddenIn]; done) | decide +kernel
def own_L4 : own_T := [(0, .aload_n 0, 1, 1, 0), (1, .invokespecial 1, 3, 4, 0), (4, .aload_n 0, 1, 5, 0), (5, .iconst 0, 1, 6, 0), (6, .putfield 7, 3, 9, 0), (9, .aload_n 0, 1, 10, 0), (10, .iconst 0, 1, 11, 0), (11, .putfield 13, 3, 14, 0), (14, .aload_n 0, 1, 15, 0), (15, .aconst_null, 1, 16, 0), (16, .putfield 16, 3, 19, 0), (19, .return_, 1, 20, 0)]
theorem own_t4 : own_TB jdk_2729_method_1_code own_L4 := by decide +kernel
theorem own_pd0 : parseMethodDescriptor "()V" = some ⟨[], none⟩ := by decide +kernel
theorem own_pn3 : plainName "convoke/protocol/Bounds" = true := by first | (simp [plainName, overriddenIn]; done) | decide +kernel
def own_L8 : own_T := [(0, .iload_n 0, 1, 1, 0), (1, .ifCond .ge 17, 3, 4, 18), (18, .return_, 1, 19, 0)]
theorem own_t8 : own_TB prog_61_method_2_code own_L8 := by decide +kernel
theorem own_e3_3 (m : MethodId) {a0 a1 a2 : Value} (h : a0.category = 1 /\ a1.category = 1 /\ a2.category = 1) : entryFrame m #[a0, a1, a2] 3 = mkF m 0 #[.val a0, .val a1, .val a2] [] := by simp [entryFrame, mkF, argsToLocals, h]
def own_L7 : own_T := [(0, .iload_n 2, 1, 1, 0), (1, .invokestatic 16, 3, 4, 0), (4, .iload_n 1, 1, 5, 0), (5, .i2l, 1, 6, 0), (6, .ldc2_w 22, 3, 9, 0), (9, .iload_n 2, 1, 10, 0), (10, .i2l, 1, 11, 0), (11, .lmul, 1, 12, 0), (12, .lcmp, 1, 13, 0), (13, .ifCond .gt 19, 3, 16, 32), (32, .return_, 1, 33, 0)]
theorem own_t7 : own_TB prog_61_method_3_code own_L7 := by decide +kernel
theorem own_pd1 : parseMethodDescriptor "(I)V" = some ⟨[.int], none⟩ := by decide +kernel
theorem own_pn4 : plainName "convoke/model/Parties" = true := by first | (simp [plainName, overriddenIn]; done) | decide +kernel
def own_L9 : own_T := [(0, .iload_n 1, 1, 1, 0), (1, .iconst 1, 1, 2, 0), (2, .if_icmp .lt 8, 3, 5, 10), (5, .iload_n 1, 1, 6, 0), (6, .iload_n 2, 1, 7, 0), (7, .if_icmp .le 19, 3, 10, 26), (26, .return_, 1, 27, 0)]
theorem own_t9 : own_TB prog_25_method_2_code own_L9 := by decide +kernel
theorem own_e2_2 (m : MethodId) {a0 a1 : Value} (h : a0.category = 1 /\ a1.category = 1) : entryFrame m #[a0, a1] 2 = mkF m 0 #[.val a0, .val a1] [] := by simp [entryFrame, mkF, argsToLocals, h]
theorem own_pn5 : plainName "convoke/protocol/Bracha" = true := by first | (simp [plainName, overriddenIn]; done) | decide +kernel
def own_L6 : own_T := [(0, .ldc 72, 2, 2, 0), (2, .iload_n 0, 1, 3, 0), (3, .iload_n 1, 1, 4, 0), (4, .invokestatic 74, 3, 7, 0), (7, .return_, 1, 8, 0)]
theorem own_t6 : own_TB prog_62_method_5_code own_L6 := by decide +kernel
theorem own_pd2 : parseMethodDescriptor "(Ljava/lang/String;II)V" = some ⟨[(.object "java/lang/String"), .int, .int], none⟩ := by decide +kernel
theorem own_e4_4 (m : MethodId) {a0 a1 a2 a3 : Value} (h : a0.category = 1 /\ a1.category = 1 /\ a2.category = 1 /\ a3.category = 1) : entryFrame m #[a0, a1, a2, a3] 4 = mkF m 0 #[.val a0, .val a1, .val a2, .val a3] [] := by simp [entryFrame, mkF, argsToLocals, h]
theorem own_pn6 : plainName "convoke/protocol/Seat" = true := by first | (simp [plainName, overriddenIn]; done) | decide +kernel
def own_L12 : own_T := [(0, .aload_n 0, 1, 1, 0), (1, .invokespecial 1, 3, 4, 0), (4, .ldc 7, 2, 6, 0), (6, .iload_n 2, 1, 7, 0), (7, .iload_n 1, 1, 8, 0), (8, .invokestatic 9, 3, 11, 0), (11, .ldc 15, 2, 13, 0), (13, .iload_n 3, 1, 14, 0), (14, .iload_n 1, 1, 15, 0), (15, .invokestatic 9, 3, 18, 0), (18, .aload_n 0, 1, 19, 0), (19, .iload_n 1, 1, 20, 0), (20, .putfield 17, 3, 23, 0), (23, .aload_n 0, 1, 24, 0), (24, .iload_n 2, 1, 25, 0), (25, .putfield 23, 3, 28, 0), (28, .aload_n 0, 1, 29, 0), (29, .iload_n 3, 1, 30, 0), (30, .putfield 25, 3, 33, 0), (33, .return_, 1, 34, 0)]
theorem own_t12 : own_TB prog_80_method_1_code own_L12 := by decide +kernel
def own_L11 : own_T := [(0, .iload_n 0, 1, 1, 0), (1, .iload_n 1, 1, 2, 0), (2, .invokestatic 63, 3, 5, 0), (5, .new 67, 3, 8, 0), (8, .dup, 1, 9, 0), (9, .iload_n 0, 1, 10, 0), (10, .iload_n 2, 1, 11, 0), (11, .iload_n 3, 1, 12, 0), (12, .invokespecial 69, 3, 15, 0), (15, .areturn, 1, 16, 0)]
theorem own_t11 : own_TB prog_62_method_3_code own_L11 := by decide +kernel
theorem own_pd3 : parseMethodDescriptor "(II)V" = some ⟨[.int, .int], none⟩ := by decide +kernel
theorem own_pd4 : parseMethodDescriptor "(III)V" = some ⟨[.int, .int, .int], none⟩ := by decide +kernel
theorem own_pn7 : plainName "convoke/protocol/Votes" = true := by first | (simp [plainName, overriddenIn]; done) | decide +kernel
def own_L15 : own_T := [(0, .aload_n 0, 1, 1, 0), (1, .invokespecial 1, 3, 4, 0), (4, .aload_n 0, 1, 5, 0), (5, .iconst 1, 1, 6, 0), (6, .anewarray 7, 3, 9, 0), (9, .putfield 9, 3, 12, 0), (12, .aload_n 0, 1, 13, 0), (13, .iconst 1, 1, 14, 0), (14, .newarray .int, 2, 16, 0), (16, .putfield 15, 3, 19, 0), (19, .aload_n 0, 1, 20, 0), (20, .iload_n 1, 1, 21, 0), (21, .iconst 1, 1, 22, 0), (22, .iadd, 1, 23, 0), (23, .newarray .boolean, 2, 25, 0), (25, .putfield 19, 3, 28, 0), (28, .return_, 1, 29, 0)]
theorem own_t15 : own_TB prog_88_method_1_code own_L15 := by decide +kernel
theorem own_e5_5 (m : MethodId) {a0 a1 a2 a3 a4 : Value} (h : a0.category = 1 /\ a1.category = 1 /\ a2.category = 1 /\ a3.category = 1 /\ a4.category = 1) : entryFrame m #[a0, a1, a2, a3, a4] 5 = mkF m 0 #[.val a0, .val a1, .val a2, .val a3, .val a4] [] := by simp [entryFrame, mkF, argsToLocals, h]
theorem own_pn8 : plainName "convoke/protocol/BrachaFamily" = true := by first | (simp [plainName, overriddenIn]; done) | decide +kernel
def own_L14 : own_T := [(0, .aload_n 0, 1, 1, 0), (1, .invokespecial 1, 3, 4, 0), (4, .aload_n 0, 1, 5, 0), (5, .aload_n 1, 1, 6, 0), (6, .putfield 7, 3, 9, 0), (9, .aload_n 0, 1, 10, 0), (10, .aload_n 2, 1, 11, 0), (11, .putfield 13, 3, 14, 0), (14, .aload_n 0, 1, 15, 0), (15, .aload_n 3, 1, 16, 0), (16, .putfield 17, 3, 19, 0), (19, .aload_n 0, 1, 20, 0), (20, .aload 4, 2, 22, 0), (22, .putfield 21, 3, 25, 0), (25, .return_, 1, 26, 0)]
theorem own_t14 : own_TB prog_63_method_1_code own_L14 := by decide +kernel
theorem own_e6_6 (m : MethodId) {a0 a1 a2 a3 a4 a5 : Value} (h : a0.category = 1 /\ a1.category = 1 /\ a2.category = 1 /\ a3.category = 1 /\ a4.category = 1 /\ a5.category = 1) : entryFrame m #[a0, a1, a2, a3, a4, a5] 6 = mkF m 0 #[.val a0, .val a1, .val a2, .val a3, .val a4, .val a5] [] := by simp [entryFrame, mkF, argsToLocals, h]
def own_L10 : own_T := [(0, .aload_n 0, 1, 1, 0), (1, .iload_n 1, 1, 2, 0), (2, .iload_n 2, 1, 3, 0), (3, .iload_n 3, 1, 4, 0), (4, .iload 4, 2, 6, 0), (6, .invokestatic 7, 3, 9, 0), (9, .getstatic 11, 3, 12, 0), (12, .getstatic 17, 3, 15, 0), (15, .getstatic 21, 3, 18, 0), (18, .invokespecial 24, 3, 21, 0), (21, .aload_n 0, 1, 22, 0), (22, .iload 5, 2, 24, 0), (24, .putfield 29, 3, 27, 0), (27, .aload_n 0, 1, 28, 0), (28, .iload_n 1, 1, 29, 0), (29, .i2l, 1, 30, 0), (30, .iload_n 2, 1, 31, 0), (31, .i2l, 1, 32, 0), (32, .ladd, 1, 33, 0), (33, .ldc2_w 33, 3, 36, 0), (36, .ldiv, 1, 37, 0), (37, .lconst 1, 1, 38, 0), (38, .ladd, 1, 39, 0), (39, .l2i, 1, 40, 0), (40, .putfield 35, 3, 43, 0), (43, .aload_n 0, 1, 44, 0), (44, .iload_n 2, 1, 45, 0), (45, .iconst 1, 1, 46, 0), (46, .iadd, 1, 47, 0), (47, .putfield 39, 3, 50, 0), (50, .aload_n 0, 1, 51, 0), (51, .iconst 2, 1, 52, 0), (52, .iload_n 2, 1, 53, 0), (53, .imul, 1, 54, 0), (54, .iconst 1, 1, 55, 0), (55, .iadd, 1, 56, 0), (56, .putfield 42, 3, 59, 0), (59, .aload_n 0, 1, 60, 0), (60, .iload 5, 2, 62, 0), (62, .ifCond .eq 10, 3, 65, 72), (72, .aload_n 0, 1, 73, 0), (73, .getfield 42, 3, 76, 0), (76, .putfield 45, 3, 79, 0), (79, .aload_n 0, 1, 80, 0), (80, .new 48, 3, 83, 0), (83, .dup, 1, 84, 0), (84, .iload_n 1, 1, 85, 0), (85, .invokespecial 50, 3, 88, 0), (88, .putfield 53, 3, 91, 0), (91, .aload_n 0, 1, 92, 0), (92, .new 48, 3, 95, 0), (95, .dup, 1, 96, 0), (96, .iload_n 1, 1, 97, 0), (97, .invokespecial 50, 3, 100, 0), (100, .putfield 57, 3, 103, 0), (103, .aload_n 0, 1, 104, 0), (104, .iload 5, 2, 106, 0), (106, .ifCond .eq 14, 3, 109, 120), (120, .aconst_null, 1, 121, 0), (121, .putfield 60, 3, 124, 0), (124, .return_, 1, 125, 0)]
theorem own_t10 : own_TB prog_62_method_2_code own_L10 := by decide +kernel
theorem own_pd5 : parseMethodDescriptor "(IIII)Lconvoke/protocol/Seat;" = some ⟨[.int, .int, .int, .int], some (.object "convoke/protocol/Seat")⟩ := by decide +kernel
theorem own_pd6 : parseMethodDescriptor "(Lconvoke/protocol/Seat;Lconvoke/model/Kinds;Lconvoke/model/Message$Kind;Lconvoke/model/Message$Kind;)V" = some ⟨[(.object "convoke/protocol/Seat"), (.object "convoke/model/Kinds"), (.object "convoke/model/Message$Kind"), (.object "convoke/model/Message$Kind")], none⟩ := by decide +kernel
theorem own_pn9 : plainName "java/lang/String" = true := by first | (simp [plainName, overriddenIn]; done) | decide +kernel
def own_L20 : own_T := [(0, .aload_n 0, 1, 1, 0), (1, .getfield 9, 3, 4, 0), (4, .arraylength, 1, 5, 0), (5, .ifCond .ne 7, 3, 8, 12), (12, .iconst 0, 1, 13, 0), (13, .ireturn, 1, 14, 0)]
theorem own_t20 : own_TB jdk_42_method_55_code own_L20 := by decide +kernel
def own_L22 : own_T := [(0, .getstatic 38, 3, 3, 0), (3, .ifCond .eq 10, 3, 6, 13), (6, .aload_n 0, 1, 7, 0), (7, .getfield 15, 3, 10, 0), (10, .goto 4, 3, 13, 14), (14, .ireturn, 1, 15, 0)]
theorem own_t22 : own_TB jdk_42_method_152_code own_L22 := by decide +kernel
def own_L21 : own_T := [(0, .aload_n 0, 1, 1, 0), (1, .getfield 9, 3, 4, 0), (4, .arraylength, 1, 5, 0), (5, .aload_n 0, 1, 6, 0), (6, .invokevirtual 335, 3, 9, 0), (9, .ishr, 1, 10, 0), (10, .ireturn, 1, 11, 0)]
theorem own_t21 : own_TB jdk_42_method_54_code own_L21 := by decide +kernel
theorem own_pd7 : parseMethodDescriptor "()B" = some ⟨[], some .byte⟩ := by decide +kernel
def own_L24 : own_T := [(0, .getstatic 38, 3, 3, 0), (3, .ifCond .eq 14, 3, 6, 17), (6, .aload_n 0, 1, 7, 0), (7, .getfield 15, 3, 10, 0), (10, .ifCond .ne 7, 3, 13, 17), (13, .iconst 1, 1, 14, 0), (14, .goto 4, 3, 17, 18), (18, .ireturn, 1, 19, 0)]
theorem own_t24 : own_TB jdk_42_method_154_code own_L24 := by decide +kernel
theorem own_pn10 : plainName "jdk/internal/util/Preconditions" = true := by first | (simp [plainName, overriddenIn]; done) | decide +kernel
def own_L27 : own_T := [(0, .iload_n 0, 1, 1, 0), (1, .ifCond .lt 8, 3, 4, 9), (4, .iload_n 0, 1, 5, 0), (5, .iload_n 1, 1, 6, 0), (6, .if_icmp .lt 10, 3, 9, 16), (16, .iload_n 0, 1, 17, 0), (17, .ireturn, 1, 18, 0)]
theorem own_t27 : own_TB jdk_41_method_11_code own_L27 := by decide +kernel
def own_L26 : own_T := [(0, .iload_n 0, 1, 1, 0), (1, .iload_n 1, 1, 2, 0), (2, .getstatic 1053, 3, 5, 0), (5, .invokestatic 1059, 3, 8, 0), (8, .pop, 1, 9, 0), (9, .return_, 1, 10, 0)]
theorem own_t26 : own_TB jdk_42_method_155_code own_L26 := by decide +kernel
theorem own_pd8 : parseMethodDescriptor "(IILjava/util/function/BiFunction;)I" = some ⟨[.int, .int, (.object "java/util/function/BiFunction")], some .int⟩ := by decide +kernel
theorem own_pn11 : plainName "java/lang/StringLatin1" = true := by first | (simp [plainName, overriddenIn]; done) | decide +kernel
def own_L25 : own_T := [(0, .iload_n 1, 1, 1, 0), (1, .aload_n 0, 1, 2, 0), (2, .arraylength, 1, 3, 0), (3, .invokestatic 9, 3, 6, 0), (6, .aload_n 0, 1, 7, 0), (7, .iload_n 1, 1, 8, 0), (8, .baload, 1, 9, 0), (9, .sipush 255, 3, 12, 0), (12, .iand, 1, 13, 0), (13, .i2c, 1, 14, 0), (14, .ireturn, 1, 15, 0)]
theorem own_t25 : own_TB jdk_43_method_2_code own_L25 := by decide +kernel
def own_L23 : own_T := [(0, .aload_n 0, 1, 1, 0), (1, .invokevirtual 492, 3, 4, 0), (4, .ifCond .eq 12, 3, 7, 16), (7, .aload_n 0, 1, 8, 0), (8, .getfield 9, 3, 11, 0), (11, .iload_n 1, 1, 12, 0), (12, .invokestatic 495, 3, 15, 0), (15, .ireturn, 1, 16, 0)]
theorem own_t23 : own_TB jdk_42_method_56_code own_L23 := by decide +kernel
theorem own_pd9 : parseMethodDescriptor "()Z" = some ⟨[], some .boolean⟩ := by decide +kernel
theorem own_pd10 : parseMethodDescriptor "([BI)C" = some ⟨[(.array .byte), .int], some .char⟩ := by decide +kernel
theorem own_e1_3 (m : MethodId) {a0 : Value} (h : a0.category = 1) : entryFrame m #[a0] 3 = mkF m 0 #[.val a0, .unset, .unset] [] := by simp [entryFrame, mkF, argsToLocals, h]
theorem own_pn12 : plainName "convoke/model/Tokens" = true := by first | (simp [plainName, overriddenIn]; done) | decide +kernel
def own_L19 : own_T := [(0, .aload_n 0, 1, 1, 0), (1, .invokevirtual 32, 3, 4, 0), (4, .ifCond .ne 12, 3, 7, 16), (7, .aload_n 0, 1, 8, 0), (8, .invokevirtual 38, 3, 11, 0), (11, .bipush 64, 2, 13, 0), (13, .if_icmp .le 5, 3, 16, 18), (18, .iconst 0, 1, 19, 0), (19, .istore_n 1, 1, 20, 0), (20, .iload_n 1, 1, 21, 0), (21, .aload_n 0, 1, 22, 0), (22, .invokevirtual 38, 3, 25, 0), (25, .if_icmp .ge 33, 3, 28, 58), (28, .aload_n 0, 1, 29, 0), (29, .iload_n 1, 1, 30, 0), (30, .invokevirtual 42, 3, 33, 0), (33, .istore_n 2, 1, 34, 0), (34, .iload_n 2, 1, 35, 0), (35, .getstatic 28, 3, 38, 0), (38, .arraylength, 1, 39, 0), (39, .if_icmp .ge 11, 3, 42, 50), (42, .getstatic 28, 3, 45, 0), (45, .iload_n 2, 1, 46, 0), (46, .baload, 1, 47, 0), (47, .ifCond .ne 5, 3, 50, 52), (52, .iinc 1 1, 3, 55, 0), (55, .goto (-35), 3, 58, 20), (58, .iconst 1, 1, 59, 0), (59, .ireturn, 1, 60, 0)]
theorem own_t19 : own_TB prog_27_method_4_code own_L19 := by decide +kernel
theorem own_pd11 : parseMethodDescriptor "()I" = some ⟨[], some .int⟩ := by decide +kernel
theorem own_pd12 : parseMethodDescriptor "(I)C" = some ⟨[.int], some .char⟩ := by decide +kernel
theorem own_e3_10 (m : MethodId) {a0 a1 a2 : Value} (h : a0.category = 1 /\ a1.category = 1 /\ a2.category = 1) : entryFrame m #[a0, a1, a2] 10 = mkF m 0 #[.val a0, .val a1, .val a2, .unset, .unset, .unset, .unset, .unset, .unset, .unset] [] := by simp [entryFrame, mkF, argsToLocals, h]
def own_L31 : own_T := [(0, .iload_n 0, 1, 1, 0), (1, .ifCond .ne 11, 3, 4, 12), (4, .aload_n 1, 1, 5, 0), (5, .invokevirtual 279, 3, 8, 0), (8, .checkcast 280, 3, 11, 0), (11, .areturn, 1, 12, 0)]
theorem own_t31 : own_TB jdk_42_method_27_code own_L31 := by decide +kernel
def own_L30 : own_T := [(0, .iload_n 0, 1, 1, 0), (1, .aload_n 1, 1, 2, 0), (2, .iconst 1, 1, 3, 0), (3, .invokestatic 351, 3, 6, 0), (6, .areturn, 1, 7, 0)]
theorem own_t30 : own_TB jdk_42_method_26_code own_L30 := by decide +kernel
theorem own_pd13 : parseMethodDescriptor "(B[BZ)[B" = some ⟨[.byte, (.array .byte), .boolean], some (.array .byte)⟩ := by decide +kernel
def own_L29 : own_T := [(0, .aload_n 0, 1, 1, 0), (1, .getstatic 86, 3, 4, 0), (4, .if_acmp .ne 10, 3, 7, 14), (14, .aload_n 0, 1, 15, 0), (15, .getstatic 116, 3, 18, 0), (18, .if_acmp .ne 9, 3, 21, 27), (21, .iload_n 1, 1, 22, 0), (22, .aload_n 2, 1, 23, 0), (23, .invokestatic 256, 3, 26, 0), (26, .areturn, 1, 27, 0)]
theorem own_t29 : own_TB jdk_42_method_18_code own_L29 := by decide +kernel
theorem own_pd14 : parseMethodDescriptor "(B[B)[B" = some ⟨[.byte, (.array .byte)], some (.array .byte)⟩ := by decide +kernel
def own_L28 : own_T := [(0, .aload_n 1, 1, 1, 0), (1, .ifnonnull 11, 3, 4, 12), (12, .aload_n 1, 1, 13, 0), (13, .aload_n 0, 1, 14, 0), (14, .invokevirtual 335, 3, 17, 0), (17, .aload_n 0, 1, 18, 0), (18, .getfield 9, 3, 21, 0), (21, .invokestatic 535, 3, 24, 0), (24, .areturn, 1, 25, 0)]
theorem own_t28 : own_TB jdk_42_method_64_code own_L28 := by decide +kernel
theorem own_pd15 : parseMethodDescriptor "(Ljava/nio/charset/Charset;B[B)[B" = some ⟨[(.object "java/nio/charset/Charset"), .byte, (.array .byte)], some (.array .byte)⟩ := by decide +kernel
theorem own_e1_2 (m : MethodId) {a0 : Value} (h : a0.category = 1) : entryFrame m #[a0] 2 = mkF m 0 #[.val a0, .unset] [] := by simp [entryFrame, mkF, argsToLocals, h]
theorem own_pn13 : plainName "convoke/model/Value" = true := by first | (simp [plainName, overriddenIn]; done) | decide +kernel
def own_L18 : own_T := [(0, .aload_n 0, 1, 1, 0), (1, .invokestatic 147, 3, 4, 0), (4, .ifCond .eq 14, 3, 7, 18), (7, .aload_n 0, 1, 8, 0), (8, .getstatic 96, 3, 11, 0), (11, .invokevirtual 150, 3, 14, 0), (14, .astore_n 1, 1, 15, 0), (15, .goto 45, 3, 18, 60), (60, .aload_n 1, 1, 61, 0), (61, .ifnonnull 20, 3, 64, 81), (81, .aload_n 1, 1, 82, 0), (82, .areturn, 1, 83, 0)]
theorem own_t18 : own_TB prog_28_method_17_code own_L18 := by decide +kernel
theorem own_pd16 : parseMethodDescriptor "(Ljava/lang/String;)Z" = some ⟨[(.object "java/lang/String")], some .boolean⟩ := by decide +kernel
theorem own_pd17 : parseMethodDescriptor "(Ljava/nio/charset/Charset;)[B" = some ⟨[(.object "java/nio/charset/Charset")], some (.array .byte)⟩ := by decide +kernel
theorem own_pn14 : plainName "java/util/Objects" = true := by first | (simp [plainName, overriddenIn]; done) | decide +kernel
def own_L17 : own_T := [(0, .aload_n 0, 1, 1, 0), (1, .ifnonnull 12, 3, 4, 13), (13, .aload_n 0, 1, 14, 0), (14, .areturn, 1, 15, 0)]
theorem own_t17 : own_TB jdk_31_method_11_code own_L17 := by decide +kernel
def own_L32 : own_T := [(0, .aload_n 0, 1, 1, 0), (1, .invokespecial 21, 3, 4, 0), (4, .aload_n 0, 1, 5, 0), (5, .aload_n 1, 1, 6, 0), (6, .putfield 26, 3, 9, 0), (9, .aload_n 0, 1, 10, 0), (10, .aload_n 2, 1, 11, 0), (11, .putfield 29, 3, 14, 0), (14, .return_, 1, 15, 0)]
theorem own_t32 : own_TB prog_28_method_2_code own_L32 := by decide +kernel
def own_L16 : own_T := [(0, .aload_n 0, 1, 1, 0), (1, .aload_n 1, 1, 2, 0), (2, .ldc 3, 2, 4, 0), (4, .invokestatic 5, 3, 7, 0), (7, .checkcast 11, 3, 10, 0), (10, .invokestatic 13, 3, 13, 0), (13, .aconst_null, 1, 14, 0), (14, .invokespecial 17, 3, 17, 0), (17, .return_, 1, 18, 0)]
theorem own_t16 : own_TB prog_28_method_1_code own_L16 := by decide +kernel
theorem own_pd18 : parseMethodDescriptor "(Ljava/lang/Object;Ljava/lang/String;)Ljava/lang/Object;" = some ⟨[(.object "java/lang/Object"), (.object "java/lang/String")], some (.object "java/lang/Object")⟩ := by decide +kernel
theorem own_pd19 : parseMethodDescriptor "(Ljava/lang/String;)[B" = some ⟨[(.object "java/lang/String")], some (.array .byte)⟩ := by decide +kernel
theorem own_pd20 : parseMethodDescriptor "([BLjava/lang/String;)V" = some ⟨[(.array .byte), (.object "java/lang/String")], none⟩ := by decide +kernel
theorem own_pn15 : plainName "convoke/protocol/BrachaKind" = true := by first | (simp [plainName, overriddenIn]; done) | decide +kernel
def own_L34 : own_T := [(0, .aload_n 0, 1, 1, 0), (1, .getfield 35, 3, 4, 0), (4, .ireturn, 1, 5, 0)]
theorem own_t34 : own_TB prog_64_method_5_code own_L34 := by decide +kernel
theorem own_pn16 : plainName "convoke/model/Message" = true := by first | (simp [plainName, overriddenIn]; done) | decide +kernel
def own_L33 : own_T := [(0, .aload_n 0, 1, 1, 0), (1, .invokespecial 1, 3, 4, 0), (4, .iload_n 1, 1, 5, 0), (5, .iconst 1, 1, 6, 0), (6, .if_icmp .lt 13, 3, 9, 19), (9, .iload_n 2, 1, 10, 0), (10, .iconst 1, 1, 11, 0), (11, .if_icmp .lt 8, 3, 14, 19), (14, .iload_n 3, 1, 15, 0), (15, .iconst 1, 1, 16, 0), (16, .if_icmp .ge 19, 3, 19, 35), (35, .aload 4, 2, 37, 0), (37, .ldc 16, 2, 39, 0), (39, .invokestatic 18, 3, 42, 0), (42, .pop, 1, 43, 0), (43, .aload 4, 2, 45, 0), (45, .invokeinterface 24 1, 5, 50, 0), (50, .ifCond .eq 14, 3, 53, 64), (53, .aload 5, 2, 55, 0), (55, .ldc 30, 2, 57, 0), (57, .invokestatic 18, 3, 60, 0), (60, .pop, 1, 61, 0), (61, .goto 33, 3, 64, 94), (94, .aload_n 0, 1, 95, 0), (95, .iload_n 1, 1, 96, 0), (96, .putfield 45, 3, 99, 0), (99, .aload_n 0, 1, 100, 0), (100, .iload_n 2, 1, 101, 0), (101, .putfield 51, 3, 104, 0), (104, .aload_n 0, 1, 105, 0), (105, .iload_n 3, 1, 106, 0), (106, .putfield 54, 3, 109, 0), (109, .aload_n 0, 1, 110, 0), (110, .aload 4, 2, 112, 0), (112, .putfield 57, 3, 115, 0), (115, .aload_n 0, 1, 116, 0), (116, .aload 5, 2, 118, 0), (118, .putfield 60, 3, 121, 0), (121, .return_, 1, 122, 0)]
theorem own_t33 : own_TB prog_22_method_1_code own_L33 := by decide +kernel
def own_L39 : own_T := [(0, .aload_n 0, 1, 1, 0), (1, .getfield 45, 3, 4, 0), (4, .ireturn, 1, 5, 0)]
theorem own_t39 : own_TB prog_22_method_5_code own_L39 := by decide +kernel
def own_L38 : own_T := [(0, .aload_n 0, 1, 1, 0), (1, .getfield 51, 3, 4, 0), (4, .ireturn, 1, 5, 0)]
theorem own_t38 : own_TB prog_22_method_6_code own_L38 := by decide +kernel
def own_L40 : own_T := [(0, .aload_n 0, 1, 1, 0), (1, .getfield 54, 3, 4, 0), (4, .ireturn, 1, 5, 0)]
theorem own_t40 : own_TB prog_22_method_7_code own_L40 := by decide +kernel
def own_L41 : own_T := [(0, .aload_n 0, 1, 1, 0), (1, .getfield 57, 3, 4, 0), (4, .areturn, 1, 5, 0)]
theorem own_t41 : own_TB prog_22_method_8_code own_L41 := by decide +kernel
def own_L47 : own_T := [(0, .aload_n 0, 1, 1, 0), (1, .getfield 60, 3, 4, 0), (4, .areturn, 1, 5, 0)]
theorem own_t47 : own_TB prog_22_method_9_code own_L47 := by decide +kernel
theorem own_e2_3 (m : MethodId) {a0 a1 : Value} (h : a0.category = 1 /\ a1.category = 1) : entryFrame m #[a0, a1] 3 = mkF m 0 #[.val a0, .val a1, .unset] [] := by simp [entryFrame, mkF, argsToLocals, h]
theorem own_pn17 : plainName "convoke/model/Kinds" = true := by first | (simp [plainName, overriddenIn]; done) | decide +kernel
def own_L43 : own_T := [(0, .iconst 0, 1, 1, 0), (1, .istore_n 2, 1, 2, 0), (2, .iload_n 2, 1, 3, 0), (3, .aload_n 0, 1, 4, 0), (4, .getfield 7, 3, 7, 0), (7, .arraylength, 1, 8, 0), (8, .if_icmp .ge 19, 3, 11, 27), (11, .aload_n 0, 1, 12, 0), (12, .getfield 7, 3, 15, 0), (15, .iload_n 2, 1, 16, 0), (16, .aaload, 1, 17, 0), (17, .aload_n 1, 1, 18, 0), (18, .if_acmp .eq 9, 3, 21, 27), (21, .iinc 2 1, 3, 24, 0), (24, .goto (-22), 3, 27, 2), (27, .iload_n 2, 1, 28, 0), (28, .aload_n 0, 1, 29, 0), (29, .getfield 7, 3, 32, 0), (32, .arraylength, 1, 33, 0), (33, .if_icmp .ne 35, 3, 36, 68), (68, .iload_n 2, 1, 69, 0), (69, .aload_n 0, 1, 70, 0), (70, .getfield 7, 3, 73, 0), (73, .arraylength, 1, 74, 0), (74, .if_icmp .ne 26, 3, 77, 100), (100, .iload_n 2, 1, 101, 0), (101, .iconst 1, 1, 102, 0), (102, .iadd, 1, 103, 0), (103, .ireturn, 1, 104, 0)]
theorem own_t43 : own_TB prog_21_method_4_code own_L43 := by decide +kernel
def own_L42 : own_T := [(0, .getstatic 39, 3, 3, 0), (3, .aload_n 0, 1, 4, 0), (4, .invokevirtual 43, 3, 7, 0), (7, .pop, 1, 8, 0), (8, .aload_n 0, 1, 9, 0), (9, .checkcast 1, 3, 12, 0), (12, .areturn, 1, 13, 0)]
theorem own_t42 : own_TB prog_64_method_4_code own_L42 := by decide +kernel
theorem own_pd21 : parseMethodDescriptor "(Lconvoke/model/Message$Kind;)I" = some ⟨[(.object "convoke/model/Message$Kind")], some .int⟩ := by decide +kernel
def own_L37 : own_T := [(0, .aload_n 0, 1, 1, 0), (1, .invokevirtual 46, 3, 4, 0), (4, .iload_n 1, 1, 5, 0), (5, .if_icmp .eq 21, 3, 8, 26), (26, .ldc 52, 2, 28, 0), (28, .aload_n 0, 1, 29, 0), (29, .invokevirtual 54, 3, 32, 0), (32, .iload_n 2, 1, 33, 0), (33, .invokestatic 9, 3, 36, 0), (36, .return_, 1, 37, 0)]
theorem own_t37 : own_TB prog_80_method_3_code own_L37 := by decide +kernel
def own_L51 : own_T := [(0, .aload_n 0, 1, 1, 0), (1, .getfield 19, 3, 4, 0), (4, .iload_n 1, 1, 5, 0), (5, .baload, 1, 6, 0), (6, .ifCond .eq 5, 3, 9, 11), (9, .iconst 0, 1, 10, 0), (10, .ireturn, 1, 11, 0), (11, .aload_n 0, 1, 12, 0), (12, .getfield 19, 3, 15, 0), (15, .iload_n 1, 1, 16, 0), (16, .iconst 1, 1, 17, 0), (17, .bastore, 1, 18, 0), (18, .aload_n 0, 1, 19, 0), (19, .dup, 1, 20, 0), (20, .getfield 45, 3, 23, 0), (23, .iconst 1, 1, 24, 0), (24, .iadd, 1, 25, 0), (25, .putfield 45, 3, 28, 0), (28, .iconst 1, 1, 29, 0), (29, .ireturn, 1, 30, 0)]
theorem own_t51 : own_TB prog_88_method_3_code own_L51 := by decide +kernel
def own_L52 : own_T := [(0, .iconst 0, 1, 1, 0), (1, .istore_n 2, 1, 2, 0), (2, .iload_n 2, 1, 3, 0), (3, .aload_n 0, 1, 4, 0), (4, .getfield 31, 3, 7, 0), (7, .if_icmp .ge 32, 3, 10, 39), (10, .aload_n 0, 1, 11, 0), (11, .getfield 9, 3, 14, 0), (14, .iload_n 2, 1, 15, 0), (15, .aaload, 1, 16, 0), (16, .aload_n 1, 1, 17, 0), (17, .if_acmp .eq 22, 3, 20, 39), (39, .iload_n 2, 1, 40, 0), (40, .ireturn, 1, 41, 0)]
theorem own_t52 : own_TB prog_88_method_6_code own_L52 := by decide +kernel
theorem own_e3_4 (m : MethodId) {a0 a1 a2 : Value} (h : a0.category = 1 /\ a1.category = 1 /\ a2.category = 1) : entryFrame m #[a0, a1, a2] 4 = mkF m 0 #[.val a0, .val a1, .val a2, .unset] [] := by simp [entryFrame, mkF, argsToLocals, h]
def own_L50 : own_T := [(0, .aload_n 0, 1, 1, 0), (1, .iload_n 1, 1, 2, 0), (2, .invokevirtual 23, 3, 5, 0), (5, .ifCond .ne 5, 3, 8, 10), (8, .iconst 0, 1, 9, 0), (9, .ireturn, 1, 10, 0), (10, .aload_n 0, 1, 11, 0), (11, .aload_n 2, 1, 12, 0), (12, .invokevirtual 27, 3, 15, 0), (15, .istore_n 3, 1, 16, 0), (16, .iload_n 3, 1, 17, 0), (17, .aload_n 0, 1, 18, 0), (18, .getfield 31, 3, 21, 0), (21, .if_icmp .ne 72, 3, 24, 93), (24, .aload_n 0, 1, 25, 0), (25, .getfield 31, 3, 28, 0), (28, .aload_n 0, 1, 29, 0), (29, .getfield 9, 3, 32, 0), (32, .arraylength, 1, 33, 0), (33, .if_icmp .ne 40, 3, 36, 73), (73, .aload_n 0, 1, 74, 0), (74, .getfield 9, 3, 77, 0), (77, .aload_n 0, 1, 78, 0), (78, .getfield 31, 3, 81, 0), (81, .aload_n 2, 1, 82, 0), (82, .aastore, 1, 83, 0), (83, .aload_n 0, 1, 84, 0), (84, .dup, 1, 85, 0), (85, .getfield 31, 3, 88, 0), (88, .iconst 1, 1, 89, 0), (89, .iadd, 1, 90, 0), (90, .putfield 31, 3, 93, 0), (93, .aload_n 0, 1, 94, 0), (94, .getfield 15, 3, 97, 0), (97, .iload_n 3, 1, 98, 0), (98, .dup2, 1, 99, 0), (99, .iaload, 1, 100, 0), (100, .iconst 1, 1, 101, 0), (101, .iadd, 1, 102, 0), (102, .iastore, 1, 103, 0), (103, .iconst 1, 1, 104, 0), (104, .ireturn, 1, 105, 0)]
theorem own_t50 : own_TB prog_88_method_2_code own_L50 := by decide +kernel
theorem own_pd22 : parseMethodDescriptor "(I)Z" = some ⟨[.int], some .boolean⟩ := by decide +kernel
set_option maxRecDepth 65536 in
theorem own_sel_52 {Z : State} {a0 : Array Value} (hw : ∀ d ∈ tables_1, d.before a0 Z = true) : (Jvm.Cond.selects "convoke/protocol/Votes" (⟨"convoke/protocol/Votes", "place", "(Lconvoke/model/Value;)I"⟩ : MethodName) (⟨"convoke/protocol/Votes", "place", "(Lconvoke/model/Value;)I"⟩ : MethodName)).before a0 Z = true := by
  obtain ⟨c, k, h1, h2, -, h4, -⟩ := Cond.instantiable_spec (oh hw 132)
  simp only [Bool.or_eq_false_iff] at h4
  exact selects_self_of_private (y := (⟨"convoke/protocol/Votes", "place", "(Lconvoke/model/Value;)I"⟩ : MethodName)) h1 h2 h4.1 (Cond.privateMethod_at (oh hw 391)) (oh hw 390) (by decide)
theorem own_pd23 : parseMethodDescriptor "(Lconvoke/model/Value;)I" = some ⟨[(.object "convoke/model/Value")], some .int⟩ := by decide +kernel
def own_L54 : own_T := [(0, .aload_n 0, 1, 1, 0), (1, .aload_n 1, 1, 2, 0), (2, .invokevirtual 27, 3, 5, 0), (5, .istore_n 2, 1, 6, 0), (6, .iload_n 2, 1, 7, 0), (7, .aload_n 0, 1, 8, 0), (8, .getfield 31, 3, 11, 0), (11, .if_icmp .ge 12, 3, 14, 23), (14, .aload_n 0, 1, 15, 0), (15, .getfield 15, 3, 18, 0), (18, .iload_n 2, 1, 19, 0), (19, .iaload, 1, 20, 0), (20, .goto 4, 3, 23, 24), (24, .ireturn, 1, 25, 0)]
theorem own_t54 : own_TB prog_88_method_5_code own_L54 := by decide +kernel
theorem own_pn18 : plainName "java/util/List" = true := by first | (simp [plainName, overriddenIn]; done) | decide +kernel
def own_L53 : own_T := [(0, .getstatic 90, 3, 3, 0), (3, .areturn, 1, 4, 0)]
theorem own_t53 : own_TB jdk_40_method_36_code own_L53 := by decide +kernel
def own_L45 : own_T := [(0, .aload_n 0, 1, 1, 0), (1, .getfield 119, 3, 4, 0), (4, .ifCond .ne 10, 3, 7, 14), (7, .aload_n 0, 1, 8, 0), (8, .getfield 113, 3, 11, 0), (11, .ifCond .eq 7, 3, 14, 18), (18, .iconst 0, 1, 19, 0), (19, .ireturn, 1, 20, 0)]
theorem own_t45 : own_TB prog_63_method_21_code own_L45 := by decide +kernel
theorem own_pn19 : plainName "java/lang/Enum" = true := by first | (simp [plainName, overriddenIn]; done) | decide +kernel
def own_L46 : own_T := [(0, .aload_n 0, 1, 1, 0), (1, .aload_n 1, 1, 2, 0), (2, .if_acmp .ne 7, 3, 5, 9), (9, .iconst 0, 1, 10, 0), (10, .ireturn, 1, 11, 0)]
theorem own_t46 : own_TB jdk_37_method_5_code own_L46 := by decide +kernel
theorem own_pn20 : plainName "java/util/Optional" = true := by first | (simp [plainName, overriddenIn]; done) | decide +kernel
def own_L68 : own_T := [(0, .aload_n 0, 1, 1, 0), (1, .invokespecial 7, 3, 4, 0), (4, .aload_n 0, 1, 5, 0), (5, .aload_n 1, 1, 6, 0), (6, .putfield 13, 3, 9, 0), (9, .return_, 1, 10, 0)]
theorem own_t68 : own_TB jdk_32_method_2_code own_L68 := by decide +kernel
def own_L67 : own_T := [(0, .aload_n 0, 1, 1, 0), (1, .ifnonnull 9, 3, 4, 10), (4, .getstatic 1, 3, 7, 0), (7, .goto 11, 3, 10, 18), (10, .new 2, 3, 13, 0), (13, .dup, 1, 14, 0), (14, .aload_n 0, 1, 15, 0), (15, .invokespecial 23, 3, 18, 0), (18, .areturn, 1, 19, 0)]
theorem own_t67 : own_TB jdk_32_method_4_code own_L67 := by decide +kernel
theorem own_pd24 : parseMethodDescriptor "(Ljava/lang/Object;)V" = some ⟨[(.object "java/lang/Object")], none⟩ := by decide +kernel
def own_L66 : own_T := [(0, .aload_n 0, 1, 1, 0), (1, .getfield 122, 3, 4, 0), (4, .invokestatic 126, 3, 7, 0), (7, .areturn, 1, 8, 0)]
theorem own_t66 : own_TB prog_63_method_8_code own_L66 := by decide +kernel
theorem own_pd25 : parseMethodDescriptor "(Ljava/lang/Object;)Ljava/util/Optional;" = some ⟨[(.object "java/lang/Object")], some (.object "java/util/Optional")⟩ := by decide +kernel
def own_L65 : own_T := [(0, .aload_n 0, 1, 1, 0), (1, .invokespecial 156, 3, 4, 0), (4, .areturn, 1, 5, 0)]
theorem own_t65 : own_TB prog_62_method_13_code own_L65 := by decide +kernel
set_option maxRecDepth 65536 in
theorem own_same_66 {Z : State} {a0 : Array Value} (hw : ∀ d ∈ tables_1, d.before a0 Z = true) : (Jvm.Cond.sameMethod "convoke/protocol/BrachaFamily" "convoke/protocol/BrachaFamily" "output" "()Ljava/util/Optional;").before a0 Z = true := by
  obtain ⟨c, r, m, -, -, hm, -, k, h2, h4⟩ := Cond.selects_spec (oh hw 341)
  have h1 := findClass_of_methodNamed hm
  exact own_sameSelf (y := (⟨"convoke/protocol/BrachaFamily", "output", "()Ljava/util/Optional;"⟩ : MethodName)) (oh hw 487) (by decide) h1 h2 h4
theorem own_pd26 : parseMethodDescriptor "()Ljava/util/Optional;" = some ⟨[], some (.object "java/util/Optional")⟩ := by decide +kernel
def own_L69 : own_T := [(0, .aload_n 0, 1, 1, 0), (1, .getfield 13, 3, 4, 0), (4, .ifnonnull 7, 3, 7, 11), (7, .iconst 1, 1, 8, 0), (8, .goto 4, 3, 11, 12), (11, .iconst 0, 1, 12, 0), (12, .ireturn, 1, 13, 0)]
theorem own_t69 : own_TB jdk_32_method_7_code own_L69 := by decide +kernel
def own_L70 : own_T := [(0, .aload_n 0, 1, 1, 0), (1, .getfield 13, 3, 4, 0), (4, .ifnonnull 13, 3, 7, 17), (17, .aload_n 0, 1, 18, 0), (18, .getfield 13, 3, 21, 0), (21, .areturn, 1, 22, 0)]
theorem own_t70 : own_TB jdk_32_method_5_code own_L70 := by decide +kernel
def own_L76 : own_T := [(0, .aload_n 0, 1, 1, 0), (1, .getfield 13, 3, 4, 0), (4, .ifnonnull 13, 3, 7, 17), (17, .aload_n 0, 1, 18, 0), (18, .getfield 13, 3, 21, 0), (21, .areturn, 1, 22, 0)]
theorem own_t76 : own_TB jdk_32_method_17_code own_L76 := by decide +kernel
def own_L72 : own_T := [(0, .aload_n 0, 1, 1, 0), (1, .aconst_null, 1, 2, 0), (2, .putfield 53, 3, 5, 0), (5, .aload_n 0, 1, 6, 0), (6, .aconst_null, 1, 7, 0), (7, .putfield 57, 3, 10, 0), (10, .aload_n 0, 1, 11, 0), (11, .aconst_null, 1, 12, 0), (12, .putfield 60, 3, 15, 0), (15, .return_, 1, 16, 0)]
theorem own_t72 : own_TB prog_62_method_12_code own_L72 := by decide +kernel
def own_L71 : own_T := [(0, .aload_n 0, 1, 1, 0), (1, .iconst 1, 1, 2, 0), (2, .putfield 119, 3, 5, 0), (5, .aload_n 0, 1, 6, 0), (6, .invokevirtual 116, 3, 9, 0), (9, .return_, 1, 10, 0)]
theorem own_t71 : own_TB prog_63_method_15_code own_L71 := by decide +kernel
def own_L63 : own_T := [(0, .aload_n 0, 1, 1, 0), (1, .getfield 122, 3, 4, 0), (4, .ifnonnull 8, 3, 7, 12), (7, .aload_n 0, 1, 8, 0), (8, .aload_n 1, 1, 9, 0), (9, .putfield 122, 3, 12, 0), (12, .return_, 1, 13, 0)]
theorem own_t63 : own_TB prog_63_method_14_code own_L63 := by decide +kernel
def own_L64 : own_T := [(0, .aload_n 0, 1, 1, 0), (1, .invokevirtual 137, 3, 4, 0), (4, .astore_n 1, 1, 5, 0), (5, .aload_n 1, 1, 6, 0), (6, .invokevirtual 141, 3, 9, 0), (9, .ifCond .eq 4, 3, 12, 13), (12, .return_, 1, 13, 0), (13, .aload_n 0, 1, 14, 0), (14, .getfield 29, 3, 17, 0), (17, .ifCond .eq 25, 3, 20, 42), (42, .aload_n 0, 1, 43, 0), (43, .getfield 57, 3, 46, 0), (46, .aload_n 1, 1, 47, 0), (47, .invokevirtual 147, 3, 50, 0), (50, .checkcast 151, 3, 53, 0), (53, .invokevirtual 118, 3, 56, 0), (56, .istore_n 2, 1, 57, 0), (57, .iload_n 2, 1, 58, 0), (58, .aload_n 0, 1, 59, 0), (59, .getfield 42, 3, 62, 0), (62, .if_icmp .lt 7, 3, 65, 69), (65, .aload_n 0, 1, 66, 0), (66, .invokevirtual 153, 3, 69, 0), (69, .return_, 1, 70, 0)]
theorem own_t64 : own_TB prog_62_method_11_code own_L64 := by decide +kernel
theorem own_pd27 : parseMethodDescriptor "()Ljava/lang/Object;" = some ⟨[], some (.object "java/lang/Object")⟩ := by decide +kernel
theorem own_pn21 : plainName "java/util/AbstractCollection" = true := by first | (simp [plainName, overriddenIn]; done) | decide +kernel
def own_L60 : own_T := [(0, .aload_n 0, 1, 1, 0), (1, .invokespecial 1, 3, 4, 0), (4, .return_, 1, 5, 0)]
theorem own_t60 : own_TB jdk_22_method_1_code own_L60 := by decide +kernel
theorem own_pn22 : plainName "java/util/AbstractList" = true := by first | (simp [plainName, overriddenIn]; done) | decide +kernel
def own_L59 : own_T := [(0, .aload_n 0, 1, 1, 0), (1, .invokespecial 1, 3, 4, 0), (4, .aload_n 0, 1, 5, 0), (5, .iconst 0, 1, 6, 0), (6, .putfield 7, 3, 9, 0), (9, .return_, 1, 10, 0)]
theorem own_t59 : own_TB jdk_39_method_1_code own_L59 := by decide +kernel
theorem own_pn23 : plainName "java/util/ArrayList" = true := by first | (simp [plainName, overriddenIn]; done) | decide +kernel
def own_L58 : own_T := [(0, .aload_n 0, 1, 1, 0), (1, .invokespecial 1, 3, 4, 0), (4, .iload_n 1, 1, 5, 0), (5, .ifCond .le 14, 3, 8, 19), (8, .aload_n 0, 1, 9, 0), (9, .iload_n 1, 1, 10, 0), (10, .anewarray 7, 3, 13, 0), (13, .putfield 9, 3, 16, 0), (16, .goto 44, 3, 19, 60), (60, .return_, 1, 61, 0)]
theorem own_t58 : own_TB jdk_38_method_1_code own_L58 := by decide +kernel
def own_L62 : own_T := [(0, .iload_n 3, 1, 1, 0), (1, .aload_n 2, 1, 2, 0), (2, .arraylength, 1, 3, 0), (3, .if_icmp .ne 8, 3, 6, 11), (11, .aload_n 2, 1, 12, 0), (12, .iload_n 3, 1, 13, 0), (13, .aload_n 1, 1, 14, 0), (14, .aastore, 1, 15, 0), (15, .aload_n 0, 1, 16, 0), (16, .iload_n 3, 1, 17, 0), (17, .iconst 1, 1, 18, 0), (18, .iadd, 1, 19, 0), (19, .putfield 48, 3, 22, 0), (22, .return_, 1, 23, 0)]
theorem own_t62 : own_TB jdk_38_method_24_code own_L62 := by decide +kernel
def own_L61 : own_T := [(0, .aload_n 0, 1, 1, 0), (1, .dup, 1, 2, 0), (2, .getfield 63, 3, 5, 0), (5, .iconst 1, 1, 6, 0), (6, .iadd, 1, 7, 0), (7, .putfield 63, 3, 10, 0), (10, .aload_n 0, 1, 11, 0), (11, .aload_n 1, 1, 12, 0), (12, .aload_n 0, 1, 13, 0), (13, .getfield 9, 3, 16, 0), (16, .aload_n 0, 1, 17, 0), (17, .getfield 48, 3, 20, 0), (20, .invokevirtual 131, 3, 23, 0), (23, .iconst 1, 1, 24, 0), (24, .ireturn, 1, 25, 0)]
theorem own_t61 : own_TB jdk_38_method_25_code own_L61 := by decide +kernel
theorem own_pd28 : parseMethodDescriptor "(Ljava/lang/Object;[Ljava/lang/Object;I)V" = some ⟨[(.object "java/lang/Object"), (.array (.object "java/lang/Object")), .int], none⟩ := by decide +kernel
theorem own_e5_7 (m : MethodId) {a0 a1 a2 a3 a4 : Value} (h : a0.category = 1 /\ a1.category = 1 /\ a2.category = 1 /\ a3.category = 1 /\ a4.category = 1) : entryFrame m #[a0, a1, a2, a3, a4] 7 = mkF m 0 #[.val a0, .val a1, .val a2, .val a3, .val a4, .unset, .unset] [] := by simp [entryFrame, mkF, argsToLocals, h]
def own_L57 : own_T := [(0, .new 61, 3, 3, 0), (3, .dup, 1, 4, 0), (4, .iload_n 0, 1, 5, 0), (5, .invokespecial 63, 3, 8, 0), (8, .astore 5, 2, 10, 0), (10, .iconst 1, 1, 11, 0), (11, .istore 6, 2, 13, 0), (13, .iload 6, 2, 15, 0), (15, .iload_n 0, 1, 16, 0), (16, .if_icmp .gt 31, 3, 19, 47), (19, .aload 5, 2, 21, 0), (21, .new 32, 3, 24, 0), (24, .dup, 1, 25, 0), (25, .iload_n 1, 1, 26, 0), (26, .iload 6, 2, 28, 0), (28, .iload_n 2, 1, 29, 0), (29, .aload_n 3, 1, 30, 0), (30, .aload 4, 2, 32, 0), (32, .invokespecial 66, 3, 35, 0), (35, .invokeinterface 69 2, 5, 40, 0), (40, .pop, 1, 41, 0), (41, .iinc 6 1, 3, 44, 0), (44, .goto (-31), 3, 47, 13), (47, .aload 5, 2, 49, 0), (49, .areturn, 1, 50, 0)]
theorem own_t57 : own_TB prog_80_method_5_code own_L57 := by decide +kernel
theorem own_pd29 : parseMethodDescriptor "(IIILconvoke/model/Message$Kind;Lconvoke/model/Value;)V" = some ⟨[.int, .int, .int, (.object "convoke/model/Message$Kind"), (.object "convoke/model/Value")], none⟩ := by decide +kernel
theorem own_pd30 : parseMethodDescriptor "(Ljava/lang/Object;)Z" = some ⟨[(.object "java/lang/Object")], some .boolean⟩ := by decide +kernel
def own_L56 : own_T := [(0, .aload_n 0, 1, 1, 0), (1, .getfield 17, 3, 4, 0), (4, .aload_n 0, 1, 5, 0), (5, .getfield 23, 3, 8, 0), (8, .aload_n 0, 1, 9, 0), (9, .getfield 25, 3, 12, 0), (12, .aload_n 1, 1, 13, 0), (13, .aload_n 2, 1, 14, 0), (14, .invokestatic 57, 3, 17, 0), (17, .areturn, 1, 18, 0)]
theorem own_t56 : own_TB prog_80_method_4_code own_L56 := by decide +kernel
theorem own_pd31 : parseMethodDescriptor "(IIILconvoke/model/Message$Kind;Lconvoke/model/Value;)Ljava/util/List;" = some ⟨[.int, .int, .int, (.object "convoke/model/Message$Kind"), (.object "convoke/model/Value")], some (.object "java/util/List")⟩ := by decide +kernel
def own_L55 : own_T := [(0, .aload_n 0, 1, 1, 0), (1, .getfield 7, 3, 4, 0), (4, .areturn, 1, 5, 0)]
theorem own_t55 : own_TB prog_63_method_9_code own_L55 := by decide +kernel
def own_L49 : own_T := [(0, .aload_n 0, 1, 1, 0), (1, .getfield 57, 3, 4, 0), (4, .iload_n 1, 1, 5, 0), (5, .aload_n 2, 1, 6, 0), (6, .invokevirtual 111, 3, 9, 0), (9, .ifCond .ne 7, 3, 12, 16), (12, .invokestatic 105, 3, 15, 0), (15, .areturn, 1, 16, 0), (16, .aload_n 0, 1, 17, 0), (17, .getfield 29, 3, 20, 0), (20, .ifCond .eq 13, 3, 23, 33), (33, .invokestatic 105, 3, 36, 0), (36, .astore_n 3, 1, 37, 0), (37, .aload_n 0, 1, 38, 0), (38, .getfield 115, 3, 41, 0), (41, .ifCond .ne 35, 3, 44, 76), (44, .aload_n 0, 1, 45, 0), (45, .getfield 57, 3, 48, 0), (48, .aload_n 2, 1, 49, 0), (49, .invokevirtual 118, 3, 52, 0), (52, .aload_n 0, 1, 53, 0), (53, .getfield 39, 3, 56, 0), (56, .if_icmp .lt 20, 3, 59, 76), (59, .aload_n 0, 1, 60, 0), (60, .iconst 1, 1, 61, 0), (61, .putfield 115, 3, 64, 0), (64, .aload_n 0, 1, 65, 0), (65, .invokevirtual 94, 3, 68, 0), (68, .getstatic 84, 3, 71, 0), (71, .aload_n 2, 1, 72, 0), (72, .invokevirtual 101, 3, 75, 0), (75, .astore_n 3, 1, 76, 0), (76, .aload_n 0, 1, 77, 0), (77, .getfield 57, 3, 80, 0), (80, .aload_n 2, 1, 81, 0), (81, .invokevirtual 118, 3, 84, 0), (84, .aload_n 0, 1, 85, 0), (85, .getfield 45, 3, 88, 0), (88, .if_icmp .lt 8, 3, 91, 96), (91, .aload_n 0, 1, 92, 0), (92, .aload_n 2, 1, 93, 0), (93, .invokevirtual 122, 3, 96, 0), (96, .aload_n 0, 1, 97, 0), (97, .invokevirtual 126, 3, 100, 0), (100, .aload_n 3, 1, 101, 0), (101, .areturn, 1, 102, 0)]
theorem own_t49 : own_TB prog_62_method_9_code own_L49 := by decide +kernel
theorem own_pd32 : parseMethodDescriptor "(ILconvoke/model/Value;)Z" = some ⟨[.int, (.object "convoke/model/Value")], some .boolean⟩ := by decide +kernel
theorem own_pd33 : parseMethodDescriptor "()Ljava/util/List;" = some ⟨[], some (.object "java/util/List")⟩ := by decide +kernel
set_option maxRecDepth 65536 in
theorem own_sel_64 {Z : State} {a0 : Array Value} (hw : ∀ d ∈ tables_1, d.before a0 Z = true) : (Jvm.Cond.selects "convoke/protocol/Bracha" (⟨"convoke/protocol/Bracha", "terminateIfDone", "()V"⟩ : MethodName) (⟨"convoke/protocol/Bracha", "terminateIfDone", "()V"⟩ : MethodName)).before a0 Z = true := by
  obtain ⟨c, k, h1, h2, -, h4, -⟩ := Cond.instantiable_spec (oh hw 70)
  simp only [Bool.or_eq_false_iff] at h4
  exact selects_self_of_private (y := (⟨"convoke/protocol/Bracha", "terminateIfDone", "()V"⟩ : MethodName)) h1 h2 h4.1 (Cond.privateMethod_at (oh hw 479)) (oh hw 478) (by decide)
theorem own_pd34 : parseMethodDescriptor "()Lconvoke/protocol/Seat;" = some ⟨[], some (.object "convoke/protocol/Seat")⟩ := by decide +kernel
theorem own_pd35 : parseMethodDescriptor "(Lconvoke/model/Message$Kind;Lconvoke/model/Value;)Ljava/util/List;" = some ⟨[(.object "convoke/model/Message$Kind"), (.object "convoke/model/Value")], some (.object "java/util/List")⟩ := by decide +kernel
theorem own_pd36 : parseMethodDescriptor "(Lconvoke/model/Value;)V" = some ⟨[(.object "convoke/model/Value")], none⟩ := by decide +kernel
theorem own_e4_5 (m : MethodId) {a0 a1 a2 a3 : Value} (h : a0.category = 1 /\ a1.category = 1 /\ a2.category = 1 /\ a3.category = 1) : entryFrame m #[a0, a1, a2, a3] 5 = mkF m 0 #[.val a0, .val a1, .val a2, .val a3, .unset] [] := by simp [entryFrame, mkF, argsToLocals, h]
def own_L48 : own_T := [(0, .aload_n 1, 1, 1, 0), (1, .getstatic 21, 3, 4, 0), (4, .if_acmp .ne 14, 3, 7, 18), (18, .aload_n 1, 1, 19, 0), (19, .getstatic 84, 3, 22, 0), (22, .if_acmp .ne 14, 3, 25, 36), (25, .aload_n 0, 1, 26, 0), (26, .iload_n 2, 1, 27, 0), (27, .aload_n 3, 1, 28, 0), (28, .invokevirtual 87, 3, 31, 0), (31, .astore 4, 2, 33, 0), (33, .goto 10, 3, 36, 43), (43, .aload 4, 2, 45, 0), (45, .areturn, 1, 46, 0)]
theorem own_t48 : own_TB prog_62_method_6_code own_L48 := by decide +kernel
set_option maxRecDepth 65536 in
theorem own_sel_49 {Z : State} {a0 : Array Value} (hw : ∀ d ∈ tables_1, d.before a0 Z = true) : (Jvm.Cond.selects "convoke/protocol/Bracha" (⟨"convoke/protocol/Bracha", "onReady", "(ILconvoke/model/Value;)Ljava/util/List;"⟩ : MethodName) (⟨"convoke/protocol/Bracha", "onReady", "(ILconvoke/model/Value;)Ljava/util/List;"⟩ : MethodName)).before a0 Z = true := by
  obtain ⟨c, k, h1, h2, -, h4, -⟩ := Cond.instantiable_spec (oh hw 70)
  simp only [Bool.or_eq_false_iff] at h4
  exact selects_self_of_private (y := (⟨"convoke/protocol/Bracha", "onReady", "(ILconvoke/model/Value;)Ljava/util/List;"⟩ : MethodName)) h1 h2 h4.1 (Cond.privateMethod_at (oh hw 375)) (oh hw 374) (by decide)
theorem own_pd37 : parseMethodDescriptor "(ILconvoke/model/Value;)Ljava/util/List;" = some ⟨[.int, (.object "convoke/model/Value")], some (.object "java/util/List")⟩ := by decide +kernel
def own_L44 : own_T := [(0, .aload_n 0, 1, 1, 0), (1, .invokevirtual 79, 3, 4, 0), (4, .ifCond .eq 10, 3, 7, 14), (14, .aload_n 1, 1, 15, 0), (15, .invokevirtual 63, 3, 18, 0), (18, .aload_n 0, 1, 19, 0), (19, .getfield 17, 3, 22, 0), (22, .invokeinterface 89 2, 5, 27, 0), (27, .ifCond .eq 19, 3, 30, 46), (46, .aload_n 0, 1, 47, 0), (47, .aload_n 1, 1, 48, 0), (48, .invokevirtual 63, 3, 51, 0), (51, .aload_n 1, 1, 52, 0), (52, .invokevirtual 95, 3, 55, 0), (55, .aload_n 1, 1, 56, 0), (56, .invokevirtual 98, 3, 59, 0), (59, .invokevirtual 106, 3, 62, 0), (62, .astore_n 2, 1, 63, 0), (63, .aload_n 2, 1, 64, 0), (64, .areturn, 1, 65, 0)]
theorem own_t44 : own_TB prog_63_method_5_code own_L44 := by decide +kernel
set_option maxRecDepth 65536 in
theorem own_sel_45 {Z : State} {a0 : Array Value} (hw : ∀ d ∈ tables_1, d.before a0 Z = true) : (Jvm.Cond.selects "convoke/protocol/BrachaFamily" (⟨"convoke/protocol/BrachaFamily", "stopped", "()Z"⟩ : MethodName) (⟨"convoke/protocol/BrachaFamily", "stopped", "()Z"⟩ : MethodName)).before a0 Z = true := by
  obtain ⟨c, r, m, -, -, hm, -, k, h2, h4⟩ := Cond.selects_spec (oh hw 341)
  have h1 := findClass_of_methodNamed hm
  exact selects_self_of_private (y := (⟨"convoke/protocol/BrachaFamily", "stopped", "()Z"⟩ : MethodName)) h1 h2 h4 (Cond.privateMethod_at (oh hw 345)) (oh hw 344) (by decide)
theorem own_pd38 : parseMethodDescriptor "()Lconvoke/model/Message$Kind;" = some ⟨[], some (.object "convoke/model/Message$Kind")⟩ := by decide +kernel
theorem own_pd39 : parseMethodDescriptor "()Lconvoke/model/Value;" = some ⟨[], some (.object "convoke/model/Value")⟩ := by decide +kernel
theorem own_pd40 : parseMethodDescriptor "(Lconvoke/model/Message$Kind;ILconvoke/model/Value;)Ljava/util/List;" = some ⟨[(.object "convoke/model/Message$Kind"), .int, (.object "convoke/model/Value")], some (.object "java/util/List")⟩ := by decide +kernel
theorem own_pn24 : plainName "java/lang/Integer" = true := by first | (simp [plainName, overriddenIn]; done) | decide +kernel
def own_L75 : own_T := [(0, .iload_n 0, 1, 1, 0), (1, .bipush (-128), 2, 3, 0), (3, .if_icmp .lt 20, 3, 6, 23), (6, .iload_n 0, 1, 7, 0), (7, .getstatic 191, 3, 10, 0), (10, .if_icmp .gt 13, 3, 13, 23), (13, .getstatic 195, 3, 16, 0), (16, .iload_n 0, 1, 17, 0), (17, .sipush 128, 3, 20, 0), (20, .iadd, 1, 21, 0), (21, .aaload, 1, 22, 0), (22, .areturn, 1, 23, 0)]
theorem own_t75 : own_TB jdk_33_method_22_code own_L75 := by decide +kernel
def own_L83 : own_T := [(0, .iload_n 0, 1, 1, 0), (1, .iload_n 1, 1, 2, 0), (2, .if_icmp .ge 7, 3, 5, 9), (5, .iconst (-1), 1, 6, 0), (6, .goto 13, 3, 9, 19), (9, .iload_n 0, 1, 10, 0), (10, .iload_n 1, 1, 11, 0), (11, .if_icmp .ne 7, 3, 14, 18), (14, .iconst 0, 1, 15, 0), (15, .goto 4, 3, 18, 19), (18, .iconst 1, 1, 19, 0), (19, .ireturn, 1, 20, 0)]
theorem own_t83 : own_TB jdk_33_method_40_code own_L83 := by decide +kernel
def own_L82 : own_T := [(0, .aload_n 0, 1, 1, 0), (1, .getfield 205, 3, 4, 0), (4, .aload_n 1, 1, 5, 0), (5, .getfield 205, 3, 8, 0), (8, .invokestatic 259, 3, 11, 0), (11, .ireturn, 1, 12, 0)]
theorem own_t82 : own_TB jdk_33_method_39_code own_L82 := by decide +kernel
theorem own_pd41 : parseMethodDescriptor "(II)I" = some ⟨[.int, .int], some .int⟩ := by decide +kernel
def own_L81 : own_T := [(0, .aload_n 0, 1, 1, 0), (1, .aload_n 1, 1, 2, 0), (2, .checkcast 1, 3, 5, 0), (5, .invokevirtual 284, 3, 8, 0), (8, .ireturn, 1, 9, 0)]
theorem own_t81 : own_TB jdk_33_method_63_code own_L81 := by decide +kernel
theorem own_pd42 : parseMethodDescriptor "(Ljava/lang/Integer;)I" = some ⟨[(.object "java/lang/Integer")], some .int⟩ := by decide +kernel
def own_L80 : own_T := [(0, .aload_n 0, 1, 1, 0), (1, .getfield 16, 3, 4, 0), (4, .ifnonnull 16, 3, 7, 20), (7, .aload_n 1, 1, 8, 0), (8, .checkcast 99, 3, 11, 0), (11, .aload_n 2, 1, 12, 0), (12, .invokeinterface 107 2, 5, 17, 0), (17, .goto 14, 3, 20, 31), (31, .ireturn, 1, 32, 0)]
theorem own_t80 : own_TB jdk_2729_method_67_code own_L80 := by decide +kernel
theorem own_pd43 : parseMethodDescriptor "(Ljava/lang/Object;)I" = some ⟨[(.object "java/lang/Object")], some .int⟩ := by decide +kernel
def own_L95 : own_T := [(0, .aload_n 0, 1, 1, 0), (1, .ifnonnull 11, 3, 4, 12), (12, .aload_n 0, 1, 13, 0), (13, .areturn, 1, 14, 0)]
theorem own_t95 : own_TB jdk_31_method_10_code own_L95 := by decide +kernel
def own_L86 : own_T := [(0, .aload_n 0, 1, 1, 0), (1, .getfield 7, 3, 4, 0), (4, .ireturn, 1, 5, 0)]
theorem own_t86 : own_TB jdk_2729_method_5_code own_L86 := by decide +kernel
theorem own_pn25 : plainName "java/util/TreeMap$Entry" = true := by first | (simp [plainName, overriddenIn]; done) | decide +kernel
def own_L84 : own_T := [(0, .aload_n 0, 1, 1, 0), (1, .invokespecial 3, 3, 4, 0), (4, .aload_n 0, 1, 5, 0), (5, .iconst 1, 1, 6, 0), (6, .putfield 9, 3, 9, 0), (9, .aload_n 0, 1, 10, 0), (10, .aload_n 1, 1, 11, 0), (11, .putfield 15, 3, 14, 0), (14, .aload_n 0, 1, 15, 0), (15, .aload_n 2, 1, 16, 0), (16, .putfield 19, 3, 19, 0), (19, .aload_n 0, 1, 20, 0), (20, .aload_n 3, 1, 21, 0), (21, .putfield 22, 3, 24, 0), (24, .return_, 1, 25, 0)]
theorem own_t84 : own_TB jdk_2736_method_1_code own_L84 := by decide +kernel
def own_L79 : own_T := [(0, .aload_n 0, 1, 1, 0), (1, .aload_n 1, 1, 2, 0), (2, .aload_n 1, 1, 3, 0), (3, .invokevirtual 123, 3, 6, 0), (6, .pop, 1, 7, 0), (7, .aload_n 0, 1, 8, 0), (8, .new 59, 3, 11, 0), (11, .dup, 1, 12, 0), (12, .aload_n 1, 1, 13, 0), (13, .aload_n 2, 1, 14, 0), (14, .aconst_null, 1, 15, 0), (15, .invokespecial 167, 3, 18, 0), (18, .putfield 101, 3, 21, 0), (21, .aload_n 0, 1, 22, 0), (22, .iconst 1, 1, 23, 0), (23, .putfield 7, 3, 26, 0), (26, .aload_n 0, 1, 27, 0), (27, .dup, 1, 28, 0), (28, .getfield 13, 3, 31, 0), (31, .iconst 1, 1, 32, 0), (32, .iadd, 1, 33, 0), (33, .putfield 13, 3, 36, 0), (36, .return_, 1, 37, 0)]
theorem own_t79 : own_TB jdk_2729_method_30_code own_L79 := by decide +kernel
theorem own_pd44 : parseMethodDescriptor "(Ljava/lang/Object;Ljava/lang/Object;)I" = some ⟨[(.object "java/lang/Object"), (.object "java/lang/Object")], some .int⟩ := by decide +kernel
theorem own_pd45 : parseMethodDescriptor "(Ljava/lang/Object;Ljava/lang/Object;Ljava/util/TreeMap$Entry;)V" = some ⟨[(.object "java/lang/Object"), (.object "java/lang/Object"), (.object "java/util/TreeMap$Entry")], none⟩ := by decide +kernel
theorem own_e4_10 (m : MethodId) {a0 a1 a2 a3 : Value} (h : a0.category = 1 /\ a1.category = 1 /\ a2.category = 1 /\ a3.category = 1) : entryFrame m #[a0, a1, a2, a3] 10 = mkF m 0 #[.val a0, .val a1, .val a2, .val a3, .unset, .unset, .unset, .unset, .unset, .unset] [] := by simp [entryFrame, mkF, argsToLocals, h]
def own_L78 : own_T := [(0, .aload_n 0, 1, 1, 0), (1, .getfield 101, 3, 4, 0), (4, .astore 4, 2, 6, 0), (6, .aload 4, 2, 8, 0), (8, .ifnonnull 11, 3, 11, 19), (11, .aload_n 0, 1, 12, 0), (12, .aload_n 1, 1, 13, 0), (13, .aload_n 2, 1, 14, 0), (14, .invokevirtual 135, 3, 17, 0), (17, .aconst_null, 1, 18, 0), (18, .areturn, 1, 19, 0), (19, .aload_n 0, 1, 20, 0), (20, .getfield 16, 3, 23, 0), (23, .astore 7, 2, 25, 0), (25, .aload 7, 2, 27, 0), (27, .ifnull 85, 3, 30, 112), (112, .aload_n 1, 1, 113, 0), (113, .invokestatic 95, 3, 116, 0), (116, .pop, 1, 117, 0), (117, .aload_n 1, 1, 118, 0), (118, .checkcast 99, 3, 121, 0), (121, .astore 8, 2, 123, 0), (123, .aload 4, 2, 125, 0), (125, .astore 6, 2, 127, 0), (127, .aload 8, 2, 129, 0), (129, .aload 4, 2, 131, 0), (131, .getfield 105, 3, 134, 0), (134, .invokeinterface 107 2, 5, 139, 0), (139, .istore 5, 2, 141, 0), (141, .iload 5, 2, 143, 0), (143, .ifCond .ge 13, 3, 146, 156), (146, .aload 4, 2, 148, 0), (148, .getfield 111, 3, 151, 0), (151, .astore 4, 2, 153, 0), (153, .goto 43, 3, 156, 196), (156, .iload 5, 2, 158, 0), (158, .ifCond .le 13, 3, 161, 171), (161, .aload 4, 2, 163, 0), (163, .getfield 114, 3, 166, 0), (166, .astore 4, 2, 168, 0), (168, .goto 28, 3, 171, 196), (196, .aload 4, 2, 198, 0), (198, .ifnonnull (-75), 3, 201, 123), (201, .aload_n 0, 1, 202, 0), (202, .aload_n 1, 1, 203, 0), (203, .aload_n 2, 1, 204, 0), (204, .aload 6, 2, 206, 0), (206, .iload 5, 2, 208, 0), (208, .ifCond .ge 7, 3, 211, 215), (211, .iconst 1, 1, 212, 0), (212, .goto 4, 3, 215, 216), (215, .iconst 0, 1, 216, 0), (216, .invokevirtual 139, 3, 219, 0), (219, .aconst_null, 1, 220, 0), (220, .areturn, 1, 221, 0)]
theorem own_t78 : own_TB jdk_2729_method_31_code own_L78 := by decide +kernel
theorem own_pd46 : parseMethodDescriptor "(Ljava/lang/Object;Ljava/lang/Object;)V" = some ⟨[(.object "java/lang/Object"), (.object "java/lang/Object")], none⟩ := by decide +kernel
def own_L77 : own_T := [(0, .aload_n 0, 1, 1, 0), (1, .aload_n 1, 1, 2, 0), (2, .aload_n 2, 1, 3, 0), (3, .iconst 1, 1, 4, 0), (4, .invokevirtual 127, 3, 7, 0), (7, .areturn, 1, 8, 0)]
theorem own_t77 : own_TB jdk_2729_method_21_code own_L77 := by decide +kernel
theorem own_pd47 : parseMethodDescriptor "(Ljava/lang/Object;Ljava/lang/Object;Z)Ljava/lang/Object;" = some ⟨[(.object "java/lang/Object"), (.object "java/lang/Object"), .boolean], some (.object "java/lang/Object")⟩ := by decide +kernel
def own_L97 : own_T := [(0, .aload_n 1, 1, 1, 0), (1, .iconst 0, 1, 2, 0), (2, .putfield 290, 3, 5, 0), (5, .aload_n 1, 1, 6, 0), (6, .ifnull 252, 3, 9, 258), (9, .aload_n 1, 1, 10, 0), (10, .aload_n 0, 1, 11, 0), (11, .getfield 101, 3, 14, 0), (14, .if_acmp .eq 244, 3, 17, 258), (17, .aload_n 1, 1, 18, 0), (18, .getfield 124, 3, 21, 0), (21, .getfield 290, 3, 24, 0), (24, .ifCond .ne 234, 3, 27, 258), (258, .aload_n 0, 1, 259, 0), (259, .getfield 101, 3, 262, 0), (262, .iconst 1, 1, 263, 0), (263, .putfield 290, 3, 266, 0), (266, .return_, 1, 267, 0)]
theorem own_t97 : own_TB jdk_2729_method_83_code own_L97 := by decide +kernel
theorem own_e5_6 (m : MethodId) {a0 a1 a2 a3 a4 : Value} (h : a0.category = 1 /\ a1.category = 1 /\ a2.category = 1 /\ a3.category = 1 /\ a4.category = 1) : entryFrame m #[a0, a1, a2, a3, a4] 6 = mkF m 0 #[.val a0, .val a1, .val a2, .val a3, .val a4, .unset] [] := by simp [entryFrame, mkF, argsToLocals, h]
def own_L96 : own_T := [(0, .new 59, 3, 3, 0), (3, .dup, 1, 4, 0), (4, .aload_n 1, 1, 5, 0), (5, .aload_n 2, 1, 6, 0), (6, .aload_n 3, 1, 7, 0), (7, .invokespecial 167, 3, 10, 0), (10, .astore 5, 2, 12, 0), (12, .iload 4, 2, 14, 0), (14, .ifCond .eq 12, 3, 17, 26), (17, .aload_n 3, 1, 18, 0), (18, .aload 5, 2, 20, 0), (20, .putfield 111, 3, 23, 0), (23, .goto 9, 3, 26, 32), (26, .aload_n 3, 1, 27, 0), (27, .aload 5, 2, 29, 0), (29, .putfield 114, 3, 32, 0), (32, .aload_n 0, 1, 33, 0), (33, .aload 5, 2, 35, 0), (35, .invokevirtual 170, 3, 38, 0), (38, .aload_n 0, 1, 39, 0), (39, .dup, 1, 40, 0), (40, .getfield 7, 3, 43, 0), (43, .iconst 1, 1, 44, 0), (44, .iadd, 1, 45, 0), (45, .putfield 7, 3, 48, 0), (48, .aload_n 0, 1, 49, 0), (49, .dup, 1, 50, 0), (50, .getfield 13, 3, 53, 0), (53, .iconst 1, 1, 54, 0), (54, .iadd, 1, 55, 0), (55, .putfield 13, 3, 58, 0), (58, .return_, 1, 59, 0)]
theorem own_t96 : own_TB jdk_2729_method_29_code own_L96 := by decide +kernel
theorem own_pd48 : parseMethodDescriptor "(Ljava/util/TreeMap$Entry;)V" = some ⟨[(.object "java/util/TreeMap$Entry")], none⟩ := by decide +kernel
theorem own_pd49 : parseMethodDescriptor "(Ljava/lang/Object;)Ljava/lang/Object;" = some ⟨[(.object "java/lang/Object")], some (.object "java/lang/Object")⟩ := by decide +kernel
theorem own_pd50 : parseMethodDescriptor "(Ljava/lang/Object;Ljava/lang/Object;Ljava/util/TreeMap$Entry;Z)V" = some ⟨[(.object "java/lang/Object"), (.object "java/lang/Object"), (.object "java/util/TreeMap$Entry"), .boolean], none⟩ := by decide +kernel
theorem own_pn26 : plainName "convoke/protocol/AllToAll" = true := by first | (simp [plainName, overriddenIn]; done) | decide +kernel
def own_L85 : own_T := [(0, .aload_n 0, 1, 1, 0), (1, .getfield 15, 3, 4, 0), (4, .invokeinterface 146 1, 5, 9, 0), (9, .aload_n 0, 1, 10, 0), (10, .getfield 39, 3, 13, 0), (13, .if_icmp .ne 7, 3, 16, 20), (16, .iconst 1, 1, 17, 0), (17, .goto 4, 3, 20, 21), (20, .iconst 0, 1, 21, 0), (21, .ireturn, 1, 22, 0)]
theorem own_t85 : own_TB prog_58_method_7_code own_L85 := by decide +kernel
def own_L74 : own_T := [(0, .aload_n 0, 1, 1, 0), (1, .getfield 119, 3, 4, 0), (4, .ireturn, 1, 5, 0)]
theorem own_t74 : own_TB prog_63_method_7_code own_L74 := by decide +kernel
def own_L73 : own_T := [(0, .aload_n 0, 1, 1, 0), (1, .invokespecial 157, 3, 4, 0), (4, .ireturn, 1, 5, 0)]
theorem own_t73 : own_TB prog_62_method_14_code own_L73 := by decide +kernel
set_option maxRecDepth 65536 in
theorem own_same_74 {Z : State} {a0 : Array Value} (hw : ∀ d ∈ tables_1, d.before a0 Z = true) : (Jvm.Cond.sameMethod "convoke/protocol/BrachaFamily" "convoke/protocol/BrachaFamily" "terminated" "()Z").before a0 Z = true := by
  obtain ⟨c, r, m, -, -, hm, -, k, h2, h4⟩ := Cond.selects_spec (oh hw 341)
  have h1 := findClass_of_methodNamed hm
  exact own_sameSelf (y := (⟨"convoke/protocol/BrachaFamily", "terminated", "()Z"⟩ : MethodName)) (oh hw 532) (by decide) h1 h2 h4
def own_L91 : own_T := [(0, .iload_n 0, 1, 1, 0), (1, .iload_n 1, 1, 2, 0), (2, .if_icmp .gt 7, 3, 5, 9), (5, .iload_n 0, 1, 6, 0), (6, .goto 4, 3, 9, 10), (9, .iload_n 1, 1, 10, 0), (10, .ireturn, 1, 11, 0)]
theorem own_t91 : own_TB jdk_29_method_69_code own_L91 := by decide +kernel
theorem own_pn27 : plainName "java/util/Arrays" = true := by first | (simp [plainName, overriddenIn]; done) | decide +kernel
def own_L90 : own_T := [(0, .aload_n 2, 1, 1, 0), (1, .ldc 110, 2, 3, 0), (3, .if_acmp .ne 10, 3, 6, 13), (6, .iload_n 1, 1, 7, 0), (7, .anewarray 2, 3, 10, 0), (10, .goto 14, 3, 13, 24), (24, .astore_n 3, 1, 25, 0), (25, .aload_n 0, 1, 26, 0), (26, .iconst 0, 1, 27, 0), (27, .aload_n 3, 1, 28, 0), (28, .iconst 0, 1, 29, 0), (29, .aload_n 0, 1, 30, 0), (30, .arraylength, 1, 31, 0), (31, .iload_n 1, 1, 32, 0), (32, .invokestatic 304, 3, 35, 0), (35, .invokestatic 150, 3, 38, 0), (38, .aload_n 3, 1, 39, 0), (39, .areturn, 1, 40, 0)]
theorem own_t90 : own_TB jdk_65_method_120_code own_L90 := by decide +kernel
def own_L89 : own_T := [(0, .aload_n 0, 1, 1, 0), (1, .iload_n 1, 1, 2, 0), (2, .aload_n 0, 1, 3, 0), (3, .invokevirtual 86, 3, 6, 0), (6, .invokestatic 300, 3, 9, 0), (9, .areturn, 1, 10, 0)]
theorem own_t89 : own_TB jdk_65_method_119_code own_L89 := by decide +kernel
theorem own_pd51 : parseMethodDescriptor "([Ljava/lang/Object;ILjava/lang/Class;)[Ljava/lang/Object;" = some ⟨[(.array (.object "java/lang/Object")), .int, (.object "java/lang/Class")], some (.array (.object "java/lang/Object"))⟩ := by decide +kernel
theorem own_pn28 : plainName "java/util/ImmutableCollections$ListN" = true := by first | (simp [plainName, overriddenIn]; done) | decide +kernel
def own_L101 : own_T := [(0, .aload_n 0, 1, 1, 0), (1, .getfield 7, 3, 4, 0), (4, .aload_n 0, 1, 5, 0), (5, .getfield 7, 3, 8, 0), (8, .arraylength, 1, 9, 0), (9, .invokestatic 29, 3, 12, 0), (12, .areturn, 1, 13, 0)]
theorem own_t101 : own_TB jdk_45_method_7_code own_L101 := by decide +kernel
theorem own_pd52 : parseMethodDescriptor "([Ljava/lang/Object;I)[Ljava/lang/Object;" = some ⟨[(.array (.object "java/lang/Object")), .int], some (.array (.object "java/lang/Object"))⟩ := by decide +kernel
def own_L88 : own_T := [(0, .aload_n 0, 1, 1, 0), (1, .getfield 9, 3, 4, 0), (4, .aload_n 0, 1, 5, 0), (5, .getfield 48, 3, 8, 0), (8, .invokestatic 66, 3, 11, 0), (11, .areturn, 1, 12, 0)]
theorem own_t88 : own_TB jdk_38_method_16_code own_L88 := by decide +kernel
def own_L87 : own_T := [(0, .aload_n 0, 1, 1, 0), (1, .invokespecial 1, 3, 4, 0), (4, .aload_n 1, 1, 5, 0), (5, .invokeinterface 42 1, 5, 10, 0), (10, .astore_n 2, 1, 11, 0), (11, .aload_n 0, 1, 12, 0), (12, .aload_n 2, 1, 13, 0), (13, .arraylength, 1, 14, 0), (14, .dup_x1, 1, 15, 0), (15, .putfield 48, 3, 18, 0), (18, .ifCond .eq 39, 3, 21, 57), (21, .aload_n 1, 1, 22, 0), (22, .invokeinterface 52 1, 5, 27, 0), (27, .ldc 10, 2, 29, 0), (29, .if_acmp .ne 11, 3, 32, 40), (32, .aload_n 0, 1, 33, 0), (33, .aload_n 2, 1, 34, 0), (34, .putfield 9, 3, 37, 0), (37, .goto 27, 3, 40, 64), (64, .return_, 1, 65, 0)]
theorem own_t87 : own_TB jdk_38_method_3_code own_L87 := by decide +kernel
theorem own_pd53 : parseMethodDescriptor "()[Ljava/lang/Object;" = some ⟨[], some (.array (.object "java/lang/Object"))⟩ := by decide +kernel
def own_L93 : own_T := [(0, .aload_n 0, 1, 1, 0), (1, .invokespecial 1, 3, 4, 0), (4, .aload_n 0, 1, 5, 0), (5, .getstatic 39, 3, 8, 0), (8, .putfield 9, 3, 11, 0), (11, .return_, 1, 12, 0)]
theorem own_t93 : own_TB jdk_38_method_2_code own_L93 := by decide +kernel
theorem own_e2_6 (m : MethodId) {a0 a1 : Value} (h : a0.category = 1 /\ a1.category = 1) : entryFrame m #[a0, a1] 6 = mkF m 0 #[.val a0, .val a1, .unset, .unset, .unset, .unset] [] := by simp [entryFrame, mkF, argsToLocals, h]
def own_L94 : own_T := [(0, .aload_n 1, 1, 1, 0), (1, .invokeinterface 42 1, 5, 6, 0), (6, .astore_n 2, 1, 7, 0), (7, .aload_n 0, 1, 8, 0), (8, .dup, 1, 9, 0), (9, .getfield 63, 3, 12, 0), (12, .iconst 1, 1, 13, 0), (13, .iadd, 1, 14, 0), (14, .putfield 63, 3, 17, 0), (17, .aload_n 2, 1, 18, 0), (18, .arraylength, 1, 19, 0), (19, .istore_n 3, 1, 20, 0), (20, .iload_n 3, 1, 21, 0), (21, .ifCond .ne 5, 3, 24, 26), (24, .iconst 0, 1, 25, 0), (25, .ireturn, 1, 26, 0)]
theorem own_t94 : own_TB jdk_38_method_41_code own_L94 := by decide +kernel
def own_L100 : own_T := [(0, .aload_n 0, 1, 1, 0), (1, .getfield 29, 3, 4, 0), (4, .ifCond .eq 17, 3, 7, 21), (21, .invokestatic 105, 3, 24, 0), (24, .areturn, 1, 25, 0)]
theorem own_t100 : own_TB prog_62_method_7_code own_L100 := by decide +kernel
def own_L99 : own_T := [(0, .aload_n 0, 1, 1, 0), (1, .invokevirtual 79, 3, 4, 0), (4, .ifCond .eq 7, 3, 7, 11), (11, .aload_n 0, 1, 12, 0), (12, .invokevirtual 110, 3, 15, 0), (15, .astore_n 1, 1, 16, 0), (16, .aload_n 0, 1, 17, 0), (17, .iconst 1, 1, 18, 0), (18, .putfield 113, 3, 21, 0), (21, .aload_n 0, 1, 22, 0), (22, .invokevirtual 116, 3, 25, 0), (25, .aload_n 1, 1, 26, 0), (26, .areturn, 1, 27, 0)]
theorem own_t99 : own_TB prog_63_method_6_code own_L99 := by decide +kernel
def own_L98 : own_T := [(0, .aload_n 0, 1, 1, 0), (1, .invokespecial 160, 3, 4, 0), (4, .areturn, 1, 5, 0)]
theorem own_t98 : own_TB prog_62_method_15_code own_L98 := by decide +kernel
set_option maxRecDepth 65536 in
theorem own_same_99 {Z : State} {a0 : Array Value} (hw : ∀ d ∈ tables_1, d.before a0 Z = true) : (Jvm.Cond.sameMethod "convoke/protocol/BrachaFamily" "convoke/protocol/BrachaFamily" "quit" "()Ljava/util/List;").before a0 Z = true := by
  obtain ⟨c, r, m, -, -, hm, -, k, h2, h4⟩ := Cond.selects_spec (oh hw 341)
  have h1 := findClass_of_methodNamed hm
  exact own_sameSelf (y := (⟨"convoke/protocol/BrachaFamily", "quit", "()Ljava/util/List;"⟩ : MethodName)) (oh hw 712) (by decide) h1 h2 h4
theorem own_e1_6 (m : MethodId) {a0 : Value} (h : a0.category = 1) : entryFrame m #[a0] 6 = mkF m 0 #[.val a0, .unset, .unset, .unset, .unset, .unset] [] := by simp [entryFrame, mkF, argsToLocals, h]
def own_L35 : own_T := [(0, .iconst 0, 1, 1, 0), (1, .istore_n 1, 1, 2, 0), (2, .aload_n 0, 1, 3, 0), (3, .getfield 42, 3, 6, 0), (6, .astore_n 2, 1, 7, 0), (7, .aload_n 2, 1, 8, 0), (8, .arraylength, 1, 9, 0), (9, .istore_n 3, 1, 10, 0), (10, .iconst 0, 1, 11, 0), (11, .istore 4, 2, 13, 0), (13, .iload 4, 2, 15, 0), (15, .iload_n 3, 1, 16, 0), (16, .if_icmp .ge 23, 3, 19, 39), (19, .aload_n 2, 1, 20, 0), (20, .iload 4, 2, 22, 0), (22, .aaload, 1, 23, 0), (23, .astore 5, 2, 25, 0), (25, .aload 5, 2, 27, 0), (27, .ifnull 6, 3, 30, 33), (30, .iinc 1 1, 3, 33, 0), (33, .iinc 4 1, 3, 36, 0), (36, .goto (-23), 3, 39, 13), (39, .iload_n 1, 1, 40, 0), (40, .ireturn, 1, 41, 0)]
theorem own_t35 : own_TB prog_58_method_9_code own_L35 := by decide +kernel
def own_L92 : own_T := [(0, .new 132, 3, 3, 0), (3, .dup, 1, 4, 0), (4, .invokespecial 144, 3, 7, 0), (7, .astore_n 1, 1, 8, 0), (8, .iconst 0, 1, 9, 0), (9, .istore_n 2, 1, 10, 0), (10, .iload_n 2, 1, 11, 0), (11, .aload_n 0, 1, 12, 0), (12, .getfield 42, 3, 15, 0), (15, .arraylength, 1, 16, 0), (16, .if_icmp .ge 41, 3, 19, 57), (19, .aload_n 0, 1, 20, 0), (20, .getfield 42, 3, 23, 0), (23, .iload_n 2, 1, 24, 0), (24, .aaload, 1, 25, 0), (25, .ifnull 26, 3, 28, 51), (28, .aload_n 1, 1, 29, 0), (29, .aload_n 0, 1, 30, 0), (30, .getfield 42, 3, 33, 0), (33, .iload_n 2, 1, 34, 0), (34, .aaload, 1, 35, 0), (35, .invokevirtual 145, 3, 38, 0), (38, .invokeinterface 140 2, 5, 43, 0), (43, .pop, 1, 44, 0), (44, .aload_n 0, 1, 45, 0), (45, .getfield 42, 3, 48, 0), (48, .iload_n 2, 1, 49, 0), (49, .aconst_null, 1, 50, 0), (50, .aastore, 1, 51, 0), (51, .iinc 2 1, 3, 54, 0), (54, .goto (-44), 3, 57, 10), (57, .aload_n 1, 1, 58, 0), (58, .areturn, 1, 59, 0)]
theorem own_t92 : own_TB prog_58_method_6_code own_L92 := by decide +kernel
theorem own_pd54 : parseMethodDescriptor "(Ljava/util/Collection;)Z" = some ⟨[(.object "java/util/Collection")], some .boolean⟩ := by decide +kernel
def own_L2 : own_T := [(0, .aload_n 0, 1, 1, 0), (1, .invokespecial 7, 3, 4, 0), (4, .aload_n 0, 1, 5, 0), (5, .new 12, 3, 8, 0), (8, .dup, 1, 9, 0), (9, .invokespecial 14, 3, 12, 0), (12, .putfield 15, 3, 15, 0), (15, .iload_n 1, 1, 16, 0), (16, .iload_n 2, 1, 17, 0), (17, .invokestatic 19, 3, 20, 0), (20, .ldc 25, 2, 22, 0), (22, .iload_n 3, 1, 23, 0), (23, .iload_n 1, 1, 24, 0), (24, .invokestatic 27, 3, 27, 0), (27, .aload_n 0, 1, 28, 0), (28, .iload_n 1, 1, 29, 0), (29, .putfield 33, 3, 32, 0), (32, .aload_n 0, 1, 33, 0), (33, .iload_n 3, 1, 34, 0), (34, .putfield 37, 3, 37, 0), (37, .aload_n 0, 1, 38, 0), (38, .iload_n 1, 1, 39, 0), (39, .iload_n 2, 1, 40, 0), (40, .isub, 1, 41, 0), (41, .putfield 39, 3, 44, 0), (44, .aload_n 0, 1, 45, 0), (45, .iload_n 1, 1, 46, 0), (46, .anewarray 20, 3, 49, 0), (49, .putfield 42, 3, 52, 0), (52, .iconst 1, 1, 53, 0), (53, .istore 5, 2, 55, 0), (55, .iload 5, 2, 57, 0), (57, .iload_n 1, 1, 58, 0), (58, .if_icmp .gt 32, 3, 61, 90), (61, .aload_n 0, 1, 62, 0), (62, .getfield 42, 3, 65, 0), (65, .iload 5, 2, 67, 0), (67, .iconst 1, 1, 68, 0), (68, .isub, 1, 69, 0), (69, .new 20, 3, 72, 0), (72, .dup, 1, 73, 0), (73, .iload_n 1, 1, 74, 0), (74, .iload_n 2, 1, 75, 0), (75, .iload_n 3, 1, 76, 0), (76, .iload 5, 2, 78, 0), (78, .iload 4, 2, 80, 0), (80, .invokespecial 46, 3, 83, 0), (83, .aastore, 1, 84, 0), (84, .iinc 5 1, 3, 87, 0), (87, .goto (-32), 3, 90, 55), (90, .return_, 1, 91, 0)]
theorem own_t2 : own_TB prog_58_method_2_code own_L2 := by decide +kernel
theorem own_pd55 : parseMethodDescriptor "(IIIIZ)V" = some ⟨[.int, .int, .int, .int, .boolean], none⟩ := by decide +kernel
def own_L1 : own_T := [(0, .aload_n 0, 1, 1, 0), (1, .iload_n 1, 1, 2, 0), (2, .iload_n 2, 1, 3, 0), (3, .iload_n 3, 1, 4, 0), (4, .iconst 0, 1, 5, 0), (5, .invokespecial 1, 3, 8, 0), (8, .return_, 1, 9, 0)]
theorem own_t1 : own_TB prog_58_method_1_code own_L1 := by decide +kernel
theorem own_pd56 : parseMethodDescriptor "(IIIZ)V" = some ⟨[.int, .int, .int, .boolean], none⟩ := by decide +kernel
def own_L36 : own_T := [(0, .aload_n 1, 1, 1, 0), (1, .aload_n 0, 1, 2, 0), (2, .getfield 37, 3, 5, 0), (5, .aload_n 0, 1, 6, 0), (6, .getfield 33, 3, 9, 0), (9, .invokestatic 78, 3, 12, 0), (12, .ldc 84, 2, 14, 0), (14, .aload_n 1, 1, 15, 0), (15, .invokevirtual 86, 3, 18, 0), (18, .aload_n 0, 1, 19, 0), (19, .getfield 33, 3, 22, 0), (22, .invokestatic 27, 3, 25, 0), (25, .aload_n 1, 1, 26, 0), (26, .invokevirtual 92, 3, 29, 0), (29, .invokestatic 96, 3, 32, 0), (32, .pop, 1, 33, 0), (33, .aload_n 1, 1, 34, 0), (34, .invokevirtual 86, 3, 37, 0), (37, .iconst 1, 1, 38, 0), (38, .isub, 1, 39, 0), (39, .istore_n 2, 1, 40, 0), (40, .aload_n 0, 1, 41, 0), (41, .getfield 42, 3, 44, 0), (44, .iload_n 2, 1, 45, 0), (45, .aaload, 1, 46, 0), (46, .astore_n 3, 1, 47, 0), (47, .aload_n 3, 1, 48, 0), (48, .ifnonnull 7, 3, 51, 55), (51, .invokestatic 68, 3, 54, 0), (54, .areturn, 1, 55, 0), (55, .aload_n 3, 1, 56, 0), (56, .aload_n 1, 1, 57, 0), (57, .invokevirtual 101, 3, 60, 0), (60, .astore 4, 2, 62, 0), (62, .aload_n 3, 1, 63, 0), (63, .invokevirtual 105, 3, 66, 0), (66, .ifCond .eq 70, 3, 69, 136), (69, .aload_n 0, 1, 70, 0), (70, .getfield 15, 3, 73, 0), (73, .aload_n 1, 1, 74, 0), (74, .invokevirtual 86, 3, 77, 0), (77, .invokestatic 109, 3, 80, 0), (80, .aload_n 3, 1, 81, 0), (81, .invokevirtual 115, 3, 84, 0), (84, .invokevirtual 119, 3, 87, 0), (87, .checkcast 63, 3, 90, 0), (90, .invokeinterface 125 3, 5, 95, 0), (95, .pop, 1, 96, 0), (96, .aload_n 0, 1, 97, 0), (97, .getfield 42, 3, 100, 0), (100, .iload_n 2, 1, 101, 0), (101, .aconst_null, 1, 102, 0), (102, .aastore, 1, 103, 0), (103, .aload_n 0, 1, 104, 0), (104, .invokevirtual 131, 3, 107, 0), (107, .ifCond .eq 29, 3, 110, 136), (110, .new 132, 3, 113, 0), (113, .dup, 1, 114, 0), (114, .aload 4, 2, 116, 0), (116, .invokespecial 134, 3, 119, 0), (119, .astore 5, 2, 121, 0), (121, .aload 5, 2, 123, 0), (123, .aload_n 0, 1, 124, 0), (124, .invokevirtual 137, 3, 127, 0), (127, .invokeinterface 140 2, 5, 132, 0), (132, .pop, 1, 133, 0), (133, .aload 5, 2, 135, 0), (135, .areturn, 1, 136, 0), (136, .aload 4, 2, 138, 0), (138, .areturn, 1, 139, 0)]
theorem own_t36 : own_TB prog_58_method_5_code own_L36 := by decide +kernel
theorem own_pd57 : parseMethodDescriptor "(Lconvoke/model/Message;II)V" = some ⟨[(.object "convoke/model/Message"), .int, .int], none⟩ := by decide +kernel
theorem own_pd58 : parseMethodDescriptor "(Lconvoke/model/Message$Kind;)Lconvoke/protocol/BrachaKind;" = some ⟨[(.object "convoke/model/Message$Kind")], some (.object "convoke/protocol/BrachaKind")⟩ := by decide +kernel
theorem own_pd59 : parseMethodDescriptor "(Lconvoke/model/Message;)Ljava/util/List;" = some ⟨[(.object "convoke/model/Message")], some (.object "java/util/List")⟩ := by decide +kernel
theorem own_pd60 : parseMethodDescriptor "(I)Ljava/lang/Integer;" = some ⟨[.int], some (.object "java/lang/Integer")⟩ := by decide +kernel
theorem own_pd61 : parseMethodDescriptor "(Ljava/lang/Object;Ljava/lang/Object;)Ljava/lang/Object;" = some ⟨[(.object "java/lang/Object"), (.object "java/lang/Object")], some (.object "java/lang/Object")⟩ := by decide +kernel
theorem own_pd62 : parseMethodDescriptor "(Ljava/util/Collection;)V" = some ⟨[(.object "java/util/Collection")], none⟩ := by decide +kernel
theorem own_e6_23 (m : MethodId) {a0 a1 a2 a3 a4 a5 : Value} (h : a0.category = 1 /\ a1.category = 1 /\ a2.category = 1 /\ a3.category = 1 /\ a4.category = 1 /\ a5.category = 1) : entryFrame m #[a0, a1, a2, a3, a4, a5] 23 = mkF m 0 #[.val a0, .val a1, .val a2, .val a3, .val a4, .val a5, .unset, .unset, .unset, .unset, .unset, .unset, .unset, .unset, .unset, .unset, .unset, .unset, .unset, .unset, .unset, .unset, .unset] [] := by simp [entryFrame, mkF, argsToLocals, h]
theorem own_pn29 : plainName "convoke/protocol/AllToAllLivePinLaw" = true := by first | (simp [plainName, overriddenIn]; done) | decide +kernel
def own_L0 : own_T := [(0, .iconst 1, 1, 1, 0), (1, .iload_n 0, 1, 2, 0), (2, .bipush 7, 2, 4, 0), (4, .iand, 1, 5, 0), (5, .iadd, 1, 6, 0), (6, .istore 6, 2, 8, 0), (8, .iload_n 1, 1, 9, 0), (9, .ldc 7, 2, 11, 0), (11, .iand, 1, 12, 0), (12, .iload 6, 2, 14, 0), (14, .iconst 1, 1, 15, 0), (15, .isub, 1, 16, 0), (16, .iconst 3, 1, 17, 0), (17, .idiv, 1, 18, 0), (18, .iconst 1, 1, 19, 0), (19, .iadd, 1, 20, 0), (20, .irem, 1, 21, 0), (21, .istore 7, 2, 23, 0), (23, .iconst 1, 1, 24, 0), (24, .iload_n 2, 1, 25, 0), (25, .ldc 7, 2, 27, 0), (27, .iand, 1, 28, 0), (28, .iload 6, 2, 30, 0), (30, .irem, 1, 31, 0), (31, .iadd, 1, 32, 0), (32, .istore 8, 2, 34, 0), (34, .iconst 1, 1, 35, 0), (35, .iload_n 3, 1, 36, 0), (36, .ldc 7, 2, 38, 0), (38, .iand, 1, 39, 0), (39, .iload 6, 2, 41, 0), (41, .irem, 1, 42, 0), (42, .iadd, 1, 43, 0), (43, .istore 9, 2, 45, 0), (45, .iconst 1, 1, 46, 0), (46, .iload 4, 2, 48, 0), (48, .ldc 7, 2, 50, 0), (50, .iand, 1, 51, 0), (51, .iload 6, 2, 53, 0), (53, .irem, 1, 54, 0), (54, .iadd, 1, 55, 0), (55, .istore 10, 2, 57, 0), (57, .iconst 1, 1, 58, 0), (58, .iload 5, 2, 60, 0), (60, .ldc 8, 2, 62, 0), (62, .iand, 1, 63, 0), (63, .iload 6, 2, 65, 0), (65, .irem, 1, 66, 0), (66, .iadd, 1, 67, 0), (67, .istore 11, 2, 69, 0), (69, .iconst 1, 1, 70, 0), (70, .iload 5, 2, 72, 0), (72, .bipush 16, 2, 74, 0), (74, .iushr, 1, 75, 0), (75, .iload 6, 2, 77, 0), (77, .irem, 1, 78, 0), (78, .iadd, 1, 79, 0), (79, .istore 12, 2, 81, 0), (81, .new 9, 3, 84, 0), (84, .dup, 1, 85, 0), (85, .iload 6, 2, 87, 0), (87, .iload 7, 2, 89, 0), (89, .iload 8, 2, 91, 0), (91, .invokespecial 11, 3, 94, 0), (94, .astore 13, 2, 96, 0), (96, .new 14, 3, 99, 0), (99, .dup, 1, 100, 0), (100, .ldc 16, 2, 102, 0), (102, .invokespecial 18, 3, 105, 0), (105, .astore 14, 2, 107, 0), (107, .new 21, 3, 110, 0), (110, .dup, 1, 111, 0), (111, .iload 11, 2, 113, 0), (113, .iload 8, 2, 115, 0), (115, .iload 9, 2, 117, 0), (117, .getstatic 23, 3, 120, 0), (120, .aload 14, 2, 122, 0), (122, .invokespecial 29, 3, 125, 0), (125, .astore 15, 2, 127, 0), (127, .new 21, 3, 130, 0), (130, .dup, 1, 131, 0), (131, .iload 12, 2, 133, 0), (133, .iload 8, 2, 135, 0), (135, .iload 10, 2, 137, 0), (137, .getstatic 23, 3, 140, 0), (140, .aload 14, 2, 142, 0), (142, .invokespecial 29, 3, 145, 0), (145, .astore 16, 2, 147, 0), (147, .aload 13, 2, 149, 0), (149, .invokevirtual 32, 3, 152, 0), (152, .iload 6, 2, 154, 0), (154, .if_icmp .ne 7, 3, 157, 161), (157, .iconst 1, 1, 158, 0), (158, .goto 4, 3, 161, 162), (162, .istore 17, 2, 164, 0), (164, .aload 13, 2, 166, 0), (166, .aload 15, 2, 168, 0), (168, .invokevirtual 36, 3, 171, 0), (171, .pop, 1, 172, 0), (172, .iload 7, 2, 174, 0), (174, .ifCond .ne 10, 3, 177, 184), (177, .iload 6, 2, 179, 0), (179, .iconst 1, 1, 180, 0), (180, .isub, 1, 181, 0), (181, .goto 5, 3, 184, 186), (184, .iload 6, 2, 186, 0), (186, .istore 18, 2, 188, 0), (188, .aload 13, 2, 190, 0), (190, .invokevirtual 32, 3, 193, 0), (193, .iload 18, 2, 195, 0), (195, .if_icmp .ne 7, 3, 198, 202), (198, .iconst 1, 1, 199, 0), (199, .goto 4, 3, 202, 203), (203, .istore 19, 2, 205, 0), (205, .aload 13, 2, 207, 0), (207, .aload 16, 2, 209, 0), (209, .invokevirtual 36, 3, 212, 0), (212, .pop, 1, 213, 0), (213, .iload 7, 2, 215, 0), (215, .ifCond .eq 10, 3, 218, 225), (218, .iload 6, 2, 220, 0), (220, .istore 20, 2, 222, 0), (222, .goto 25, 3, 225, 247), (225, .iload 10, 2, 227, 0), (227, .iload 9, 2, 229, 0), (229, .if_icmp .ne 12, 3, 232, 241), (232, .iload 6, 2, 234, 0), (234, .iconst 1, 1, 235, 0), (235, .isub, 1, 236, 0), (236, .istore 20, 2, 238, 0), (238, .goto 9, 3, 241, 247), (241, .iload 6, 2, 243, 0), (243, .iconst 2, 1, 244, 0), (244, .isub, 1, 245, 0), (245, .istore 20, 2, 247, 0), (247, .aload 13, 2, 249, 0), (249, .invokevirtual 32, 3, 252, 0), (252, .iload 20, 2, 254, 0), (254, .if_icmp .ne 7, 3, 257, 261), (257, .iconst 1, 1, 258, 0), (258, .goto 4, 3, 261, 262), (262, .istore 21, 2, 264, 0), (264, .aload 13, 2, 266, 0), (266, .invokevirtual 40, 3, 269, 0), (269, .pop, 1, 270, 0), (270, .aload 13, 2, 272, 0), (272, .invokevirtual 32, 3, 275, 0), (275, .ifCond .ne 7, 3, 278, 282), (278, .iconst 1, 1, 279, 0), (279, .goto 4, 3, 282, 283), (283, .istore 22, 2, 285, 0), (285, .iload 17, 2, 287, 0), (287, .ifCond .eq 22, 3, 290, 309), (290, .iload 19, 2, 292, 0), (292, .ifCond .eq 17, 3, 295, 309), (295, .iload 21, 2, 297, 0), (297, .ifCond .eq 12, 3, 300, 309), (300, .iload 22, 2, 302, 0), (302, .ifCond .eq 7, 3, 305, 309), (305, .iconst 1, 1, 306, 0), (306, .goto 4, 3, 309, 310), (310, .ireturn, 1, 311, 0)]
theorem own_t0 : own_TB code own_L0 := by decide +kernel
theorem own_pd63 : parseMethodDescriptor "(Ljava/lang/String;)V" = some ⟨[(.object "java/lang/String")], none⟩ := by decide +kernel
abbrev f0 (Z : State) (h : Heap) (a : Addr) (v : Value) : Prop := Fld Z h a "java/util/TreeMap" "size" "I" v
abbrev f1 (Z : State) (h : Heap) (a : Addr) (v : Value) : Prop := Fld Z h a "java/util/TreeMap" "modCount" "I" v
abbrev f2 (Z : State) (h : Heap) (a : Addr) (v : Value) : Prop := Fld Z h a "java/util/TreeMap" "comparator" "Ljava/util/Comparator;" v
abbrev f3 (Z : State) (h : Heap) (a : Addr) (v : Value) : Prop := Fld Z h a "convoke/protocol/AllToAll" "values" "Ljava/util/SortedMap;" v
abbrev f4 (Z : State) (h : Heap) (a : Addr) (v : Value) : Prop := Fld Z h a "java/lang/String" "value" "[B" v
abbrev f5 (Z : State) (h : Heap) (a : Addr) (v : Value) : Prop := Fld Z h a "java/lang/String" "coder" "B" v
abbrev f6 (Z : State) (h : Heap) (a : Addr) (v : Value) : Prop := Fld Z h a "convoke/protocol/AllToAll" "parties" "I" v
abbrev f7 (Z : State) (h : Heap) (a : Addr) (v : Value) : Prop := Fld Z h a "convoke/protocol/AllToAll" "self" "I" v
abbrev f8 (Z : State) (h : Heap) (a : Addr) (v : Value) : Prop := Fld Z h a "convoke/protocol/AllToAll" "needed" "I" v
abbrev f9 (Z : State) (h : Heap) (a : Addr) (v : Value) : Prop := Fld Z h a "convoke/protocol/AllToAll" "instances" "[Lconvoke/protocol/Bracha;" v
abbrev f10 (Z : State) (h : Heap) (a : Addr) (v : Value) : Prop := Fld Z h a "convoke/protocol/Seat" "parties" "I" v
abbrev f11 (Z : State) (h : Heap) (a : Addr) (v : Value) : Prop := Fld Z h a "convoke/protocol/Seat" "self" "I" v
abbrev f12 (Z : State) (h : Heap) (a : Addr) (v : Value) : Prop := Fld Z h a "convoke/protocol/Seat" "sender" "I" v
abbrev f13 (Z : State) (h : Heap) (a : Addr) (v : Value) : Prop := Fld Z h a "convoke/protocol/BrachaFamily" "seat" "Lconvoke/protocol/Seat;" v
abbrev f14 (Z : State) (h : Heap) (a : Addr) (v : Value) : Prop := Fld Z h a "convoke/protocol/BrachaFamily" "kinds" "Lconvoke/model/Kinds;" v
abbrev f15 (Z : State) (h : Heap) (a : Addr) (v : Value) : Prop := Fld Z h a "convoke/protocol/BrachaFamily" "initKind" "Lconvoke/model/Message$Kind;" v
abbrev f16 (Z : State) (h : Heap) (a : Addr) (v : Value) : Prop := Fld Z h a "convoke/protocol/BrachaFamily" "echoKind" "Lconvoke/model/Message$Kind;" v
abbrev f17 (Z : State) (h : Heap) (a : Addr) (v : Value) : Prop := Fld Z h a "convoke/protocol/Bracha" "quitResistant" "Z" v
abbrev f18 (Z : State) (h : Heap) (a : Addr) (v : Value) : Prop := Fld Z h a "convoke/protocol/Bracha" "echoQuorum" "I" v
abbrev f19 (Z : State) (h : Heap) (a : Addr) (v : Value) : Prop := Fld Z h a "convoke/protocol/Bracha" "readySupport" "I" v
abbrev f20 (Z : State) (h : Heap) (a : Addr) (v : Value) : Prop := Fld Z h a "convoke/protocol/Bracha" "readyQuorum" "I" v
abbrev f21 (Z : State) (h : Heap) (a : Addr) (v : Value) : Prop := Fld Z h a "convoke/protocol/Bracha" "outputSupport" "I" v
abbrev f22 (Z : State) (h : Heap) (a : Addr) (v : Value) : Prop := Fld Z h a "convoke/protocol/Votes" "values" "[Lconvoke/model/Value;" v
abbrev f23 (Z : State) (h : Heap) (a : Addr) (v : Value) : Prop := Fld Z h a "convoke/protocol/Votes" "counts" "[I" v
abbrev f24 (Z : State) (h : Heap) (a : Addr) (v : Value) : Prop := Fld Z h a "convoke/protocol/Votes" "counted" "[Z" v
abbrev f25 (Z : State) (h : Heap) (a : Addr) (v : Value) : Prop := Fld Z h a "convoke/protocol/Bracha" "echoes" "Lconvoke/protocol/Votes;" v
abbrev f26 (Z : State) (h : Heap) (a : Addr) (v : Value) : Prop := Fld Z h a "convoke/protocol/Bracha" "readies" "Lconvoke/protocol/Votes;" v
abbrev f27 (Z : State) (h : Heap) (a : Addr) (v : Value) : Prop := Fld Z h a "convoke/protocol/Bracha" "readiesOrQuits" "Lconvoke/protocol/Votes;" v
abbrev f28 (Z : State) (h : Heap) (a : Addr) (v : Value) : Prop := Fld Z h a "convoke/model/Value" "bytes" "[B" v
abbrev f29 (Z : State) (h : Heap) (a : Addr) (v : Value) : Prop := Fld Z h a "convoke/model/Value" "reserved" "Ljava/lang/String;" v
abbrev f30 (Z : State) (h : Heap) (a : Addr) (v : Value) : Prop := Fld Z h a "convoke/protocol/BrachaKind" "carriesValue" "Z" v
abbrev f31 (Z : State) (h : Heap) (a : Addr) (v : Value) : Prop := Fld Z h a "convoke/model/Message" "from" "I" v
abbrev f32 (Z : State) (h : Heap) (a : Addr) (v : Value) : Prop := Fld Z h a "convoke/model/Message" "to" "I" v
abbrev f33 (Z : State) (h : Heap) (a : Addr) (v : Value) : Prop := Fld Z h a "convoke/model/Message" "instance" "I" v
abbrev f34 (Z : State) (h : Heap) (a : Addr) (v : Value) : Prop := Fld Z h a "convoke/model/Message" "kind" "Lconvoke/model/Message$Kind;" v
abbrev f35 (Z : State) (h : Heap) (a : Addr) (v : Value) : Prop := Fld Z h a "convoke/model/Message" "value" "Lconvoke/model/Value;" v
abbrev f37 (Z : State) (h : Heap) (a : Addr) (v : Value) : Prop := Fld Z h a "convoke/protocol/BrachaFamily" "terminated" "Z" v
abbrev f38 (Z : State) (h : Heap) (a : Addr) (v : Value) : Prop := Fld Z h a "convoke/protocol/BrachaFamily" "quit" "Z" v
abbrev f39 (Z : State) (h : Heap) (a : Addr) (v : Value) : Prop := Fld Z h a "convoke/protocol/Votes" "voters" "I" v
abbrev f40 (Z : State) (h : Heap) (a : Addr) (v : Value) : Prop := Fld Z h a "convoke/protocol/Votes" "distinct" "I" v
abbrev f41 (Z : State) (h : Heap) (a : Addr) (v : Value) : Prop := Fld Z h a "convoke/protocol/Bracha" "readySent" "Z" v
abbrev f42 (Z : State) (h : Heap) (a : Addr) (v : Value) : Prop := Fld Z h a "java/util/AbstractList" "modCount" "I" v
abbrev f43 (Z : State) (h : Heap) (a : Addr) (v : Value) : Prop := Fld Z h a "java/util/ArrayList" "elementData" "[Ljava/lang/Object;" v
abbrev f44 (Z : State) (h : Heap) (a : Addr) (v : Value) : Prop := Fld Z h a "java/util/ArrayList" "size" "I" v
abbrev f45 (Z : State) (h : Heap) (a : Addr) (v : Value) : Prop := Fld Z h a "convoke/protocol/BrachaFamily" "output" "Lconvoke/model/Value;" v
abbrev f46 (Z : State) (h : Heap) (a : Addr) (v : Value) : Prop := Fld Z h a "java/util/Optional" "value" "Ljava/lang/Object;" v
abbrev f47 (Z : State) (h : Heap) (a : Addr) (v : Value) : Prop := Fld Z h a "java/util/TreeMap" "root" "Ljava/util/TreeMap$Entry;" v
abbrev f48 (Z : State) (h : Heap) (a : Addr) (v : Value) : Prop := Fld Z h a "java/lang/Integer" "value" "I" v
abbrev f49 (Z : State) (h : Heap) (a : Addr) (v : Value) : Prop := Fld Z h a "java/util/TreeMap$Entry" "color" "Z" v
abbrev f50 (Z : State) (h : Heap) (a : Addr) (v : Value) : Prop := Fld Z h a "java/util/TreeMap$Entry" "key" "Ljava/lang/Object;" v
abbrev f51 (Z : State) (h : Heap) (a : Addr) (v : Value) : Prop := Fld Z h a "java/util/TreeMap$Entry" "value" "Ljava/lang/Object;" v
abbrev f52 (Z : State) (h : Heap) (a : Addr) (v : Value) : Prop := Fld Z h a "java/util/TreeMap$Entry" "parent" "Ljava/util/TreeMap$Entry;" v
abbrev f53 (Z : State) (h : Heap) (a : Addr) (v : Value) : Prop := Fld Z h a "java/util/TreeMap$Entry" "right" "Ljava/util/TreeMap$Entry;" v
abbrev f55 (Z : State) (h : Heap) (a : Addr) (v : Value) : Prop := Fld Z h a "java/util/TreeMap$Entry" "left" "Ljava/util/TreeMap$Entry;" v
abbrev f56 (Z : State) (h : Heap) (a : Addr) (v : Value) : Prop := Fld Z h a "convoke/protocol/Bracha" "quits" "I" v
def own_EL : List (String × Nat) := [("convoke/model/Message", 16), ("convoke/model/Message", 30), ("convoke/model/Value", 3), ("convoke/protocol/AllToAll", 25), ("convoke/protocol/AllToAll", 84), ("convoke/protocol/AllToAllLivePinLaw", 16), ("convoke/protocol/Bracha", 72), ("convoke/protocol/Seat", 7), ("convoke/protocol/Seat", 15), ("convoke/protocol/Seat", 52)]
theorem own_ew {Z : State} {a0 : Array Value} (hw : ∀ d ∈ tables_1, d.before a0 Z = true) : EW Z a0 own_EL := (EW.cons (oh hw 264) (by decide) (EW.cons (oh hw 277) (by decide) (EW.cons (oh hw 162) (by decide) (EW.cons (oh hw 55) (by decide) (EW.cons (oh hw 312) (by decide) (EW.cons (oh hw 158) (by decide) (EW.cons (oh hw 39) (by decide) (EW.cons (oh hw 90) (by decide) (EW.cons (oh hw 92) (by decide) (EW.cons (oh hw 306) (by decide) EW.nil))))))))))
theorem own_wS {Z : State} {a0 : Array Value} (hw : ∀ d ∈ tables_1, d.before a0 Z = true) : ∀ d ∈ Bundle.stringAtoms, d.before a0 Z = true := fun d hd => hw d ((by decide +kernel : ∀ d ∈ Bundle.stringAtoms, d ∈ tables_1) d hd)
theorem own_txt_5 : (∀ c ∈ "v".toList, c.toNat < 256) /\ "v".toList.map (fun c => Value.int (Jvm.Lit.byteI c.toNat.toUInt16)) = [.int (118 : Int32)] := ⟨by decide, by decide⟩
def own_Mi (Z : State) (C : String) (m : Addr) : Prop := ∃ (c : ClassId) (k : Class), Z.vm.findClass C = some c /\ Z.vm.classes[c]? = some k /\ k.mirror = some m
abbrev own_P0 : Type := (Nat -> Nat) × Cell × Cell × Int32 × Value
def own_P0.fKK (q : own_P0) : Addr := q.1 0
def own_P0.fKI (q : own_P0) : Addr := q.1 1
def own_P0.fKE (q : own_P0) : Addr := q.1 2
def own_P0.fKR (q : own_P0) : Addr := q.1 3
def own_P0.fKQ (q : own_P0) : Addr := q.1 4
def own_P0.fKA (q : own_P0) : Addr := q.1 5
def own_P0.kKA (q : own_P0) : ClassId := q.1 6
def own_P0.fTB (q : own_P0) : Addr := q.1 7
def own_P0.fTC (q : own_P0) : Cell := q.2.1
def own_P0.fIS (q : own_P0) : Addr := q.1 8
def own_P0.fUT (q : own_P0) : Addr := q.1 9
def own_P0.fCB (q : own_P0) : Addr := q.1 10
def own_P0.fCC (q : own_P0) : Cell := q.2.2.1
def own_P0.fOE (q : own_P0) : Addr := q.1 11
def own_P0.fEL (q : own_P0) : Addr := q.1 12
def own_P0.fEA (q : own_P0) : Addr := q.1 13
def own_P0.kEA (q : own_P0) : ClassId := q.1 14
def own_P0.fDB (q : own_P0) : Addr := q.1 15
def own_P0.kDB (q : own_P0) : ClassId := q.1 16
def own_P0.fCZ (q : own_P0) : Int32 := q.2.2.2.1
def own_P0.fSF (q : own_P0) : Value := q.2.2.2.2
def own_P0.fMO (q : own_P0) : Addr := q.1 17
def own_P0.fMA (q : own_P0) : Addr := q.1 18
def own_bvI (j : Int32) : Value := .int (j - (128 : Int32))
def own_Env (Z : State) (q : own_P0) : Prop := (Sta Z Z.heap "convoke/protocol/BrachaKind" "KINDS" "Lconvoke/model/Kinds;" (.ref q.fKK)) /\ (Sta Z Z.heap "convoke/protocol/BrachaKind" "INIT" "Lconvoke/protocol/BrachaKind;" (.ref q.fKI)) /\ (Sta Z Z.heap "convoke/protocol/BrachaKind" "ECHO" "Lconvoke/protocol/BrachaKind;" (.ref q.fKE)) /\ (Sta Z Z.heap "convoke/protocol/BrachaKind" "READY" "Lconvoke/protocol/BrachaKind;" (.ref q.fKR)) /\ (Exa Z Z.heap q.fKK "convoke/model/Kinds") /\ (Exa Z Z.heap q.fKR "convoke/protocol/BrachaKind") /\ (Fld Z Z.heap q.fKR "convoke/protocol/BrachaKind" "carriesValue" "Z" (.int (1 : Int32))) /\ (q.fKI ≠ q.fKR) /\ (q.fKE ≠ q.fKR) /\ (Fld Z Z.heap q.fKK "convoke/model/Kinds" "kinds" "[Lconvoke/model/Message$Kind;" (.ref q.fKA)) /\ (Arv Z Z.heap q.fKA q.kKA (.object "convoke/protocol/BrachaKind") (4 : Int32) [.ref q.fKI, .ref q.fKE, .ref q.fKR, .ref q.fKQ] .null) /\ (Sta Z Z.heap "convoke/model/Tokens" "TOKEN_CHARACTERS" "[Z" (.ref q.fTB)) /\ (Arr Z Z.heap q.fTB q.fTC .boolean) /\ (q.fTC.slots.size = 128) /\ (q.fTC.slots[118]? = some (.int (1 : Int32))) /\ (Sta Z Z.heap "java/nio/charset/StandardCharsets" "ISO_8859_1" "Ljava/nio/charset/Charset;" (.ref q.fIS)) /\ (Sta Z Z.heap "sun/nio/cs/ISO_8859_1" "INSTANCE" "Lsun/nio/cs/ISO_8859_1;" (.ref q.fIS)) /\ (Sta Z Z.heap "sun/nio/cs/UTF_8" "INSTANCE" "Lsun/nio/cs/UTF_8;" (.ref q.fUT)) /\ (q.fIS ≠ q.fUT) /\ (Sta Z Z.heap "java/lang/Integer$IntegerCache" "high" "I" (.int (127 : Int32))) /\ (Sta Z Z.heap "java/lang/Integer$IntegerCache" "cache" "[Ljava/lang/Integer;" (.ref q.fCB)) /\ (Bxs Z q.fCB q.fCC "java/lang/Integer" "I" (256 : Int32) own_bvI) /\ (Sta Z Z.heap "java/util/Optional" "EMPTY" "Ljava/util/Optional;" (.ref q.fOE)) /\ (Exa Z Z.heap q.fOE "java/util/Optional") /\ (Fld Z Z.heap q.fOE "java/util/Optional" "value" "Ljava/lang/Object;" .null) /\ (Sta Z Z.heap "java/util/ImmutableCollections" "EMPTY_LIST" "Ljava/util/ImmutableCollections$ListN;" (.ref q.fEL)) /\ (Exa Z Z.heap q.fEL "java/util/ImmutableCollections$ListN") /\ (Fld Z Z.heap q.fEL "java/util/ImmutableCollections$ListN" "elements" "[Ljava/lang/Object;" (.ref q.fEA)) /\ (Arv Z Z.heap q.fEA q.kEA (.object "java/lang/Object") (0 : Int32) [] .null) /\ (Exa Z Z.heap q.fEA "[Ljava/lang/Object;") /\ (Sta Z Z.heap "java/util/ArrayList" "DEFAULTCAPACITY_EMPTY_ELEMENTDATA" "[Ljava/lang/Object;" (.ref q.fDB)) /\ (Arv Z Z.heap q.fDB q.kDB (.object "java/lang/Object") (0 : Int32) [] .null) /\ (Exa Z Z.heap q.fDB "[Ljava/lang/Object;") /\ (Sta Z Z.heap "java/lang/String" "COMPACT_STRINGS" "Z" (.int q.fCZ)) /\ (¬ (q.fCZ = (0 : Int32))) /\ (Sta Z Z.heap "jdk/internal/util/Preconditions" "SIOOBE_FORMATTER" "Ljava/util/function/BiFunction;" q.fSF) /\ (q.fSF.isRef = true) /\ (own_Mi Z "[Ljava/lang/Object;" q.fMO) /\ (own_Mi Z "java/util/ArrayList" q.fMA)
theorem own_Env.sKK {Z : State} {q : own_P0} (h_ : own_Env Z q) : Sta Z Z.heap "convoke/protocol/BrachaKind" "KINDS" "Lconvoke/model/Kinds;" (.ref q.fKK) := h_.1
theorem own_Env.sKI {Z : State} {q : own_P0} (h_ : own_Env Z q) : Sta Z Z.heap "convoke/protocol/BrachaKind" "INIT" "Lconvoke/protocol/BrachaKind;" (.ref q.fKI) := h_.2.1
theorem own_Env.sKE {Z : State} {q : own_P0} (h_ : own_Env Z q) : Sta Z Z.heap "convoke/protocol/BrachaKind" "ECHO" "Lconvoke/protocol/BrachaKind;" (.ref q.fKE) := h_.2.2.1
theorem own_Env.sKR {Z : State} {q : own_P0} (h_ : own_Env Z q) : Sta Z Z.heap "convoke/protocol/BrachaKind" "READY" "Lconvoke/protocol/BrachaKind;" (.ref q.fKR) := h_.2.2.2.1
theorem own_Env.eKK {Z : State} {q : own_P0} (h_ : own_Env Z q) : Exa Z Z.heap q.fKK "convoke/model/Kinds" := h_.2.2.2.2.1
theorem own_Env.eKR {Z : State} {q : own_P0} (h_ : own_Env Z q) : Exa Z Z.heap q.fKR "convoke/protocol/BrachaKind" := h_.2.2.2.2.2.1
theorem own_Env.cKR {Z : State} {q : own_P0} (h_ : own_Env Z q) : Fld Z Z.heap q.fKR "convoke/protocol/BrachaKind" "carriesValue" "Z" (.int (1 : Int32)) := h_.2.2.2.2.2.2.1
theorem own_Env.nKI {Z : State} {q : own_P0} (h_ : own_Env Z q) : q.fKI ≠ q.fKR := h_.2.2.2.2.2.2.2.1
theorem own_Env.nKE {Z : State} {q : own_P0} (h_ : own_Env Z q) : q.fKE ≠ q.fKR := h_.2.2.2.2.2.2.2.2.1
theorem own_Env.fld {Z : State} {q : own_P0} (h_ : own_Env Z q) : Fld Z Z.heap q.fKK "convoke/model/Kinds" "kinds" "[Lconvoke/model/Message$Kind;" (.ref q.fKA) := h_.2.2.2.2.2.2.2.2.2.1
theorem own_Env.arr {Z : State} {q : own_P0} (h_ : own_Env Z q) : Arv Z Z.heap q.fKA q.kKA (.object "convoke/protocol/BrachaKind") (4 : Int32) [.ref q.fKI, .ref q.fKE, .ref q.fKR, .ref q.fKQ] .null := h_.2.2.2.2.2.2.2.2.2.2.1
theorem own_Env.sTB {Z : State} {q : own_P0} (h_ : own_Env Z q) : Sta Z Z.heap "convoke/model/Tokens" "TOKEN_CHARACTERS" "[Z" (.ref q.fTB) := h_.2.2.2.2.2.2.2.2.2.2.2.1
theorem own_Env.aTB {Z : State} {q : own_P0} (h_ : own_Env Z q) : Arr Z Z.heap q.fTB q.fTC .boolean := h_.2.2.2.2.2.2.2.2.2.2.2.2.1
theorem own_Env.zTB {Z : State} {q : own_P0} (h_ : own_Env Z q) : q.fTC.slots.size = 128 := h_.2.2.2.2.2.2.2.2.2.2.2.2.2.1
theorem own_Env.vTB {Z : State} {q : own_P0} (h_ : own_Env Z q) : q.fTC.slots[118]? = some (.int (1 : Int32)) := h_.2.2.2.2.2.2.2.2.2.2.2.2.2.2.1
theorem own_Env.sIS {Z : State} {q : own_P0} (h_ : own_Env Z q) : Sta Z Z.heap "java/nio/charset/StandardCharsets" "ISO_8859_1" "Ljava/nio/charset/Charset;" (.ref q.fIS) := h_.2.2.2.2.2.2.2.2.2.2.2.2.2.2.2.1
theorem own_Env.sI2 {Z : State} {q : own_P0} (h_ : own_Env Z q) : Sta Z Z.heap "sun/nio/cs/ISO_8859_1" "INSTANCE" "Lsun/nio/cs/ISO_8859_1;" (.ref q.fIS) := h_.2.2.2.2.2.2.2.2.2.2.2.2.2.2.2.2.1
theorem own_Env.sUT {Z : State} {q : own_P0} (h_ : own_Env Z q) : Sta Z Z.heap "sun/nio/cs/UTF_8" "INSTANCE" "Lsun/nio/cs/UTF_8;" (.ref q.fUT) := h_.2.2.2.2.2.2.2.2.2.2.2.2.2.2.2.2.2.1
theorem own_Env.nUT {Z : State} {q : own_P0} (h_ : own_Env Z q) : q.fIS ≠ q.fUT := h_.2.2.2.2.2.2.2.2.2.2.2.2.2.2.2.2.2.2.1
theorem own_Env.sIH {Z : State} {q : own_P0} (h_ : own_Env Z q) : Sta Z Z.heap "java/lang/Integer$IntegerCache" "high" "I" (.int (127 : Int32)) := h_.2.2.2.2.2.2.2.2.2.2.2.2.2.2.2.2.2.2.2.1
theorem own_Env.sIC {Z : State} {q : own_P0} (h_ : own_Env Z q) : Sta Z Z.heap "java/lang/Integer$IntegerCache" "cache" "[Ljava/lang/Integer;" (.ref q.fCB) := h_.2.2.2.2.2.2.2.2.2.2.2.2.2.2.2.2.2.2.2.2.1
theorem own_Env.bIC {Z : State} {q : own_P0} (h_ : own_Env Z q) : Bxs Z q.fCB q.fCC "java/lang/Integer" "I" (256 : Int32) own_bvI := h_.2.2.2.2.2.2.2.2.2.2.2.2.2.2.2.2.2.2.2.2.2.1
theorem own_Env.sOE {Z : State} {q : own_P0} (h_ : own_Env Z q) : Sta Z Z.heap "java/util/Optional" "EMPTY" "Ljava/util/Optional;" (.ref q.fOE) := h_.2.2.2.2.2.2.2.2.2.2.2.2.2.2.2.2.2.2.2.2.2.2.1
theorem own_Env.eOE {Z : State} {q : own_P0} (h_ : own_Env Z q) : Exa Z Z.heap q.fOE "java/util/Optional" := h_.2.2.2.2.2.2.2.2.2.2.2.2.2.2.2.2.2.2.2.2.2.2.2.1
theorem own_Env.vOE {Z : State} {q : own_P0} (h_ : own_Env Z q) : Fld Z Z.heap q.fOE "java/util/Optional" "value" "Ljava/lang/Object;" .null := h_.2.2.2.2.2.2.2.2.2.2.2.2.2.2.2.2.2.2.2.2.2.2.2.2.1
theorem own_Env.sEL {Z : State} {q : own_P0} (h_ : own_Env Z q) : Sta Z Z.heap "java/util/ImmutableCollections" "EMPTY_LIST" "Ljava/util/ImmutableCollections$ListN;" (.ref q.fEL) := h_.2.2.2.2.2.2.2.2.2.2.2.2.2.2.2.2.2.2.2.2.2.2.2.2.2.1
theorem own_Env.eEL {Z : State} {q : own_P0} (h_ : own_Env Z q) : Exa Z Z.heap q.fEL "java/util/ImmutableCollections$ListN" := h_.2.2.2.2.2.2.2.2.2.2.2.2.2.2.2.2.2.2.2.2.2.2.2.2.2.2.1
theorem own_Env.vEL {Z : State} {q : own_P0} (h_ : own_Env Z q) : Fld Z Z.heap q.fEL "java/util/ImmutableCollections$ListN" "elements" "[Ljava/lang/Object;" (.ref q.fEA) := h_.2.2.2.2.2.2.2.2.2.2.2.2.2.2.2.2.2.2.2.2.2.2.2.2.2.2.2.1
theorem own_Env.aEA {Z : State} {q : own_P0} (h_ : own_Env Z q) : Arv Z Z.heap q.fEA q.kEA (.object "java/lang/Object") (0 : Int32) [] .null := h_.2.2.2.2.2.2.2.2.2.2.2.2.2.2.2.2.2.2.2.2.2.2.2.2.2.2.2.2.1
theorem own_Env.eEA {Z : State} {q : own_P0} (h_ : own_Env Z q) : Exa Z Z.heap q.fEA "[Ljava/lang/Object;" := h_.2.2.2.2.2.2.2.2.2.2.2.2.2.2.2.2.2.2.2.2.2.2.2.2.2.2.2.2.2.1
theorem own_Env.sDB {Z : State} {q : own_P0} (h_ : own_Env Z q) : Sta Z Z.heap "java/util/ArrayList" "DEFAULTCAPACITY_EMPTY_ELEMENTDATA" "[Ljava/lang/Object;" (.ref q.fDB) := h_.2.2.2.2.2.2.2.2.2.2.2.2.2.2.2.2.2.2.2.2.2.2.2.2.2.2.2.2.2.2.1
theorem own_Env.aDB {Z : State} {q : own_P0} (h_ : own_Env Z q) : Arv Z Z.heap q.fDB q.kDB (.object "java/lang/Object") (0 : Int32) [] .null := h_.2.2.2.2.2.2.2.2.2.2.2.2.2.2.2.2.2.2.2.2.2.2.2.2.2.2.2.2.2.2.2.1
theorem own_Env.eDB {Z : State} {q : own_P0} (h_ : own_Env Z q) : Exa Z Z.heap q.fDB "[Ljava/lang/Object;" := h_.2.2.2.2.2.2.2.2.2.2.2.2.2.2.2.2.2.2.2.2.2.2.2.2.2.2.2.2.2.2.2.2.1
theorem own_Env.sCZ {Z : State} {q : own_P0} (h_ : own_Env Z q) : Sta Z Z.heap "java/lang/String" "COMPACT_STRINGS" "Z" (.int q.fCZ) := h_.2.2.2.2.2.2.2.2.2.2.2.2.2.2.2.2.2.2.2.2.2.2.2.2.2.2.2.2.2.2.2.2.2.1
theorem own_Env.hCZ {Z : State} {q : own_P0} (h_ : own_Env Z q) : ¬ (q.fCZ = (0 : Int32)) := h_.2.2.2.2.2.2.2.2.2.2.2.2.2.2.2.2.2.2.2.2.2.2.2.2.2.2.2.2.2.2.2.2.2.2.1
theorem own_Env.sSF {Z : State} {q : own_P0} (h_ : own_Env Z q) : Sta Z Z.heap "jdk/internal/util/Preconditions" "SIOOBE_FORMATTER" "Ljava/util/function/BiFunction;" q.fSF := h_.2.2.2.2.2.2.2.2.2.2.2.2.2.2.2.2.2.2.2.2.2.2.2.2.2.2.2.2.2.2.2.2.2.2.2.1
theorem own_Env.rSF {Z : State} {q : own_P0} (h_ : own_Env Z q) : q.fSF.isRef = true := h_.2.2.2.2.2.2.2.2.2.2.2.2.2.2.2.2.2.2.2.2.2.2.2.2.2.2.2.2.2.2.2.2.2.2.2.2.1
theorem own_Env.mMO {Z : State} {q : own_P0} (h_ : own_Env Z q) : own_Mi Z "[Ljava/lang/Object;" q.fMO := h_.2.2.2.2.2.2.2.2.2.2.2.2.2.2.2.2.2.2.2.2.2.2.2.2.2.2.2.2.2.2.2.2.2.2.2.2.2.1
theorem own_Env.mMA {Z : State} {q : own_P0} (h_ : own_Env Z q) : own_Mi Z "java/util/ArrayList" q.fMA := h_.2.2.2.2.2.2.2.2.2.2.2.2.2.2.2.2.2.2.2.2.2.2.2.2.2.2.2.2.2.2.2.2.2.2.2.2.2.2

theorem own_n1 {n : Int32} (h : 1 <= n.toInt /\ n.toInt <= 8) : ¬ (n + (1 : Int32)) < 0 /\ (n + (1 : Int32)).toNatClampNeg <= 9 /\ (n + (1 : Int32)).toInt = n.toInt + 1 := by
  have c := c_iadd n 1
  have r := rng32 (n + 1)
  rw [show (1 : Int32).toInt = 1 from by decide] at c
  have e : (n + (1 : Int32)).toInt = n.toInt + 1 := by omega
  refine ⟨?_, ?_, e⟩
  · rw [Int32.lt_iff_toInt_lt, e, show (0 : Int32).toInt = 0 from by decide]; omega
  · have := nat_of (show ¬ (n + (1 : Int32)) < 0 by rw [Int32.lt_iff_toInt_lt, e, show (0 : Int32).toInt = 0 from by decide]; omega)
    omega
theorem own_nn8 {n : Int32} (h : 1 <= n.toInt /\ n.toInt <= 8) : ¬ n < 0 /\ n.toNatClampNeg <= 8 := by
  have h0 : ¬ n < 0 := by rw [Int32.lt_iff_toInt_lt, show (0 : Int32).toInt = 0 from by decide]; omega
  have := nat_of h0
  exact ⟨h0, by omega⟩

theorem own_i_Record (hw : own_HW a0 Z) {a1 : Addr} (Z0 : n0 <= h0.size)  : own_M l ⟨"java/lang/Record", "<init>", "()V"⟩ jdk_30_method_1_code 1 none ⟨1, 0, 0, 12⟩ ws Z h0 n0 #[(.ref a1)] (fun v h => (v = none /\ h = h0)) := by
  refine own_beg (plainFor_of_name own_pn0) own_t13 #[.val (.ref a1)] (own_e1_1 · rfl) fun p e s m below meth c sa K X0 e0 => ?_
  have N0 := Fr.nil n0
  have H := oh hw
  refine oA X0 K rfl rfl rfl ?_
  refine oObj X0 K rfl (H 89) (H 12) (H 13) e0 rfl 0 rfl (by decide) fun T1 X1 e1 => ?_
  exact oRv X1 K rfl e1 N0 (by decide) ⟨rfl, rfl⟩
theorem own_i_AbstractMap (hw : own_HW a0 Z) {a1 : Addr} (Z0 : n0 <= h0.size)  : own_M l ⟨"java/util/AbstractMap", "<init>", "()V"⟩ jdk_71_method_1_code 1 none ⟨1, 0, 0, 12⟩ ws Z h0 n0 #[(.ref a1)] (fun v h => (v = none /\ h = h0)) := by
  refine own_beg (plainFor_of_name own_pn1) own_t5 #[.val (.ref a1)] (own_e1_1 · rfl) fun p e s m below meth c sa K X0 e0 => ?_
  have N0 := Fr.nil n0
  have H := oh hw
  refine oA X0 K rfl rfl rfl ?_
  refine oObj X0 K rfl (H 26) (H 12) (H 13) e0 rfl 0 rfl (by decide) fun T1 X1 e1 => ?_
  exact oRv X1 K rfl e1 N0 (by decide) ⟨rfl, rfl⟩
theorem own_i_TM (hw : own_HW a0 Z) {a1 : Addr} {u1 u2 : Int32} {u3 u4 : Value} (Z0 : n0 <= h0.size) (Y0 : Exa Z h0 a1 "java/util/TreeMap") (Y1 : f0 Z h0 a1 (.int u1)) (Y2 : f1 Z h0 a1 (.int u2)) (Y3 : f2 Z h0 a1 u3) (Y4 : f47 Z h0 a1 u4) (Y5 : n0 <= a1) : own_M l ⟨"java/util/TreeMap", "<init>", "()V"⟩ jdk_2729_method_1_code 1 none ⟨2, 0, 0, 24⟩ ws Z h0 n0 #[(.ref a1)] (fun v h => (v = none /\ Keep h0 h [a1] /\ (f0 Z h a1 (.int 0)) /\ (f1 Z h a1 (.int 0)) /\ (f2 Z h a1 .null) /\ (f47 Z h a1 u4))) := by
  refine own_beg (plainFor_of_name own_pn2) own_t4 #[.val (.ref a1)] (own_e1_1 · rfl) fun p e s m below meth c sa K X0 e0 => ?_
  have N0 := Fr.nil n0
  have H := oh hw
  refine oA X0 K rfl rfl rfl ?_
  refine oNc X0 K rfl (H 20) (H 21) (H 25) (H 24) (by decide) rfl e0 (own_i_AbstractMap hw Z0 ) rfl rfl (lenOf own_pd0 rfl) rfl N0 0 rfl (by decide) fun v2 T2 h2 L2 N2 q2 e2 X2 => ?_
  obtain ⟨rfl, y2⟩ := q2
  refine oA X2 K rfl rfl rfl <| oC (z := 0) X2 K rfl rfl ?_
  refine oPf (ty := .int) X2 K rfl (H 27) (e2.trans y2) Y1 Y0 (Or.inl (H 28)) (H 15) (by decide) rfl rfl N2 Y5 fun T3 h3 L3 N3 X3 e3 W3 Fw3 => ?_
  refine oA X3 K rfl rfl rfl <| oC (z := 0) X3 K rfl rfl ?_
  refine oPf (ty := .int) X3 K rfl (H 29) e3 (oFo W3 Y2 (Or.inl (H 30)) (Or.inl (H 28)) (by decide)) (Exa.wr W3 Y0) (Or.inl (H 30)) (H 15) (by decide) rfl rfl N3 Y5 fun T4 h4 L4 N4 X4 e4 W4 Fw4 => ?_
  refine oA X4 K rfl rfl rfl <| oN X4 K rfl ?_
  refine oPf (ty := (.object "java/util/Comparator")) X4 K rfl (H 31) e4 (oFo W4 (oFo W3 Y3 (Or.inr (H 32)) (Or.inl (H 28)) (by decide)) (Or.inr (H 32)) (Or.inl (H 30)) (by decide)) (Exa.wr W4 (Exa.wr W3 Y0)) (Or.inr ⟨(H 32), rfl, K.nm⟩) (H 15) (by decide) rfl rfl N4 Y5 fun T5 h5 L5 N5 X5 e5 W5 Fw5 => ?_
  exact oRv X5 K rfl e5 N5 (by decide) ⟨rfl, ((((Keep.refl _ _).wr W3 (oM 0 rfl)).wr W4 (oM 0 rfl)).wr W5 (oM 0 rfl)), (oFo W5 (oFo W4 Fw3 (Or.inl (H 28)) (Or.inl (H 30)) (by decide)) (Or.inl (H 28)) (Or.inr (H 32)) (by decide)), (oFo W5 Fw4 (Or.inl (H 30)) (Or.inr (H 32)) (by decide)), Fw5, (oFo W5 (oFo W4 (oFo W3 Y4 (Or.inl (H 564)) (Or.inl (H 28)) (by decide)) (Or.inl (H 564)) (Or.inl (H 30)) (by decide)) (Or.inl (H 564)) (Or.inr (H 32)) (by decide))⟩
theorem own_ckF (hw : own_HW a0 Z) {p1 : Int32} (Z0 : n0 <= h0.size) (ht0 : ¬ (p1 < (0 : Int32))) : own_M l ⟨"convoke/protocol/Bounds", "checkFaulty", "(I)V"⟩ prog_61_method_2_code 1 none ⟨0, 0, 0, 0⟩ ws Z h0 n0 #[(.int p1)] (fun v h => (v = none /\ h = h0)) := by
  refine own_beg (plainFor_of_name own_pn3) own_t8 #[.val (.int p1)] (own_e1_1 · rfl) fun p e s m below meth c sa K X0 e0 => ?_
  have N0 := Fr.nil n0
  refine oI X0 K rfl rfl <| oFY X0 K rfl (XT.i0_ge_t ht0) ?_
  exact oRv X0 K rfl e0 N0 (by decide) ⟨rfl, rfl⟩
theorem own_ck3 (hw : own_HW a0 Z) {s0 : Addr} {p1 p2 : Int32} (Z0 : n0 <= h0.size) (ht0 : ¬ (p2 < (0 : Int32))) (h3t : ((3 : Int64) * (p2.toInt64)) < (p1.toInt64)) : own_M l ⟨"convoke/protocol/Bounds", "checkMoreThanThreeT", "(Ljava/lang/String;II)V"⟩ prog_61_method_3_code 3 none ⟨1, 0, 0, 12⟩ ws Z h0 n0 #[(.ref s0), (.int p1), (.int p2)] (fun v h => (v = none /\ h = h0)) := by
  refine own_beg (plainFor_of_name own_pn3) own_t7 #[.val (.ref s0), .val (.int p1), .val (.int p2)] (own_e3_3 · ⟨rfl, rfl, rfl⟩) fun p e s m below meth c sa K X0 e0 => ?_
  have N0 := Fr.nil n0
  have H := oh hw
  refine oI X0 K rfl rfl ?_
  refine oTc X0 K rfl (H 51) (H 52) (H 53) (H 49) (by decide) e0 (own_ckF hw Z0 ht0) rfl (lenOf own_pd1 rfl) rfl N0 0 rfl (by decide) fun v2 T2 h2 L2 N2 q2 e2 X2 => ?_
  obtain ⟨rfl, y2⟩ := q2
  refine oI X2 K rfl rfl ?_
  refine own_fs (XS.i2l X2.here K.1 rfl (K.d rfl) rfl (Steps.refl _)) ?_
  show own_G _ _ _ _ (T2.setTop (mkF m 6 #[.val (.ref s0), .val (.int p1), .val (.int p2)] [(.long (p1.toInt64))]))
  refine own_fs (X2.ldc2Long K.1 K.ow (mvT K.wz (H 54)) (g := (mkF m 6 #[.val (.ref s0), .val (.int p1), .val (.int p2)] [(.long (p1.toInt64))])) rfl (K.d rfl) _ (Steps.refl _)) ?_
  show own_G _ _ _ _ (T2.setTop (mkF m 9 #[.val (.ref s0), .val (.int p1), .val (.int p2)] [(.long (3 : Int64)), (.long (p1.toInt64))]))
  refine oI X2 K rfl rfl ?_
  refine own_fs (XS.i2l X2.here K.1 rfl (K.d rfl) rfl (Steps.refl _)) ?_
  show own_G _ _ _ _ (T2.setTop (mkF m 11 #[.val (.ref s0), .val (.int p1), .val (.int p2)] [(.long (p2.toInt64)), (.long (3 : Int64)), (.long (p1.toInt64))]))
  refine own_fs (XS.lmul X2.here K.1 rfl (K.d rfl) rfl (Steps.refl _)) ?_
  show own_G _ _ _ _ (T2.setTop (mkF m 12 #[.val (.ref s0), .val (.int p1), .val (.int p2)] [(.long ((3 : Int64) * (p2.toInt64))), (.long (p1.toInt64))]))
  refine own_fs (XT.lcmp X2.here K.1 rfl (K.d rfl) rfl (Steps.refl _)) ?_
  show own_G _ _ _ _ (T2.setTop (mkF m 13 #[.val (.ref s0), .val (.int p1), .val (.int p2)] [(.int (XT.cmpL (p1.toInt64) ((3 : Int64) * (p2.toInt64))))]))
  refine oFY X2 K rfl (XT.ll_gt_t h3t) ?_
  exact oRv X2 K rfl (e2.trans y2) N2 (by decide) ⟨rfl, rfl⟩
theorem own_ckP (hw : own_HW a0 Z) {s0 : Addr} {p1 p2 : Int32} (Z0 : n0 <= h0.size) (hv1 : ¬ (p1 < (1 : Int32))) (hv2 : ¬ (p2 < p1)) : own_M l ⟨"convoke/model/Parties", "check", "(Ljava/lang/String;II)V"⟩ prog_25_method_2_code 3 none ⟨0, 0, 0, 0⟩ ws Z h0 n0 #[(.ref s0), (.int p1), (.int p2)] (fun v h => (v = none /\ h = h0)) := by
  refine own_beg (plainFor_of_name own_pn4) own_t9 #[.val (.ref s0), .val (.int p1), .val (.int p2)] (own_e3_3 · ⟨rfl, rfl, rfl⟩) fun p e s m below meth c sa K X0 e0 => ?_
  have N0 := Fr.nil n0
  refine oI X0 K rfl rfl <| oC (z := 1) X0 K rfl rfl <| oCN X0 K rfl (XT.ii_lt_f hv1) <| oI X0 K rfl rfl <| oI X0 K rfl rfl <| oCY X0 K rfl (XT.ii_le_t hv2) ?_
  exact oRv X0 K rfl e0 N0 (by decide) ⟨rfl, rfl⟩
theorem own_ckB (hw : own_HW a0 Z) {p1 p2 : Int32} (Z0 : n0 <= h0.size) (ht0 : ¬ (p2 < (0 : Int32))) (h3t : ((3 : Int64) * (p2.toInt64)) < (p1.toInt64)) : own_MW own_EL l ⟨"convoke/protocol/Bracha", "checkParameters", "(II)V"⟩ prog_62_method_5_code 2 none ⟨2, 2, 68, 26⟩ ws Z h0 n0 #[(.int p1), (.int p2)] (fun v h => (v = none /\ Keep h0 h [])) := by
  refine own_begW (plainFor_of_name own_pn5) own_t6 #[.val (.int p1), .val (.int p2)] (own_e2_2 · ⟨rfl, rfl⟩) fun p e s m below meth c sa K X0 e0 hh hS0 R0 => ?_
  have N0 := Fr.nil n0
  have H := oh hw
  have hEL := own_ew hw
  refine oLd (n := 64) X0 K rfl (H 39) (own_wS hw) e0 hS0 (Nat.zero_le _) hEL R0 (by decide) fun la1 T1 h1 k1 X1 e1 E1 hS1 hk1 K R1 => ?_
  refine oI X1 K rfl rfl <| oI X1 K rfl rfl ?_
  refine oTc X1 K rfl (H 47) (H 48) (H 50) (H 49) (by decide) e1 (own_ck3 hw (Nat.le_trans Z0 E1.1) ht0 h3t) rfl (lenOf own_pd2 rfl) rfl N0 0 rfl (by decide) fun v3 T3 h3 L3 N3 q3 e3 X3 => ?_
  obtain ⟨rfl, y3⟩ := q3
  exact oRvw X3 K rfl (e3.trans y3) N3 (by decide) hh hEL hS1 hk1 R1 ⟨rfl, ((Keep.refl _ _).ext E1)⟩
theorem own_i_SE (hw : own_HW a0 Z) {a1 : Addr} {p1 p2 p3 u1 u2 u3 : Int32} (Z0 : n0 <= h0.size) (Y0 : Exa Z h0 a1 "convoke/protocol/Seat") (Y1 : f10 Z h0 a1 (.int u1)) (Y2 : f11 Z h0 a1 (.int u2)) (Y3 : f12 Z h0 a1 (.int u3)) (Y4 : n0 <= a1) (hv1 : ¬ (p2 < (1 : Int32))) (hv2 : ¬ (p1 < p2)) (hv3 : ¬ (p3 < (1 : Int32))) (hv4 : ¬ (p1 < p3)) : own_MW own_EL l ⟨"convoke/protocol/Seat", "<init>", "(III)V"⟩ prog_80_method_1_code 4 none ⟨2, 4, 48, 24⟩ ws Z h0 n0 #[(.ref a1), (.int p1), (.int p2), (.int p3)] (fun v h => (v = none /\ Keep h0 h [a1] /\ (Exa Z h a1 "convoke/protocol/Seat") /\ (f10 Z h a1 (.int p1)) /\ (f11 Z h a1 (.int p2)) /\ (f12 Z h a1 (.int p3)))) := by
  refine own_begW (plainFor_of_name own_pn6) own_t12 #[.val (.ref a1), .val (.int p1), .val (.int p2), .val (.int p3)] (own_e4_4 · ⟨rfl, rfl, rfl, rfl⟩) fun p e s m below meth c sa K X0 e0 hh hS0 R0 => ?_
  have N0 := Fr.nil n0
  have H := oh hw
  have hEL := own_ew hw
  refine oA X0 K rfl rfl rfl ?_
  refine oNc X0 K rfl (H 84) (H 85) (H 88) (H 87) (by decide) rfl e0 (own_i_Record hw Z0 ) rfl rfl (lenOf own_pd0 rfl) rfl N0 0 rfl (by decide) fun v2 T2 h2 L2 N2 q2 e2 X2 => ?_
  obtain ⟨rfl, y2⟩ := q2
  refine oLd (n := 16) X2 K rfl (H 90) (own_wS hw) (e2.trans y2) hS0 (Nat.zero_le _) hEL R0 (by decide) fun la3 T3 h3 k3 X3 e3 E3 hS3 hk3 K R3 => ?_
  refine oI X3 K rfl rfl <| oI X3 K rfl rfl ?_
  refine oTc X3 K rfl (H 91) (H 57) (H 59) (H 58) (by decide) e3 (own_ckP hw (Nat.le_trans Z0 E3.1) hv1 hv2) rfl (lenOf own_pd2 rfl) rfl N2 0 rfl (by decide) fun v5 T5 h5 L5 N5 q5 e5 X5 => ?_
  obtain ⟨rfl, y5⟩ := q5
  refine oLd (n := 24) X5 K rfl (H 92) (own_wS hw) (e5.trans y5) hS3 hk3 hEL R3 (by decide) fun la6 T6 h6 k6 X6 e6 E6 hS6 hk6 K R6 => ?_
  refine oI X6 K rfl rfl <| oI X6 K rfl rfl ?_
  refine oTc X6 K rfl (H 91) (H 57) (H 59) (H 58) (by decide) e6 (own_ckP hw (Nat.le_trans Z0 (Nat.le_trans E3.1 E6.1)) hv3 hv4) rfl (lenOf own_pd2 rfl) rfl N5 0 rfl (by decide) fun v8 T8 h8 L8 N8 q8 e8 X8 => ?_
  obtain ⟨rfl, y8⟩ := q8
  refine oA X8 K rfl rfl rfl <| oI X8 K rfl rfl ?_
  refine oPf (ty := .int) X8 K rfl (H 93) (e8.trans y8) (Fld.ext E6 (Fld.ext E3 Y1)) (Exa.ext E6 (Exa.ext E3 Y0)) (Or.inr ⟨(H 94), rfl, K.nm⟩) (H 79) (by decide) rfl rfl N8 Y4 fun T9 h9 L9 N9 X9 e9 W9 Fw9 => ?_
  have R10 := own_rw R6 W9 (oSx K.wz (Exa.ext E6 (Exa.ext E3 Y0)) (by decide))
  refine oA X9 K rfl rfl rfl <| oI X9 K rfl rfl ?_
  refine oPf (ty := .int) X9 K rfl (H 95) e9 (oFo W9 (Fld.ext E6 (Fld.ext E3 Y2)) (Or.inr (H 96)) (Or.inr (H 94)) (by decide)) (Exa.wr W9 (Exa.ext E6 (Exa.ext E3 Y0))) (Or.inr ⟨(H 96), rfl, K.nm⟩) (H 79) (by decide) rfl rfl N9 Y4 fun T11 h11 L11 N11 X11 e11 W11 Fw11 => ?_
  have R12 := own_rw R10 W11 (oSx K.wz (Exa.wr W9 (Exa.ext E6 (Exa.ext E3 Y0))) (by decide))
  refine oA X11 K rfl rfl rfl <| oI X11 K rfl rfl ?_
  refine oPf (ty := .int) X11 K rfl (H 97) e11 (oFo W11 (oFo W9 (Fld.ext E6 (Fld.ext E3 Y3)) (Or.inr (H 98)) (Or.inr (H 94)) (by decide)) (Or.inr (H 98)) (Or.inr (H 96)) (by decide)) (Exa.wr W11 (Exa.wr W9 (Exa.ext E6 (Exa.ext E3 Y0)))) (Or.inr ⟨(H 98), rfl, K.nm⟩) (H 79) (by decide) rfl rfl N11 Y4 fun T13 h13 L13 N13 X13 e13 W13 Fw13 => ?_
  have R14 := own_rw R12 W13 (oSx K.wz (Exa.wr W11 (Exa.wr W9 (Exa.ext E6 (Exa.ext E3 Y0)))) (by decide))
  exact oRvw X13 K rfl e13 N13 (by decide) hh hEL hS6 (Nat.le_trans (Nat.le_trans (Nat.le_trans hk6 (Keep.of_wr W9).1) (Keep.of_wr W11).1) (Keep.of_wr W13).1) R14 ⟨rfl, ((((((Keep.refl _ _).ext E3).ext E6).wr W9 (oM 0 rfl)).wr W11 (oM 0 rfl)).wr W13 (oM 0 rfl)), (Exa.wr W13 (Exa.wr W11 (Exa.wr W9 (Exa.ext E6 (Exa.ext E3 Y0))))), (oFo W13 (oFo W11 Fw9 (Or.inr (H 94)) (Or.inr (H 96)) (by decide)) (Or.inr (H 94)) (Or.inr (H 98)) (by decide)), (oFo W13 Fw11 (Or.inr (H 96)) (Or.inr (H 98)) (by decide)), Fw13⟩
theorem own_seated (hw : own_HW a0 Z) {p1 p2 p3 p4 : Int32} (Z0 : n0 <= h0.size) (ht0 : ¬ (p2 < (0 : Int32))) (h3t : ((3 : Int64) * (p2.toInt64)) < (p1.toInt64)) (hv1 : ¬ (p3 < (1 : Int32))) (hv2 : ¬ (p1 < p3)) (hv3 : ¬ (p4 < (1 : Int32))) (hv4 : ¬ (p1 < p4)) : own_MW own_EL l ⟨"convoke/protocol/Bracha", "seated", "(IIII)Lconvoke/protocol/Seat;"⟩ prog_62_method_3_code 4 (some (.object "convoke/protocol/Seat")) ⟨3, 7, 119, 40⟩ ws Z h0 n0 #[(.int p1), (.int p2), (.int p3), (.int p4)] (fun v h => ∃ ar : Addr, (v = some (.ref ar) /\ Keep h0 h [] /\ (Exa Z h ar "convoke/protocol/Seat") /\ (f10 Z h ar (.int p1)) /\ (f11 Z h ar (.int p3)) /\ (f12 Z h ar (.int p4)) /\ (h0.size <= ar))) := by
  refine own_begW (plainFor_of_name own_pn5) own_t11 #[.val (.int p1), .val (.int p2), .val (.int p3), .val (.int p4)] (own_e4_4 · ⟨rfl, rfl, rfl, rfl⟩) fun p e s m below meth c sa K X0 e0 hh hS0 R0 => ?_
  have N0 := Fr.nil n0
  have H := oh hw
  have hEL := own_ew hw
  refine oI X0 K rfl rfl <| oI X0 K rfl rfl ?_
  refine oTw X0 K hS0 (Nat.zero_le _) hEL R0 rfl (H 77) (H 36) (H 38) (H 37) (by decide) e0 (own_ckB hw Z0 ht0 h3t) rfl (lenOf own_pd3 rfl) rfl N0 0 rfl (by decide) fun v2 T2 h2 L2 N2 q2 e2 X2 hS2 K R2 => ?_
  obtain ⟨rfl, K2⟩ := q2
  refine oNew X2 K rfl (H 78) (H 79) (H 80) e2 K2.1 (by decide) fun T3 h3 b3 g3 Y0 X3 e3 E3 A3 D3 => ?_
  have R4 := own_re R2 E3
  refine oDup X3 K rfl rfl <| oI X3 K rfl rfl <| oI X3 K rfl rfl <| oI X3 K rfl rfl ?_
  refine oNw X3 K hS2 (Nat.le_trans (Nat.le_refl _) E3.1) hEL R4 rfl (H 81) (H 82) (H 83) (H 80) (by decide) rfl e3 (own_i_SE hw (Nat.le_trans Z0 (Nat.le_trans K2.1 E3.1)) A3 (D3 (Or.inr (H 94)) (ty := .int) (by decide)) (D3 (Or.inr (H 96)) (ty := .int) (by decide)) (D3 (Or.inr (H 98)) (ty := .int) (by decide)) (Nat.le_trans Z0 Y0) hv1 hv2 hv3 hv4) rfl rfl (lenOf own_pd4 rfl) rfl N2 1 rfl (by decide) fun v6 T6 h6 L6 N6 q6 e6 X6 hS6 K R6 => ?_
  obtain ⟨rfl, K6, Y1, Y2, Y3, Y4⟩ := q6
  exact oRaw X6 K rfl rfl rfl e6 N6 (by decide) hh hEL hS6 (Nat.le_refl _) R6 ⟨b3, rfl, ((((Keep.refl _ _).trans K2 all0).ext E3).trans K6 (allS (Or.inr Y0) all0)), Y1, Y2, Y3, Y4, Y0⟩
theorem own_i_VO (hw : own_HW a0 Z) {a1 : Addr} {p1 : Int32} {u1 u2 u3 : Value} {u4 u5 : Int32} (Z0 : n0 <= h0.size) (Y0 : Exa Z h0 a1 "convoke/protocol/Votes") (Y1 : f22 Z h0 a1 u1) (Y2 : f23 Z h0 a1 u2) (Y3 : f24 Z h0 a1 u3) (Y4 : f40 Z h0 a1 (.int u4)) (Y5 : f39 Z h0 a1 (.int u5)) (Y6 : n0 <= a1) (hn8 : 1 <= p1.toInt /\ p1.toInt <= 8) : own_M l ⟨"convoke/protocol/Votes", "<init>", "(I)V"⟩ prog_88_method_1_code 2 none ⟨1, 3, 11, 12⟩ ws Z h0 n0 #[(.ref a1), (.int p1)] (fun v h => ∃ va : Addr, ∃ ca : Addr, ∃ co : Addr, ∃ kva : ClassId, ∃ kca : ClassId, ∃ kco : ClassId, (v = none /\ Keep h0 h [a1] /\ (Exa Z h a1 "convoke/protocol/Votes") /\ (f22 Z h a1 (.ref va)) /\ (f23 Z h a1 (.ref ca)) /\ (f24 Z h a1 (.ref co)) /\ (f40 Z h a1 (.int u4)) /\ (f39 Z h a1 (.int u5)) /\ (Arv Z h va kva (.object "convoke/model/Value") (1 : Int32) [.null] .null) /\ (Ovr Z kva "convoke/model/Value") /\ (Arv Z h ca kca .int 1 [(.int 0)] (.int 0)) /\ (Arh Z h co kco .boolean (p1 + (1 : Int32)) [] [] (.int 0)) /\ (h0.size <= va) /\ (h0.size <= ca) /\ (h0.size <= co))) := by
  refine own_beg (plainFor_of_name own_pn7) own_t15 #[.val (.ref a1), .val (.int p1)] (own_e2_2 · ⟨rfl, rfl⟩) fun p e s m below meth c sa K X0 e0 => ?_
  have N0 := Fr.nil n0
  have H := oh hw
  refine oA X0 K rfl rfl rfl ?_
  refine oObj X0 K rfl (H 137) (H 12) (H 13) e0 rfl 0 rfl (by decide) fun T1 X1 e1 => ?_
  refine oA X1 K rfl rfl rfl <| oC (z := 1) X1 K rfl rfl ?_
  refine oNR X1 K rfl (H 138) (H 139) e1 (Nat.le_refl _) (by decide) 1 (by decide) (by decide) fun T2 h2 b2 k2 g2 Y7 X2 e2 E2 A2 D2 O2 => ?_
  have Y8 : Arv Z h2 b2 k2 (.object "convoke/model/Value") (1 : Int32) [.null] .null := A2.pad (pad_rep [] .null 1)
  refine oPf (ty := (.array (.object "convoke/model/Value"))) X2 K rfl (H 140) e2 (Fld.ext E2 Y1) (Exa.ext E2 Y0) (Or.inl (H 141)) (H 132) (by decide) rfl rfl N0 Y6 fun T3 h3 L3 N3 X3 e3 W3 Fw3 => ?_
  refine oA X3 K rfl rfl rfl <| oC (z := 1) X3 K rfl rfl ?_
  refine oNA X3 K rfl (H 142) e3 (Nat.le_trans E2.1 (Keep.of_wr W3).1) (by decide) 1 (by decide) (by decide) fun T4 h4 b4 k4 g4 Y9 X4 e4 E4 A4 => ?_
  have Y10 : Arv Z h4 b4 k4 .int 1 [(.int 0)] (.int 0) := A4.pad (pad_rep [] (.int 0) 1)
  refine oPf (ty := (.array .int)) X4 K rfl (H 143) e4 (Fld.ext E4 (oFo W3 (Fld.ext E2 Y2) (Or.inl (H 144)) (Or.inl (H 141)) (by decide))) (Exa.ext E4 (Exa.wr W3 (Exa.ext E2 Y0))) (Or.inl (H 144)) (H 132) (by decide) rfl rfl N3 Y6 fun T5 h5 L5 N5 X5 e5 W5 Fw5 => ?_
  refine oA X5 K rfl rfl rfl <| oI X5 K rfl rfl <| oC (z := 1) X5 K rfl rfl <| oAdd X5 K rfl rfl ?_
  have z6 := (Nat.le_trans (Nat.le_trans (Nat.le_trans E2.1 (Keep.of_wr W3).1) E4.1) (Keep.of_wr W5).1)
  refine oNA X5 K rfl (H 145) e5 z6 (own_n1 hn8).1 9 (own_n1 hn8).2.1 (by decide) fun T7 h7 b7 k7 g7 Y11 X7 e7 E7 A7 => ?_
  have Y12 : Arh Z h7 b7 k7 .boolean (p1 + (1 : Int32)) [] [] (.int 0) := A7
  refine oPf (ty := (.array .boolean)) X7 K rfl (H 146) e7 (Fld.ext E7 (oFo W5 (Fld.ext E4 (oFo W3 (Fld.ext E2 Y3) (Or.inr (H 147)) (Or.inl (H 141)) (by decide))) (Or.inr (H 147)) (Or.inl (H 144)) (by decide))) (Exa.ext E7 (Exa.wr W5 (Exa.ext E4 (Exa.wr W3 (Exa.ext E2 Y0))))) (Or.inr ⟨(H 147), rfl, K.nm⟩) (H 132) (by decide) rfl rfl N5 Y6 fun T8 h8 L8 N8 X8 e8 W8 Fw8 => ?_
  exact oRv X8 K rfl e8 N8 (by decide) ⟨b2, b4, b7, k2, k4, k7, rfl, (((((((Keep.refl _ _).ext E2).wr W3 (oM 0 rfl)).ext E4).wr W5 (oM 0 rfl)).ext E7).wr W8 (oM 0 rfl)), (Exa.wr W8 (Exa.ext E7 (Exa.wr W5 (Exa.ext E4 (Exa.wr W3 (Exa.ext E2 Y0)))))), (oFo W8 (Fld.ext E7 (oFo W5 (Fld.ext E4 Fw3) (Or.inl (H 141)) (Or.inl (H 144)) (by decide))) (Or.inl (H 141)) (Or.inr (H 147)) (by decide)), (oFo W8 (Fld.ext E7 Fw5) (Or.inl (H 144)) (Or.inr (H 147)) (by decide)), Fw8, (oFo W8 (Fld.ext E7 (oFo W5 (Fld.ext E4 (oFo W3 (Fld.ext E2 Y4) (Or.inl (H 394)) (Or.inl (H 141)) (by decide))) (Or.inl (H 394)) (Or.inl (H 144)) (by decide))) (Or.inl (H 394)) (Or.inr (H 147)) (by decide)), (oFo W8 (Fld.ext E7 (oFo W5 (Fld.ext E4 (oFo W3 (Fld.ext E2 Y5) (Or.inl (H 388)) (Or.inl (H 141)) (by decide))) (Or.inl (H 388)) (Or.inl (H 144)) (by decide))) (Or.inl (H 388)) (Or.inr (H 147)) (by decide)), (((((Y8.other W3 (Ne.symm (oNe (Exa.lt Y0) Y7))).ext E4).other W5 (Ne.symm (oNe (Exa.lt Y0) Y7))).ext E7).other W8 (Ne.symm (oNe (Exa.lt Y0) Y7))), O2, (((Y10.other W5 (Ne.symm (oNe (Exa.lt Y0) Y9))).ext E7).other W8 (Ne.symm (oNe (Exa.lt Y0) Y9))), (Y12.other W8 (Ne.symm (oNe (Exa.lt Y0) Y11))), Y7, Y9, Y11⟩
theorem own_i_BF (hw : own_HW a0 Z) {a1 sd ki k2 k3 : Addr} {w_seat w_kinds w_initKind w_echoKind : Value} {w_terminated w_quit : Int32} {w_output : Value} {w_quitResistant w_echoQuorum w_readySupport w_readyQuorum w_outputSupport : Int32} {w_echoes w_readies w_readiesOrQuits : Value} {w_readySent w_quits : Int32} (Z0 : n0 <= h0.size) (Y0 : Exa Z h0 a1 "convoke/protocol/Bracha") (Y1 : f13 Z h0 a1 w_seat) (Y2 : f14 Z h0 a1 w_kinds) (Y3 : f15 Z h0 a1 w_initKind) (Y4 : f16 Z h0 a1 w_echoKind) (Y5 : f37 Z h0 a1 (.int w_terminated)) (Y6 : f38 Z h0 a1 (.int w_quit)) (Y7 : f45 Z h0 a1 w_output) (Y8 : f17 Z h0 a1 (.int w_quitResistant)) (Y9 : f18 Z h0 a1 (.int w_echoQuorum)) (Y10 : f19 Z h0 a1 (.int w_readySupport)) (Y11 : f20 Z h0 a1 (.int w_readyQuorum)) (Y12 : f21 Z h0 a1 (.int w_outputSupport)) (Y13 : f25 Z h0 a1 w_echoes) (Y14 : f26 Z h0 a1 w_readies) (Y15 : f27 Z h0 a1 w_readiesOrQuits) (Y16 : f41 Z h0 a1 (.int w_readySent)) (Y17 : f56 Z h0 a1 (.int w_quits)) (Y18 : n0 <= a1) : own_M l ⟨"convoke/protocol/BrachaFamily", "<init>", "(Lconvoke/protocol/Seat;Lconvoke/model/Kinds;Lconvoke/model/Message$Kind;Lconvoke/model/Message$Kind;)V"⟩ prog_63_method_1_code 5 none ⟨1, 0, 0, 12⟩ ws Z h0 n0 #[(.ref a1), (.ref sd), (.ref ki), (.ref k2), (.ref k3)] (fun v h => (v = none /\ Keep h0 h [a1] /\ (Exa Z h a1 "convoke/protocol/Bracha") /\ (f13 Z h a1 (.ref sd)) /\ (f14 Z h a1 (.ref ki)) /\ (f15 Z h a1 (.ref k2)) /\ (f16 Z h a1 (.ref k3)) /\ (f37 Z h a1 (.int w_terminated)) /\ (f38 Z h a1 (.int w_quit)) /\ (f45 Z h a1 w_output) /\ (f17 Z h a1 (.int w_quitResistant)) /\ (f18 Z h a1 (.int w_echoQuorum)) /\ (f19 Z h a1 (.int w_readySupport)) /\ (f20 Z h a1 (.int w_readyQuorum)) /\ (f21 Z h a1 (.int w_outputSupport)) /\ (f25 Z h a1 w_echoes) /\ (f26 Z h a1 w_readies) /\ (f27 Z h a1 w_readiesOrQuits) /\ (f41 Z h a1 (.int w_readySent)) /\ (f56 Z h a1 (.int w_quits)))) := by
  refine own_beg (plainFor_of_name own_pn8) own_t14 #[.val (.ref a1), .val (.ref sd), .val (.ref ki), .val (.ref k2), .val (.ref k3)] (own_e5_5 · ⟨rfl, rfl, rfl, rfl, rfl⟩) fun p e s m below meth c sa K X0 e0 => ?_
  have N0 := Fr.nil n0
  have H := oh hw
  refine oA X0 K rfl rfl rfl ?_
  refine oObj X0 K rfl (H 111) (H 12) (H 13) e0 rfl 0 rfl (by decide) fun T1 X1 e1 => ?_
  refine oA X1 K rfl rfl rfl <| oA X1 K rfl rfl rfl ?_
  refine oPf (ty := (.object "convoke/protocol/Seat")) X1 K rfl (H 112) e1 Y1 Y0 (Or.inr ⟨(H 113), rfl, K.nm⟩) (H 70) (by decide) rfl rfl N0 Y18 fun T2 h2 L2 N2 X2 e2 W2 Fw2 => ?_
  refine oA X2 K rfl rfl rfl <| oA X2 K rfl rfl rfl ?_
  refine oPf (ty := (.object "convoke/model/Kinds")) X2 K rfl (H 114) e2 (oFo W2 Y2 (Or.inr (H 115)) (Or.inr (H 113)) (by decide)) (Exa.wr W2 Y0) (Or.inr ⟨(H 115), rfl, K.nm⟩) (H 70) (by decide) rfl rfl N2 Y18 fun T3 h3 L3 N3 X3 e3 W3 Fw3 => ?_
  refine oA X3 K rfl rfl rfl <| oA X3 K rfl rfl rfl ?_
  refine oPf (ty := (.object "convoke/model/Message$Kind")) X3 K rfl (H 116) e3 (oFo W3 (oFo W2 Y3 (Or.inr (H 117)) (Or.inr (H 113)) (by decide)) (Or.inr (H 117)) (Or.inr (H 115)) (by decide)) (Exa.wr W3 (Exa.wr W2 Y0)) (Or.inr ⟨(H 117), rfl, K.nm⟩) (H 70) (by decide) rfl rfl N3 Y18 fun T4 h4 L4 N4 X4 e4 W4 Fw4 => ?_
  refine oA X4 K rfl rfl rfl <| oB X4 K rfl rfl rfl ?_
  refine oPf (ty := (.object "convoke/model/Message$Kind")) X4 K rfl (H 118) e4 (oFo W4 (oFo W3 (oFo W2 Y4 (Or.inr (H 119)) (Or.inr (H 113)) (by decide)) (Or.inr (H 119)) (Or.inr (H 115)) (by decide)) (Or.inr (H 119)) (Or.inr (H 117)) (by decide)) (Exa.wr W4 (Exa.wr W3 (Exa.wr W2 Y0))) (Or.inr ⟨(H 119), rfl, K.nm⟩) (H 70) (by decide) rfl rfl N4 Y18 fun T5 h5 L5 N5 X5 e5 W5 Fw5 => ?_
  exact oRv X5 K rfl e5 N5 (by decide) ⟨rfl, (((((Keep.refl _ _).wr W2 (oM 0 rfl)).wr W3 (oM 0 rfl)).wr W4 (oM 0 rfl)).wr W5 (oM 0 rfl)), (Exa.wr W5 (Exa.wr W4 (Exa.wr W3 (Exa.wr W2 Y0)))), (oFo W5 (oFo W4 (oFo W3 Fw2 (Or.inr (H 113)) (Or.inr (H 115)) (by decide)) (Or.inr (H 113)) (Or.inr (H 117)) (by decide)) (Or.inr (H 113)) (Or.inr (H 119)) (by decide)), (oFo W5 (oFo W4 Fw3 (Or.inr (H 115)) (Or.inr (H 117)) (by decide)) (Or.inr (H 115)) (Or.inr (H 119)) (by decide)), (oFo W5 Fw4 (Or.inr (H 117)) (Or.inr (H 119)) (by decide)), Fw5, (oFo W5 (oFo W4 (oFo W3 (oFo W2 Y5 (Or.inl (H 348)) (Or.inr (H 113)) (by decide)) (Or.inl (H 348)) (Or.inr (H 115)) (by decide)) (Or.inl (H 348)) (Or.inr (H 117)) (by decide)) (Or.inl (H 348)) (Or.inr (H 119)) (by decide)), (oFo W5 (oFo W4 (oFo W3 (oFo W2 Y6 (Or.inl (H 350)) (Or.inr (H 113)) (by decide)) (Or.inl (H 350)) (Or.inr (H 115)) (by decide)) (Or.inl (H 350)) (Or.inr (H 117)) (by decide)) (Or.inl (H 350)) (Or.inr (H 119)) (by decide)), (oFo W5 (oFo W4 (oFo W3 (oFo W2 Y7 (Or.inl (H 476)) (Or.inr (H 113)) (by decide)) (Or.inl (H 476)) (Or.inr (H 115)) (by decide)) (Or.inl (H 476)) (Or.inr (H 117)) (by decide)) (Or.inl (H 476)) (Or.inr (H 119)) (by decide)), (oFo W5 (oFo W4 (oFo W3 (oFo W2 Y8 (Or.inr (H 121)) (Or.inr (H 113)) (by decide)) (Or.inr (H 121)) (Or.inr (H 115)) (by decide)) (Or.inr (H 121)) (Or.inr (H 117)) (by decide)) (Or.inr (H 121)) (Or.inr (H 119)) (by decide)), (oFo W5 (oFo W4 (oFo W3 (oFo W2 Y9 (Or.inr (H 124)) (Or.inr (H 113)) (by decide)) (Or.inr (H 124)) (Or.inr (H 115)) (by decide)) (Or.inr (H 124)) (Or.inr (H 117)) (by decide)) (Or.inr (H 124)) (Or.inr (H 119)) (by decide)), (oFo W5 (oFo W4 (oFo W3 (oFo W2 Y10 (Or.inr (H 126)) (Or.inr (H 113)) (by decide)) (Or.inr (H 126)) (Or.inr (H 115)) (by decide)) (Or.inr (H 126)) (Or.inr (H 117)) (by decide)) (Or.inr (H 126)) (Or.inr (H 119)) (by decide)), (oFo W5 (oFo W4 (oFo W3 (oFo W2 Y11 (Or.inr (H 128)) (Or.inr (H 113)) (by decide)) (Or.inr (H 128)) (Or.inr (H 115)) (by decide)) (Or.inr (H 128)) (Or.inr (H 117)) (by decide)) (Or.inr (H 128)) (Or.inr (H 119)) (by decide)), (oFo W5 (oFo W4 (oFo W3 (oFo W2 Y12 (Or.inr (H 130)) (Or.inr (H 113)) (by decide)) (Or.inr (H 130)) (Or.inr (H 115)) (by decide)) (Or.inr (H 130)) (Or.inr (H 117)) (by decide)) (Or.inr (H 130)) (Or.inr (H 119)) (by decide)), (oFo W5 (oFo W4 (oFo W3 (oFo W2 Y13 (Or.inl (H 149)) (Or.inr (H 113)) (by decide)) (Or.inl (H 149)) (Or.inr (H 115)) (by decide)) (Or.inl (H 149)) (Or.inr (H 117)) (by decide)) (Or.inl (H 149)) (Or.inr (H 119)) (by decide)), (oFo W5 (oFo W4 (oFo W3 (oFo W2 Y14 (Or.inl (H 151)) (Or.inr (H 113)) (by decide)) (Or.inl (H 151)) (Or.inr (H 115)) (by decide)) (Or.inl (H 151)) (Or.inr (H 117)) (by decide)) (Or.inl (H 151)) (Or.inr (H 119)) (by decide)), (oFo W5 (oFo W4 (oFo W3 (oFo W2 Y15 (Or.inl (H 153)) (Or.inr (H 113)) (by decide)) (Or.inl (H 153)) (Or.inr (H 115)) (by decide)) (Or.inl (H 153)) (Or.inr (H 117)) (by decide)) (Or.inl (H 153)) (Or.inr (H 119)) (by decide)), (oFo W5 (oFo W4 (oFo W3 (oFo W2 Y16 (Or.inl (H 403)) (Or.inr (H 113)) (by decide)) (Or.inl (H 403)) (Or.inr (H 115)) (by decide)) (Or.inl (H 403)) (Or.inr (H 117)) (by decide)) (Or.inl (H 403)) (Or.inr (H 119)) (by decide)), (oFo W5 (oFo W4 (oFo W3 (oFo W2 Y17 (Or.inl (H 737)) (Or.inr (H 113)) (by decide)) (Or.inl (H 737)) (Or.inr (H 115)) (by decide)) (Or.inl (H 737)) (Or.inr (H 117)) (by decide)) (Or.inl (H 737)) (Or.inr (H 119)) (by decide))⟩
theorem own_i_BR (hw : own_HW a0 Z) {a1 : Addr} {p1 p2 p3 p4 : Int32} {w_seat w_kinds w_initKind w_echoKind : Value} {w_quitResistant w_echoQuorum w_readySupport w_readyQuorum w_outputSupport : Int32} {w_echoes w_readies w_readiesOrQuits : Value} {q : own_P0} (Z0 : n0 <= h0.size) (Y0 : Exa Z h0 a1 "convoke/protocol/Bracha") (Y1 : f13 Z h0 a1 w_seat) (Y2 : f14 Z h0 a1 w_kinds) (Y3 : f15 Z h0 a1 w_initKind) (Y4 : f16 Z h0 a1 w_echoKind) (Y5 : f37 Z h0 a1 (.int 0)) (Y6 : f38 Z h0 a1 (.int 0)) (Y7 : f45 Z h0 a1 .null) (Y8 : f17 Z h0 a1 (.int w_quitResistant)) (Y9 : f18 Z h0 a1 (.int w_echoQuorum)) (Y10 : f19 Z h0 a1 (.int w_readySupport)) (Y11 : f20 Z h0 a1 (.int w_readyQuorum)) (Y12 : f21 Z h0 a1 (.int w_outputSupport)) (Y13 : f25 Z h0 a1 w_echoes) (Y14 : f26 Z h0 a1 w_readies) (Y15 : f27 Z h0 a1 w_readiesOrQuits) (Y16 : f41 Z h0 a1 (.int 0)) (Y17 : f56 Z h0 a1 (.int 0)) (Y18 : n0 <= a1) (ht0 : ¬ (p2 < (0 : Int32))) (h3t : ((3 : Int64) * (p2.toInt64)) < (p1.toInt64)) (hv1 : ¬ (p3 < (1 : Int32))) (hv2 : ¬ (p1 < p3)) (hv3 : ¬ (p4 < (1 : Int32))) (hv4 : ¬ (p1 < p4)) (hn8 : 1 <= p1.toInt /\ p1.toInt <= 8) (hq : own_Env Z q) (hOld : Old Z n0 h0) : own_MW own_EL l ⟨"convoke/protocol/Bracha", "<init>", "(IIIIZ)V"⟩ prog_62_method_2_code 6 none ⟨4, 15, 151, 56⟩ ws Z h0 n0 #[(.ref a1), (.int p1), (.int p2), (.int p3), (.int p4), (.int 0)] (fun v h => ∃ sd : Addr, ∃ ec : Addr, ∃ rd : Addr, ∃ va : Addr, ∃ ca : Addr, ∃ co : Addr, ∃ kva : ClassId, ∃ kca : ClassId, ∃ kco : ClassId, (v = none /\ Keep h0 h [a1] /\ (Exa Z h a1 "convoke/protocol/Bracha") /\ (f13 Z h a1 (.ref sd)) /\ (f15 Z h a1 (.ref q.fKI)) /\ (f37 Z h a1 (.int 0)) /\ (f38 Z h a1 (.int 0)) /\ (f45 Z h a1 .null) /\ (f17 Z h a1 (.int 0)) /\ (f19 Z h a1 (.int (p2 + (1 : Int32)))) /\ (f20 Z h a1 (.int (((2 : Int32) * p2) + (1 : Int32)))) /\ (f21 Z h a1 (.int (((2 : Int32) * p2) + (1 : Int32)))) /\ (f25 Z h a1 (.ref ec)) /\ (f26 Z h a1 (.ref rd)) /\ (f27 Z h a1 .null) /\ (f41 Z h a1 (.int 0)) /\ (Exa Z h sd "convoke/protocol/Seat") /\ (f10 Z h sd (.int p1)) /\ (f11 Z h sd (.int p3)) /\ (f12 Z h sd (.int p4)) /\ (Exa Z h rd "convoke/protocol/Votes") /\ (f22 Z h rd (.ref va)) /\ (f23 Z h rd (.ref ca)) /\ (f24 Z h rd (.ref co)) /\ (f40 Z h rd (.int 0)) /\ (f39 Z h rd (.int 0)) /\ (Arv Z h va kva (.object "convoke/model/Value") (1 : Int32) [.null] .null) /\ (Ovr Z kva "convoke/model/Value") /\ (Arv Z h ca kca .int 1 [(.int 0)] (.int 0)) /\ (Arh Z h co kco .boolean (p1 + (1 : Int32)) [] [] (.int 0)) /\ (h0.size <= sd) /\ (h0.size <= ec) /\ (h0.size <= rd) /\ (h0.size <= va) /\ (h0.size <= ca) /\ (h0.size <= co))) := by
  refine own_begW (plainFor_of_name own_pn5) own_t10 #[.val (.ref a1), .val (.int p1), .val (.int p2), .val (.int p3), .val (.int p4), .val (.int 0)] (own_e6_6 · ⟨rfl, rfl, rfl, rfl, rfl, rfl⟩) fun p e s m below meth c sa K X0 e0 hh hS0 R0 => ?_
  have N0 := Fr.nil n0
  have H := oh hw
  have hEL := own_ew hw
  refine oA X0 K rfl rfl rfl <| oI X0 K rfl rfl <| oI X0 K rfl rfl <| oI X0 K rfl rfl <| oJ X0 K rfl rfl ?_
  refine oTw X0 K hS0 (Nat.zero_le _) hEL R0 rfl (H 74) (H 75) (H 76) (H 37) (by decide) e0 (own_seated hw Z0 ht0 h3t hv1 hv2 hv3 hv4) rfl (lenOf own_pd5 rfl) rfl N0 1 rfl (by decide) fun v3 T3 h3 L3 N3 q3 e3 X3 hS3 K R3 => ?_
  obtain ⟨ar1, rfl, K3, Y19, Y20, Y21, Y22, Y23⟩ := q3
  have Y24 := Y23
  refine oGs X3 K rfl (H 99) e3 (Sta.ext (Old.keep hOld K3 all0).2 hq.sKK) fun T4 X4 e4 => ?_
  refine oGs X4 K rfl (H 102) e4 (Sta.ext (Old.keep hOld K3 all0).2 hq.sKI) fun T5 X5 e5 => ?_
  refine oGs X5 K rfl (H 104) e5 (Sta.ext (Old.keep hOld K3 all0).2 hq.sKE) fun T6 X6 e6 => ?_
  refine oNc X6 K rfl (H 106) (H 107) (H 110) (H 109) (by decide) rfl e6 (own_i_BF hw (Nat.le_trans Z0 K3.1) (Y0.keep K3) (Y1.keep K3 nin0) (Y2.keep K3 nin0) (Y3.keep K3 nin0) (Y4.keep K3 nin0) (Y5.keep K3 nin0) (Y6.keep K3 nin0) (Y7.keep K3 nin0) (Y8.keep K3 nin0) (Y9.keep K3 nin0) (Y10.keep K3 nin0) (Y11.keep K3 nin0) (Y12.keep K3 nin0) (Y13.keep K3 nin0) (Y14.keep K3 nin0) (Y15.keep K3 nin0) (Y16.keep K3 nin0) (Y17.keep K3 nin0) Y18) rfl rfl (lenOf own_pd6 rfl) rfl N3 0 rfl (by decide) fun v8 T8 h8 L8 N8 q8 e8 X8 => ?_
  obtain ⟨rfl, K8, Y25, Y26, Y27, Y28, Y29, Y30, Y31, Y32, Y33, Y34, Y35, Y36, Y37, Y38, Y39, Y40, Y41, Y42⟩ := q8
  have R9 := own_rk R3 K8 (sfS (oSx K.wz (Y0.keep K3) (by decide)) sf0)
  refine oA X8 K rfl rfl rfl <| oJ X8 K rfl rfl ?_
  refine oPf (ty := .boolean) (v' := (.int 0)) X8 K rfl (H 120) e8 Y33 Y25 (Or.inr ⟨(H 121), rfl, K.nm⟩) (H 70) (by decide) rfl rfl N8 Y18 fun T10 h10 L10 N10 X10 e10 W10 Fw10 => ?_
  have R11 := own_rw R9 W10 (oSx K.wz Y25 (by decide))
  refine oA X10 K rfl rfl rfl <| oI X10 K rfl rfl ?_
  refine own_fs (XS.i2l X10.here K.1 rfl (K.d rfl) rfl (Steps.refl _)) ?_
  show own_G _ _ _ _ (T10.setTop (mkF m 30 #[.val (.ref a1), .val (.int p1), .val (.int p2), .val (.int p3), .val (.int p4), .val (.int 0)] [(.long (p1.toInt64)), (.ref a1)]))
  refine oI X10 K rfl rfl ?_
  refine own_fs (XS.i2l X10.here K.1 rfl (K.d rfl) rfl (Steps.refl _)) ?_
  show own_G _ _ _ _ (T10.setTop (mkF m 32 #[.val (.ref a1), .val (.int p1), .val (.int p2), .val (.int p3), .val (.int p4), .val (.int 0)] [(.long (p2.toInt64)), (.long (p1.toInt64)), (.ref a1)]))
  refine own_fs (XS.ladd X10.here K.1 rfl (K.d rfl) rfl (Steps.refl _)) ?_
  show own_G _ _ _ _ (T10.setTop (mkF m 33 #[.val (.ref a1), .val (.int p1), .val (.int p2), .val (.int p3), .val (.int p4), .val (.int 0)] [(.long ((p1.toInt64) + (p2.toInt64))), (.ref a1)]))
  refine own_fs (X10.ldc2Long K.1 K.ow (mvT K.wz (H 122)) (g := (mkF m 33 #[.val (.ref a1), .val (.int p1), .val (.int p2), .val (.int p3), .val (.int p4), .val (.int 0)] [(.long ((p1.toInt64) + (p2.toInt64))), (.ref a1)])) rfl (K.d rfl) _ (Steps.refl _)) ?_
  show own_G _ _ _ _ (T10.setTop (mkF m 36 #[.val (.ref a1), .val (.int p1), .val (.int p2), .val (.int p3), .val (.int p4), .val (.int 0)] [(.long (2 : Int64)), (.long ((p1.toInt64) + (p2.toInt64))), (.ref a1)]))
  refine own_fs (XS.ldiv X10.here K.1 rfl (K.d rfl) rfl (by decide) (Steps.refl _)) ?_
  show own_G _ _ _ _ (T10.setTop (mkF m 37 #[.val (.ref a1), .val (.int p1), .val (.int p2), .val (.int p3), .val (.int p4), .val (.int 0)] [(.long (((p1.toInt64) + (p2.toInt64)) / (2 : Int64))), (.ref a1)]))
  refine own_fs (XS.lconst X10.here K.1 rfl (K.d rfl) (Steps.refl _)) ?_
  show own_G _ _ _ _ (T10.setTop (mkF m 38 #[.val (.ref a1), .val (.int p1), .val (.int p2), .val (.int p3), .val (.int p4), .val (.int 0)] [(.long (1 : Int64)), (.long (((p1.toInt64) + (p2.toInt64)) / (2 : Int64))), (.ref a1)]))
  refine own_fs (XS.ladd X10.here K.1 rfl (K.d rfl) rfl (Steps.refl _)) ?_
  show own_G _ _ _ _ (T10.setTop (mkF m 39 #[.val (.ref a1), .val (.int p1), .val (.int p2), .val (.int p3), .val (.int p4), .val (.int 0)] [(.long ((((p1.toInt64) + (p2.toInt64)) / (2 : Int64)) + (1 : Int64))), (.ref a1)]))
  refine own_fs (XS.l2i X10.here K.1 rfl (K.d rfl) rfl (Steps.refl _)) ?_
  show own_G _ _ _ _ (T10.setTop (mkF m 40 #[.val (.ref a1), .val (.int p1), .val (.int p2), .val (.int p3), .val (.int p4), .val (.int 0)] [(.int (((((p1.toInt64) + (p2.toInt64)) / (2 : Int64)) + (1 : Int64)).toInt32)), (.ref a1)]))
  refine oPf (ty := .int) X10 K rfl (H 123) e10 (oFo W10 Y34 (Or.inr (H 124)) (Or.inr (H 121)) (by decide)) (Exa.wr W10 Y25) (Or.inr ⟨(H 124), rfl, K.nm⟩) (H 70) (by decide) rfl rfl N10 Y18 fun T12 h12 L12 N12 X12 e12 W12 Fw12 => ?_
  have R13 := own_rw R11 W12 (oSx K.wz (Exa.wr W10 Y25) (by decide))
  refine oA X12 K rfl rfl rfl <| oI X12 K rfl rfl <| oC (z := 1) X12 K rfl rfl <| oAdd X12 K rfl rfl ?_
  refine oPf (ty := .int) X12 K rfl (H 125) e12 (oFo W12 (oFo W10 Y35 (Or.inr (H 126)) (Or.inr (H 121)) (by decide)) (Or.inr (H 126)) (Or.inr (H 124)) (by decide)) (Exa.wr W12 (Exa.wr W10 Y25)) (Or.inr ⟨(H 126), rfl, K.nm⟩) (H 70) (by decide) rfl rfl N12 Y18 fun T14 h14 L14 N14 X14 e14 W14 Fw14 => ?_
  have R15 := own_rw R13 W14 (oSx K.wz (Exa.wr W12 (Exa.wr W10 Y25)) (by decide))
  refine oA X14 K rfl rfl rfl <| oC (z := 2) X14 K rfl rfl <| oI X14 K rfl rfl ?_
  refine own_fs (XS.imul X14.here K.1 rfl (K.d rfl) rfl (Steps.refl _)) ?_
  show own_G _ _ _ _ (T14.setTop (mkF m 54 #[.val (.ref a1), .val (.int p1), .val (.int p2), .val (.int p3), .val (.int p4), .val (.int 0)] [(.int ((2 : Int32) * p2)), (.ref a1)]))
  refine oC (z := 1) X14 K rfl rfl <| oAdd X14 K rfl rfl ?_
  refine oPf (ty := .int) X14 K rfl (H 127) e14 (oFo W14 (oFo W12 (oFo W10 Y36 (Or.inr (H 128)) (Or.inr (H 121)) (by decide)) (Or.inr (H 128)) (Or.inr (H 124)) (by decide)) (Or.inr (H 128)) (Or.inr (H 126)) (by decide)) (Exa.wr W14 (Exa.wr W12 (Exa.wr W10 Y25))) (Or.inr ⟨(H 128), rfl, K.nm⟩) (H 70) (by decide) rfl rfl N14 Y18 fun T16 h16 L16 N16 X16 e16 W16 Fw16 => ?_
  have R17 := own_rw R15 W16 (oSx K.wz (Exa.wr W14 (Exa.wr W12 (Exa.wr W10 Y25))) (by decide))
  refine oA X16 K rfl rfl rfl <| oJ X16 K rfl rfl <| oFY X16 K rfl (XT.i0_eq_t (by decide : (0 : Int32) = (0 : Int32))) <| oA X16 K rfl rfl rfl ?_
  refine oGf X16 K rfl (H 127) e16 Fw16 fun T18 X18 e18 => ?_
  refine oPf (ty := .int) X18 K rfl (H 129) e18 (oFo W16 (oFo W14 (oFo W12 (oFo W10 Y37 (Or.inr (H 130)) (Or.inr (H 121)) (by decide)) (Or.inr (H 130)) (Or.inr (H 124)) (by decide)) (Or.inr (H 130)) (Or.inr (H 126)) (by decide)) (Or.inr (H 130)) (Or.inr (H 128)) (by decide)) (Exa.wr W16 (Exa.wr W14 (Exa.wr W12 (Exa.wr W10 Y25)))) (Or.inr ⟨(H 130), rfl, K.nm⟩) (H 70) (by decide) rfl rfl N16 Y18 fun T19 h19 L19 N19 X19 e19 W19 Fw19 => ?_
  have R20 := own_rw R17 W19 (oSx K.wz (Exa.wr W16 (Exa.wr W14 (Exa.wr W12 (Exa.wr W10 Y25)))) (by decide))
  refine oA X19 K rfl rfl rfl ?_
  have z21 := (Nat.le_trans (Nat.le_trans (Nat.le_trans (Nat.le_trans (Nat.le_trans (Nat.le_trans K3.1 K8.1) (Keep.of_wr W10).1) (Keep.of_wr W12).1) (Keep.of_wr W14).1) (Keep.of_wr W16).1) (Keep.of_wr W19).1)
  refine oNew X19 K rfl (H 131) (H 132) (H 133) e19 z21 (by decide) fun T22 h22 b22 g22 Y43 X22 e22 E22 A22 D22 => ?_
  have R23 := own_re R20 E22
  refine oDup X22 K rfl rfl <| oI X22 K rfl rfl ?_
  refine oNc X22 K rfl (H 134) (H 135) (H 136) (H 133) (by decide) rfl e22 (own_i_VO hw (Nat.le_trans Z0 (Nat.le_trans z21 E22.1)) A22 (D22 (Or.inl (H 141)) (ty := (.array (.object "convoke/model/Value"))) (by decide)) (D22 (Or.inl (H 144)) (ty := (.array .int)) (by decide)) (D22 (Or.inr (H 147)) (ty := (.array .boolean)) (by decide)) (D22 (Or.inl (H 394)) (ty := .int) (by decide)) (D22 (Or.inl (H 388)) (ty := .int) (by decide)) (Nat.le_trans Z0 Y43) hn8) rfl rfl (lenOf own_pd1 rfl) rfl N19 2 rfl (by decide) fun v31 T31 h31 L31 N31 q31 e31 X31 => ?_
  obtain ⟨va24, ca25, co26, kva27, kca28, kco29, rfl, K31, Y44, Y45, Y46, Y47, Y48, Y49, Y50, Y51, Y52, Y53, Y54, Y55, Y56⟩ := q31
  have R32 := own_rk R23 K31 (sfS (oSx K.wz A22 (by decide)) sf0)
  refine oPf (ty := (.object "convoke/protocol/Votes")) X31 K rfl (H 148) e31 ((Fld.ext E22 (oFo W19 (oFo W16 (oFo W14 (oFo W12 (oFo W10 Y38 (Or.inl (H 149)) (Or.inr (H 121)) (by decide)) (Or.inl (H 149)) (Or.inr (H 124)) (by decide)) (Or.inl (H 149)) (Or.inr (H 126)) (by decide)) (Or.inl (H 149)) (Or.inr (H 128)) (by decide)) (Or.inl (H 149)) (Or.inr (H 130)) (by decide))).keep K31 (ninS (oNe (Exa.lt Y0) Y43) nin0)) ((Exa.ext E22 (Exa.wr W19 (Exa.wr W16 (Exa.wr W14 (Exa.wr W12 (Exa.wr W10 Y25)))))).keep K31) (Or.inl (H 149)) (H 70) (by decide) rfl rfl N31 Y18 fun T33 h33 L33 N33 X33 e33 W33 Fw33 => ?_
  have R34 := own_rw R32 W33 (oSx K.wz ((Exa.ext E22 (Exa.wr W19 (Exa.wr W16 (Exa.wr W14 (Exa.wr W12 (Exa.wr W10 Y25)))))).keep K31) (by decide))
  refine oA X33 K rfl rfl rfl ?_
  have z35 := (Nat.le_trans (Nat.le_trans (Nat.le_trans z21 E22.1) K31.1) (Keep.of_wr W33).1)
  refine oNew X33 K rfl (H 131) (H 132) (H 133) e33 z35 (by decide) fun T36 h36 b36 g36 Y57 X36 e36 E36 A36 D36 => ?_
  have R37 := own_re R34 E36
  refine oDup X36 K rfl rfl <| oI X36 K rfl rfl ?_
  refine oNc X36 K rfl (H 134) (H 135) (H 136) (H 133) (by decide) rfl e36 (own_i_VO hw (Nat.le_trans Z0 (Nat.le_trans z35 E36.1)) A36 (D36 (Or.inl (H 141)) (ty := (.array (.object "convoke/model/Value"))) (by decide)) (D36 (Or.inl (H 144)) (ty := (.array .int)) (by decide)) (D36 (Or.inr (H 147)) (ty := (.array .boolean)) (by decide)) (D36 (Or.inl (H 394)) (ty := .int) (by decide)) (D36 (Or.inl (H 388)) (ty := .int) (by decide)) (Nat.le_trans Z0 Y57) hn8) rfl rfl (lenOf own_pd1 rfl) rfl N33 2 rfl (by decide) fun v45 T45 h45 L45 N45 q45 e45 X45 => ?_
  obtain ⟨va38, ca39, co40, kva41, kca42, kco43, rfl, K45, Y58, Y59, Y60, Y61, Y62, Y63, Y64, Y65, Y66, Y67, Y68, Y69, Y70⟩ := q45
  have R46 := own_rk R37 K45 (sfS (oSx K.wz A36 (by decide)) sf0)
  have Y71 := Nat.le_trans (Nat.le_trans z35 E36.1) Y68
  have Y72 := Nat.le_trans (Nat.le_trans z35 E36.1) Y69
  have Y73 := Nat.le_trans (Nat.le_trans z35 E36.1) Y70
  refine oPf (ty := (.object "convoke/protocol/Votes")) X45 K rfl (H 150) e45 ((Fld.ext E36 (oFo W33 ((Fld.ext E22 (oFo W19 (oFo W16 (oFo W14 (oFo W12 (oFo W10 Y39 (Or.inl (H 151)) (Or.inr (H 121)) (by decide)) (Or.inl (H 151)) (Or.inr (H 124)) (by decide)) (Or.inl (H 151)) (Or.inr (H 126)) (by decide)) (Or.inl (H 151)) (Or.inr (H 128)) (by decide)) (Or.inl (H 151)) (Or.inr (H 130)) (by decide))).keep K31 (ninS (oNe (Exa.lt Y0) Y43) nin0)) (Or.inl (H 151)) (Or.inl (H 149)) (by decide))).keep K45 (ninS (oNe (Exa.lt Y0) Y57) nin0)) ((Exa.ext E36 (Exa.wr W33 ((Exa.ext E22 (Exa.wr W19 (Exa.wr W16 (Exa.wr W14 (Exa.wr W12 (Exa.wr W10 Y25)))))).keep K31))).keep K45) (Or.inl (H 151)) (H 70) (by decide) rfl rfl N45 Y18 fun T47 h47 L47 N47 X47 e47 W47 Fw47 => ?_
  have R48 := own_rw R46 W47 (oSx K.wz ((Exa.ext E36 (Exa.wr W33 ((Exa.ext E22 (Exa.wr W19 (Exa.wr W16 (Exa.wr W14 (Exa.wr W12 (Exa.wr W10 Y25)))))).keep K31))).keep K45) (by decide))
  refine oA X47 K rfl rfl rfl <| oJ X47 K rfl rfl <| oFY X47 K rfl (XT.i0_eq_t (by decide : (0 : Int32) = (0 : Int32))) <| oN X47 K rfl ?_
  refine oPf (ty := (.object "convoke/protocol/Votes")) X47 K rfl (H 152) e47 (oFo W47 ((Fld.ext E36 (oFo W33 ((Fld.ext E22 (oFo W19 (oFo W16 (oFo W14 (oFo W12 (oFo W10 Y40 (Or.inl (H 153)) (Or.inr (H 121)) (by decide)) (Or.inl (H 153)) (Or.inr (H 124)) (by decide)) (Or.inl (H 153)) (Or.inr (H 126)) (by decide)) (Or.inl (H 153)) (Or.inr (H 128)) (by decide)) (Or.inl (H 153)) (Or.inr (H 130)) (by decide))).keep K31 (ninS (oNe (Exa.lt Y0) Y43) nin0)) (Or.inl (H 153)) (Or.inl (H 149)) (by decide))).keep K45 (ninS (oNe (Exa.lt Y0) Y57) nin0)) (Or.inl (H 153)) (Or.inl (H 151)) (by decide)) (Exa.wr W47 ((Exa.ext E36 (Exa.wr W33 ((Exa.ext E22 (Exa.wr W19 (Exa.wr W16 (Exa.wr W14 (Exa.wr W12 (Exa.wr W10 Y25)))))).keep K31))).keep K45)) (Or.inl (H 153)) (H 70) (by decide) rfl rfl N47 Y18 fun T49 h49 L49 N49 X49 e49 W49 Fw49 => ?_
  have R50 := own_rw R48 W49 (oSx K.wz (Exa.wr W47 ((Exa.ext E36 (Exa.wr W33 ((Exa.ext E22 (Exa.wr W19 (Exa.wr W16 (Exa.wr W14 (Exa.wr W12 (Exa.wr W10 Y25)))))).keep K31))).keep K45)) (by decide))
  exact oRvw X49 K rfl e49 N49 (by decide) hh hEL hS3 (Nat.le_trans (Nat.le_trans (Nat.le_trans (Nat.le_trans (Nat.le_trans (Nat.le_trans (Nat.le_trans (Nat.le_trans (Nat.le_trans (Nat.le_trans (Nat.le_trans (Nat.le_trans (Nat.le_trans (Nat.le_refl _) K8.1) (Keep.of_wr W10).1) (Keep.of_wr W12).1) (Keep.of_wr W14).1) (Keep.of_wr W16).1) (Keep.of_wr W19).1) E22.1) K31.1) (Keep.of_wr W33).1) E36.1) K45.1) (Keep.of_wr W47).1) (Keep.of_wr W49).1) R50 ⟨ar1, b22, b36, va38, ca39, co40, kva41, kca42, kco43, rfl, (((((((((((((((Keep.refl _ _).trans K3 all0).trans K8 (allS (oM 0 rfl) all0)).wr W10 (oM 0 rfl)).wr W12 (oM 0 rfl)).wr W14 (oM 0 rfl)).wr W16 (oM 0 rfl)).wr W19 (oM 0 rfl)).ext E22).trans K31 (allS (Or.inr Y43) all0)).wr W33 (oM 0 rfl)).ext E36).trans K45 (allS (Or.inr Y57) all0)).wr W47 (oM 0 rfl)).wr W49 (oM 0 rfl)), (Exa.wr W49 (Exa.wr W47 ((Exa.ext E36 (Exa.wr W33 ((Exa.ext E22 (Exa.wr W19 (Exa.wr W16 (Exa.wr W14 (Exa.wr W12 (Exa.wr W10 Y25)))))).keep K31))).keep K45))), (oFo W49 (oFo W47 ((Fld.ext E36 (oFo W33 ((Fld.ext E22 (oFo W19 (oFo W16 (oFo W14 (oFo W12 (oFo W10 Y26 (Or.inr (H 113)) (Or.inr (H 121)) (by decide)) (Or.inr (H 113)) (Or.inr (H 124)) (by decide)) (Or.inr (H 113)) (Or.inr (H 126)) (by decide)) (Or.inr (H 113)) (Or.inr (H 128)) (by decide)) (Or.inr (H 113)) (Or.inr (H 130)) (by decide))).keep K31 (ninS (oNe (Exa.lt Y0) Y43) nin0)) (Or.inr (H 113)) (Or.inl (H 149)) (by decide))).keep K45 (ninS (oNe (Exa.lt Y0) Y57) nin0)) (Or.inr (H 113)) (Or.inl (H 151)) (by decide)) (Or.inr (H 113)) (Or.inl (H 153)) (by decide)), (oFo W49 (oFo W47 ((Fld.ext E36 (oFo W33 ((Fld.ext E22 (oFo W19 (oFo W16 (oFo W14 (oFo W12 (oFo W10 Y28 (Or.inr (H 117)) (Or.inr (H 121)) (by decide)) (Or.inr (H 117)) (Or.inr (H 124)) (by decide)) (Or.inr (H 117)) (Or.inr (H 126)) (by decide)) (Or.inr (H 117)) (Or.inr (H 128)) (by decide)) (Or.inr (H 117)) (Or.inr (H 130)) (by decide))).keep K31 (ninS (oNe (Exa.lt Y0) Y43) nin0)) (Or.inr (H 117)) (Or.inl (H 149)) (by decide))).keep K45 (ninS (oNe (Exa.lt Y0) Y57) nin0)) (Or.inr (H 117)) (Or.inl (H 151)) (by decide)) (Or.inr (H 117)) (Or.inl (H 153)) (by decide)), (oFo W49 (oFo W47 ((Fld.ext E36 (oFo W33 ((Fld.ext E22 (oFo W19 (oFo W16 (oFo W14 (oFo W12 (oFo W10 Y30 (Or.inl (H 348)) (Or.inr (H 121)) (by decide)) (Or.inl (H 348)) (Or.inr (H 124)) (by decide)) (Or.inl (H 348)) (Or.inr (H 126)) (by decide)) (Or.inl (H 348)) (Or.inr (H 128)) (by decide)) (Or.inl (H 348)) (Or.inr (H 130)) (by decide))).keep K31 (ninS (oNe (Exa.lt Y0) Y43) nin0)) (Or.inl (H 348)) (Or.inl (H 149)) (by decide))).keep K45 (ninS (oNe (Exa.lt Y0) Y57) nin0)) (Or.inl (H 348)) (Or.inl (H 151)) (by decide)) (Or.inl (H 348)) (Or.inl (H 153)) (by decide)), (oFo W49 (oFo W47 ((Fld.ext E36 (oFo W33 ((Fld.ext E22 (oFo W19 (oFo W16 (oFo W14 (oFo W12 (oFo W10 Y31 (Or.inl (H 350)) (Or.inr (H 121)) (by decide)) (Or.inl (H 350)) (Or.inr (H 124)) (by decide)) (Or.inl (H 350)) (Or.inr (H 126)) (by decide)) (Or.inl (H 350)) (Or.inr (H 128)) (by decide)) (Or.inl (H 350)) (Or.inr (H 130)) (by decide))).keep K31 (ninS (oNe (Exa.lt Y0) Y43) nin0)) (Or.inl (H 350)) (Or.inl (H 149)) (by decide))).keep K45 (ninS (oNe (Exa.lt Y0) Y57) nin0)) (Or.inl (H 350)) (Or.inl (H 151)) (by decide)) (Or.inl (H 350)) (Or.inl (H 153)) (by decide)), (oFo W49 (oFo W47 ((Fld.ext E36 (oFo W33 ((Fld.ext E22 (oFo W19 (oFo W16 (oFo W14 (oFo W12 (oFo W10 Y32 (Or.inl (H 476)) (Or.inr (H 121)) (by decide)) (Or.inl (H 476)) (Or.inr (H 124)) (by decide)) (Or.inl (H 476)) (Or.inr (H 126)) (by decide)) (Or.inl (H 476)) (Or.inr (H 128)) (by decide)) (Or.inl (H 476)) (Or.inr (H 130)) (by decide))).keep K31 (ninS (oNe (Exa.lt Y0) Y43) nin0)) (Or.inl (H 476)) (Or.inl (H 149)) (by decide))).keep K45 (ninS (oNe (Exa.lt Y0) Y57) nin0)) (Or.inl (H 476)) (Or.inl (H 151)) (by decide)) (Or.inl (H 476)) (Or.inl (H 153)) (by decide)), (oFo W49 (oFo W47 ((Fld.ext E36 (oFo W33 ((Fld.ext E22 (oFo W19 (oFo W16 (oFo W14 (oFo W12 Fw10 (Or.inr (H 121)) (Or.inr (H 124)) (by decide)) (Or.inr (H 121)) (Or.inr (H 126)) (by decide)) (Or.inr (H 121)) (Or.inr (H 128)) (by decide)) (Or.inr (H 121)) (Or.inr (H 130)) (by decide))).keep K31 (ninS (oNe (Exa.lt Y0) Y43) nin0)) (Or.inr (H 121)) (Or.inl (H 149)) (by decide))).keep K45 (ninS (oNe (Exa.lt Y0) Y57) nin0)) (Or.inr (H 121)) (Or.inl (H 151)) (by decide)) (Or.inr (H 121)) (Or.inl (H 153)) (by decide)), (oFo W49 (oFo W47 ((Fld.ext E36 (oFo W33 ((Fld.ext E22 (oFo W19 (oFo W16 Fw14 (Or.inr (H 126)) (Or.inr (H 128)) (by decide)) (Or.inr (H 126)) (Or.inr (H 130)) (by decide))).keep K31 (ninS (oNe (Exa.lt Y0) Y43) nin0)) (Or.inr (H 126)) (Or.inl (H 149)) (by decide))).keep K45 (ninS (oNe (Exa.lt Y0) Y57) nin0)) (Or.inr (H 126)) (Or.inl (H 151)) (by decide)) (Or.inr (H 126)) (Or.inl (H 153)) (by decide)), (oFo W49 (oFo W47 ((Fld.ext E36 (oFo W33 ((Fld.ext E22 (oFo W19 Fw16 (Or.inr (H 128)) (Or.inr (H 130)) (by decide))).keep K31 (ninS (oNe (Exa.lt Y0) Y43) nin0)) (Or.inr (H 128)) (Or.inl (H 149)) (by decide))).keep K45 (ninS (oNe (Exa.lt Y0) Y57) nin0)) (Or.inr (H 128)) (Or.inl (H 151)) (by decide)) (Or.inr (H 128)) (Or.inl (H 153)) (by decide)), (oFo W49 (oFo W47 ((Fld.ext E36 (oFo W33 ((Fld.ext E22 Fw19).keep K31 (ninS (oNe (Exa.lt Y0) Y43) nin0)) (Or.inr (H 130)) (Or.inl (H 149)) (by decide))).keep K45 (ninS (oNe (Exa.lt Y0) Y57) nin0)) (Or.inr (H 130)) (Or.inl (H 151)) (by decide)) (Or.inr (H 130)) (Or.inl (H 153)) (by decide)), (oFo W49 (oFo W47 ((Fld.ext E36 Fw33).keep K45 (ninS (oNe (Exa.lt Y0) Y57) nin0)) (Or.inl (H 149)) (Or.inl (H 151)) (by decide)) (Or.inl (H 149)) (Or.inl (H 153)) (by decide)), (oFo W49 Fw47 (Or.inl (H 151)) (Or.inl (H 153)) (by decide)), Fw49, (oFo W49 (oFo W47 ((Fld.ext E36 (oFo W33 ((Fld.ext E22 (oFo W19 (oFo W16 (oFo W14 (oFo W12 (oFo W10 Y41 (Or.inl (H 403)) (Or.inr (H 121)) (by decide)) (Or.inl (H 403)) (Or.inr (H 124)) (by decide)) (Or.inl (H 403)) (Or.inr (H 126)) (by decide)) (Or.inl (H 403)) (Or.inr (H 128)) (by decide)) (Or.inl (H 403)) (Or.inr (H 130)) (by decide))).keep K31 (ninS (oNe (Exa.lt Y0) Y43) nin0)) (Or.inl (H 403)) (Or.inl (H 149)) (by decide))).keep K45 (ninS (oNe (Exa.lt Y0) Y57) nin0)) (Or.inl (H 403)) (Or.inl (H 151)) (by decide)) (Or.inl (H 403)) (Or.inl (H 153)) (by decide)), (Exa.wr W49 (Exa.wr W47 ((Exa.ext E36 (Exa.wr W33 ((Exa.ext E22 (Exa.wr W19 (Exa.wr W16 (Exa.wr W14 (Exa.wr W12 (Exa.wr W10 (Y19.keep K8))))))).keep K31))).keep K45))), (oFn W49 (oFn W47 ((Fld.ext E36 (oFn W33 ((Fld.ext E22 (oFn W19 (oFn W16 (oFn W14 (oFn W12 (oFn W10 (Y20.keep K8 (ninS (Ne.symm (oNe (Exa.lt Y0) Y24)) nin0)) (Ne.symm (oNe (Exa.lt Y0) Y24))) (Ne.symm (oNe (Exa.lt Y0) Y24))) (Ne.symm (oNe (Exa.lt Y0) Y24))) (Ne.symm (oNe (Exa.lt Y0) Y24))) (Ne.symm (oNe (Exa.lt Y0) Y24)))).keep K31 (ninS (oNe (Exa.lt (Exa.wr W19 (Exa.wr W16 (Exa.wr W14 (Exa.wr W12 (Exa.wr W10 (Y19.keep K8))))))) (Nat.le_of_eq g22.symm)) nin0)) (Ne.symm (oNe (Exa.lt Y0) Y24)))).keep K45 (ninS (oNe (Exa.lt (Exa.wr W33 ((Exa.ext E22 (Exa.wr W19 (Exa.wr W16 (Exa.wr W14 (Exa.wr W12 (Exa.wr W10 (Y19.keep K8))))))).keep K31))) (Nat.le_of_eq g36.symm)) nin0)) (Ne.symm (oNe (Exa.lt Y0) Y24))) (Ne.symm (oNe (Exa.lt Y0) Y24))), (oFn W49 (oFn W47 ((Fld.ext E36 (oFn W33 ((Fld.ext E22 (oFn W19 (oFn W16 (oFn W14 (oFn W12 (oFn W10 (Y21.keep K8 (ninS (Ne.symm (oNe (Exa.lt Y0) Y24)) nin0)) (Ne.symm (oNe (Exa.lt Y0) Y24))) (Ne.symm (oNe (Exa.lt Y0) Y24))) (Ne.symm (oNe (Exa.lt Y0) Y24))) (Ne.symm (oNe (Exa.lt Y0) Y24))) (Ne.symm (oNe (Exa.lt Y0) Y24)))).keep K31 (ninS (oNe (Exa.lt (Exa.wr W19 (Exa.wr W16 (Exa.wr W14 (Exa.wr W12 (Exa.wr W10 (Y19.keep K8))))))) (Nat.le_of_eq g22.symm)) nin0)) (Ne.symm (oNe (Exa.lt Y0) Y24)))).keep K45 (ninS (oNe (Exa.lt (Exa.wr W33 ((Exa.ext E22 (Exa.wr W19 (Exa.wr W16 (Exa.wr W14 (Exa.wr W12 (Exa.wr W10 (Y19.keep K8))))))).keep K31))) (Nat.le_of_eq g36.symm)) nin0)) (Ne.symm (oNe (Exa.lt Y0) Y24))) (Ne.symm (oNe (Exa.lt Y0) Y24))), (oFn W49 (oFn W47 ((Fld.ext E36 (oFn W33 ((Fld.ext E22 (oFn W19 (oFn W16 (oFn W14 (oFn W12 (oFn W10 (Y22.keep K8 (ninS (Ne.symm (oNe (Exa.lt Y0) Y24)) nin0)) (Ne.symm (oNe (Exa.lt Y0) Y24))) (Ne.symm (oNe (Exa.lt Y0) Y24))) (Ne.symm (oNe (Exa.lt Y0) Y24))) (Ne.symm (oNe (Exa.lt Y0) Y24))) (Ne.symm (oNe (Exa.lt Y0) Y24)))).keep K31 (ninS (oNe (Exa.lt (Exa.wr W19 (Exa.wr W16 (Exa.wr W14 (Exa.wr W12 (Exa.wr W10 (Y19.keep K8))))))) (Nat.le_of_eq g22.symm)) nin0)) (Ne.symm (oNe (Exa.lt Y0) Y24)))).keep K45 (ninS (oNe (Exa.lt (Exa.wr W33 ((Exa.ext E22 (Exa.wr W19 (Exa.wr W16 (Exa.wr W14 (Exa.wr W12 (Exa.wr W10 (Y19.keep K8))))))).keep K31))) (Nat.le_of_eq g36.symm)) nin0)) (Ne.symm (oNe (Exa.lt Y0) Y24))) (Ne.symm (oNe (Exa.lt Y0) Y24))), (Exa.wr W49 (Exa.wr W47 Y58)), (oFn W49 (oFn W47 Y59 (Ne.symm (oNe (Exa.lt Y0) Y57))) (Ne.symm (oNe (Exa.lt Y0) Y57))), (oFn W49 (oFn W47 Y60 (Ne.symm (oNe (Exa.lt Y0) Y57))) (Ne.symm (oNe (Exa.lt Y0) Y57))), (oFn W49 (oFn W47 Y61 (Ne.symm (oNe (Exa.lt Y0) Y57))) (Ne.symm (oNe (Exa.lt Y0) Y57))), (oFn W49 (oFn W47 Y62 (Ne.symm (oNe (Exa.lt Y0) Y57))) (Ne.symm (oNe (Exa.lt Y0) Y57))), (oFn W49 (oFn W47 Y63 (Ne.symm (oNe (Exa.lt Y0) Y57))) (Ne.symm (oNe (Exa.lt Y0) Y57))), ((Y64.other W47 (Ne.symm (oNe (Exa.lt Y0) Y71))).other W49 (Ne.symm (oNe (Exa.lt Y0) Y71))), Y65, ((Y66.other W47 (Ne.symm (oNe (Exa.lt Y0) Y72))).other W49 (Ne.symm (oNe (Exa.lt Y0) Y72))), ((Y67.other W47 (Ne.symm (oNe (Exa.lt Y0) Y73))).other W49 (Ne.symm (oNe (Exa.lt Y0) Y73))), Y24, Y43, Y57, Y71, Y72, Y73⟩
theorem own_sEmpty (hw : own_HW a0 Z) {sv lv : Addr} {kb : ClassId} (Z0 : n0 <= h0.size) (Y0 : Exa Z h0 sv "java/lang/String") (Y1 : f4 Z h0 sv (.ref lv)) (Y2 : f5 Z h0 sv (.int 0)) (Y3 : Arv Z h0 lv kb .byte (1 : Int32) [.int 118] (.int 0)) (hEb : Exa Z h0 lv "[B") : own_M l ⟨"java/lang/String", "isEmpty", "()Z"⟩ jdk_42_method_55_code 1 (some .boolean) ⟨0, 0, 0, 0⟩ ws Z h0 n0 #[(.ref sv)] (fun v h => (v = some (.int 0) /\ h = h0)) := by
  refine own_beg (plainFor_of_name own_pn9) own_t20 #[.val (.ref sv)] (own_e1_1 · rfl) fun p e s m below meth c sa K X0 e0 => ?_
  have N0 := Fr.nil n0
  have H := oh hw
  refine oA X0 K rfl rfl rfl ?_
  refine oGf X0 K rfl (H 181) e0 Y1 fun T1 X1 e1 => ?_
  obtain ⟨cl2, Ar2, -, S2, O2, -, -⟩ := (id Y3)
  refine oAn X1 K rfl e1 Ar2 (len_of S2 O2) <| oFY X1 K rfl (XT.i0_ne_t (by decide : ¬ ((1 : Int32) = (0 : Int32)))) <| oC (z := 0) X1 K rfl rfl ?_
  exact oRn X1 K (by simp) rfl e1 N0 (by decide) ⟨rfl, rfl⟩
theorem own_sCoder (hw : own_HW a0 Z) {sv lv : Addr} {kb : ClassId} {q : own_P0} (Z0 : n0 <= h0.size) (Y0 : Exa Z h0 sv "java/lang/String") (Y1 : f4 Z h0 sv (.ref lv)) (Y2 : f5 Z h0 sv (.int 0)) (Y3 : Arv Z h0 lv kb .byte (1 : Int32) [.int 118] (.int 0)) (hEb : Exa Z h0 lv "[B") (hq : own_Env Z q) (hOld : Old Z n0 h0) : own_M l ⟨"java/lang/String", "coder", "()B"⟩ jdk_42_method_152_code 1 (some .byte) ⟨0, 0, 0, 0⟩ ws Z h0 n0 #[(.ref sv)] (fun v h => (v = some (.int 0) /\ h = h0)) := by
  refine own_beg (plainFor_of_name own_pn9) own_t22 #[.val (.ref sv)] (own_e1_1 · rfl) fun p e s m below meth c sa K X0 e0 => ?_
  have N0 := Fr.nil n0
  have H := oh hw
  refine oGs X0 K rfl (H 192) e0 (Sta.ext hOld.2 hq.sCZ) fun T1 X1 e1 => ?_
  refine oFN X1 K rfl (XT.i0_eq_f hq.hCZ) <| oA X1 K rfl rfl rfl ?_
  refine oGf X1 K rfl (H 193) e1 Y2 fun T2 X2 e2 => ?_
  refine oGo X2 K rfl ?_
  exact oRn X2 K (by simp) rfl e2 N0 (by decide) ⟨rfl, rfl⟩
theorem own_sLen (hw : own_HW a0 Z) {sv lv : Addr} {kb : ClassId} {q : own_P0} (Z0 : n0 <= h0.size) (Y0 : Exa Z h0 sv "java/lang/String") (Y1 : f4 Z h0 sv (.ref lv)) (Y2 : f5 Z h0 sv (.int 0)) (Y3 : Arv Z h0 lv kb .byte (1 : Int32) [.int 118] (.int 0)) (hEb : Exa Z h0 lv "[B") (hq : own_Env Z q) (hOld : Old Z n0 h0) : own_M l ⟨"java/lang/String", "length", "()I"⟩ jdk_42_method_54_code 1 (some .int) ⟨1, 0, 0, 13⟩ ws Z h0 n0 #[(.ref sv)] (fun v h => (v = some (.int 1) /\ h = h0)) := by
  refine own_beg (plainFor_of_name own_pn9) own_t21 #[.val (.ref sv)] (own_e1_1 · rfl) fun p e s m below meth c sa K X0 e0 => ?_
  have N0 := Fr.nil n0
  have H := oh hw
  refine oA X0 K rfl rfl rfl ?_
  refine oGf X0 K rfl (H 181) e0 Y1 fun T1 X1 e1 => ?_
  obtain ⟨cl2, Ar2, -, S2, O2, -, -⟩ := (id Y3)
  refine oAn X1 K rfl e1 Ar2 (len_of S2 O2) <| oA X1 K rfl rfl rfl ?_
  refine oVc X1 K rfl (H 187) (H 188) (notFace_of_selects (args := #[]) (mvT K.wz (H 190))) (H 190) (H 189) (H 191) (H 40) (by decide) e1 Y0 (own_sCoder hw Z0 Y0 Y1 Y2 Y3 hEb hq hOld) rfl rfl (lenOf own_pd7 rfl) rfl N0 1 rfl (by decide) fun v4 T4 h4 L4 N4 q4 e4 X4 => ?_
  obtain ⟨rfl, y4⟩ := q4
  refine own_fs (XS.ishr X4.here K.1 rfl (K.d rfl) rfl (Steps.refl _)) ?_
  show own_G _ _ _ _ (T4.setTop (mkF m 10 #[.val (.ref sv)] [(.int ((1 : Int32) >>> ((0 : Int32) &&& 31)))]))
  exact oRi X4 K rfl (e4.trans y4) N4 (by decide) ⟨rfl, rfl⟩
theorem own_sLat (hw : own_HW a0 Z) {sv lv : Addr} {kb : ClassId} {q : own_P0} (Z0 : n0 <= h0.size) (Y0 : Exa Z h0 sv "java/lang/String") (Y1 : f4 Z h0 sv (.ref lv)) (Y2 : f5 Z h0 sv (.int 0)) (Y3 : Arv Z h0 lv kb .byte (1 : Int32) [.int 118] (.int 0)) (hEb : Exa Z h0 lv "[B") (hq : own_Env Z q) (hOld : Old Z n0 h0) : own_M l ⟨"java/lang/String", "isLatin1", "()Z"⟩ jdk_42_method_154_code 1 (some .boolean) ⟨0, 0, 0, 0⟩ ws Z h0 n0 #[(.ref sv)] (fun v h => (v = some (.int 1) /\ h = h0)) := by
  refine own_beg (plainFor_of_name own_pn9) own_t24 #[.val (.ref sv)] (own_e1_1 · rfl) fun p e s m below meth c sa K X0 e0 => ?_
  have N0 := Fr.nil n0
  have H := oh hw
  refine oGs X0 K rfl (H 192) e0 (Sta.ext hOld.2 hq.sCZ) fun T1 X1 e1 => ?_
  refine oFN X1 K rfl (XT.i0_eq_f hq.hCZ) <| oA X1 K rfl rfl rfl ?_
  refine oGf X1 K rfl (H 193) e1 Y2 fun T2 X2 e2 => ?_
  refine oFN X2 K rfl (XT.i0_ne_f (by decide : (0 : Int32) = (0 : Int32))) <| oC (z := 1) X2 K rfl rfl <| oGo X2 K rfl ?_
  exact oRn X2 K (by simp) rfl e2 N0 (by decide) ⟨rfl, rfl⟩
theorem own_pcheck (hw : own_HW a0 Z) {sf : Value} (Z0 : n0 <= h0.size) (hsf : sf.isRef = true) : own_M l ⟨"jdk/internal/util/Preconditions", "checkIndex", "(IILjava/util/function/BiFunction;)I"⟩ jdk_41_method_11_code 3 (some .int) ⟨0, 0, 0, 0⟩ ws Z h0 n0 #[(.int 0), (.int 1), sf] (fun v h => (v = some (.int 0) /\ h = h0)) := by
  refine own_beg (plainFor_of_name own_pn10) own_t27 #[.val (.int 0), .val (.int 1), .val sf] (own_e3_3 · ⟨rfl, rfl, (XT.cat1 hsf)⟩) fun p e s m below meth c sa K X0 e0 => ?_
  have N0 := Fr.nil n0
  refine oI X0 K rfl rfl <| oFN X0 K rfl (XT.i0_lt_f (by decide : ¬ ((0 : Int32) < (0 : Int32)))) <| oI X0 K rfl rfl <| oI X0 K rfl rfl <| oCY X0 K rfl (XT.ii_lt_t (by decide : (0 : Int32) < (1 : Int32))) <| oI X0 K rfl rfl ?_
  exact oRi X0 K rfl e0 N0 (by decide) ⟨rfl, rfl⟩
theorem own_scheck (hw : own_HW a0 Z) {q : own_P0} (Z0 : n0 <= h0.size) (hq : own_Env Z q) (hOld : Old Z n0 h0) : own_M l ⟨"java/lang/String", "checkIndex", "(II)V"⟩ jdk_42_method_155_code 2 none ⟨1, 0, 0, 14⟩ ws Z h0 n0 #[(.int 0), (.int 1)] (fun v h => (v = none /\ h = h0)) := by
  refine own_beg (plainFor_of_name own_pn9) own_t26 #[.val (.int 0), .val (.int 1)] (own_e2_2 · ⟨rfl, rfl⟩) fun p e s m below meth c sa K X0 e0 => ?_
  have N0 := Fr.nil n0
  have H := oh hw
  refine oI X0 K rfl rfl <| oI X0 K rfl rfl ?_
  refine oGs X0 K rfl (H 211) e0 (Sta.ext hOld.2 hq.sSF) fun T1 X1 e1 => ?_
  refine oTc X1 K rfl (H 213) (H 214) (H 215) (H 212) (by decide) e1 (own_pcheck hw Z0 (sf := q.fSF) hq.rSF) rfl (lenOf own_pd8 rfl) rfl N0 0 rfl (by decide) fun v3 T3 h3 L3 N3 q3 e3 X3 => ?_
  obtain ⟨rfl, y3⟩ := q3
  refine oPop X3 K rfl rfl ?_
  exact oRv X3 K rfl (e3.trans y3) N3 (by decide) ⟨rfl, rfl⟩
theorem own_l1ch (hw : own_HW a0 Z) {lv : Addr} {kb : ClassId} {q : own_P0} (Z0 : n0 <= h0.size) (Y0 : Arv Z h0 lv kb .byte (1 : Int32) [.int 118] (.int 0)) (hq : own_Env Z q) (hOld : Old Z n0 h0) : own_M l ⟨"java/lang/StringLatin1", "charAt", "([BI)C"⟩ jdk_43_method_2_code 2 (some .char) ⟨2, 0, 0, 27⟩ ws Z h0 n0 #[(.ref lv), (.int 0)] (fun v h => (v = some (.int 118) /\ h = h0)) := by
  refine own_beg (plainFor_of_name own_pn11) own_t25 #[.val (.ref lv), .val (.int 0)] (own_e2_2 · ⟨rfl, rfl⟩) fun p e s m below meth c sa K X0 e0 => ?_
  have N0 := Fr.nil n0
  have H := oh hw
  refine oI X0 K rfl rfl <| oA X0 K rfl rfl rfl ?_
  obtain ⟨cl1, Ar1, -, S1, O1, -, -⟩ := (id Y0)
  refine oAn X0 K rfl e0 Ar1 (len_of S1 O1) ?_
  refine oTc X0 K rfl (H 208) (H 209) (H 210) (H 40) (by decide) e0 (own_scheck hw Z0 hq hOld) rfl (lenOf own_pd3 rfl) rfl N0 0 rfl (by decide) fun v3 T3 h3 L3 N3 q3 e3 X3 => ?_
  obtain ⟨rfl, y3⟩ := q3
  refine oA X3 K rfl rfl rfl <| oI X3 K rfl rfl ?_
  obtain ⟨cl4, Ar4, q4, S4, O4, H4, G4⟩ := (id Y0)
  have hin4 := inb_of (j := (0 : Int32)) S4 ⟨by decide, by decide⟩
  refine own_fs (X3.baloadBytes K.1 (j := (0 : Int32)) (v := (.int 118)) (by rw [(e3.trans y3)]; exact Ar4.1) (State.isArrayOf_alike K.wz.alike Ar4.2.1) Ar4.2.2 hin4 (Has.at (v := (.int 118)) H4 hin4 rfl) (g := (mkF m 8 #[.val (.ref lv), .val (.int 0)] [(.int 0), (.ref lv)])) rfl rfl (K.d rfl) _ (Steps.refl _)) ?_
  show own_G _ _ _ _ (T3.setTop (mkF m 9 #[.val (.ref lv), .val (.int 0)] [(.int 118)]))
  refine own_fs (XS.sipush X3.here K.1 rfl (K.d rfl) (Steps.refl _)) ?_
  show own_G _ _ _ _ (T3.setTop (mkF m 12 #[.val (.ref lv), .val (.int 0)] [(.int 255), (.int 118)]))
  refine own_fs (XS.iand X3.here K.1 rfl (K.d rfl) rfl (Steps.refl _)) ?_
  show own_G _ _ _ _ (T3.setTop (mkF m 13 #[.val (.ref lv), .val (.int 0)] [(.int 118)]))
  refine own_fs (XS.i2c X3.here K.1 rfl (K.d rfl) rfl (Steps.refl _)) ?_
  show own_G _ _ _ _ (T3.setTop (mkF m 14 #[.val (.ref lv), .val (.int 0)] [(.int ((118 : Int32).toUInt32.toUInt16.toUInt32.toInt32))]))
  exact oRn X3 K (by simp) rfl (e3.trans y3) N3 (by decide) ⟨rfl, rfl⟩
theorem own_sCh (hw : own_HW a0 Z) {sv lv : Addr} {kb : ClassId} {q : own_P0} (Z0 : n0 <= h0.size) (Y0 : Exa Z h0 sv "java/lang/String") (Y1 : f4 Z h0 sv (.ref lv)) (Y2 : f5 Z h0 sv (.int 0)) (Y3 : Arv Z h0 lv kb .byte (1 : Int32) [.int 118] (.int 0)) (hEb : Exa Z h0 lv "[B") (hq : own_Env Z q) (hOld : Old Z n0 h0) : own_M l ⟨"java/lang/String", "charAt", "(I)C"⟩ jdk_42_method_56_code 2 (some .char) ⟨3, 0, 0, 40⟩ ws Z h0 n0 #[(.ref sv), (.int 0)] (fun v h => (v = some (.int 118) /\ h = h0)) := by
  refine own_beg (plainFor_of_name own_pn9) own_t23 #[.val (.ref sv), .val (.int 0)] (own_e2_2 · ⟨rfl, rfl⟩) fun p e s m below meth c sa K X0 e0 => ?_
  have N0 := Fr.nil n0
  have H := oh hw
  refine oA X0 K rfl rfl rfl ?_
  refine oVc X0 K rfl (H 199) (H 200) (notFace_of_selects (args := #[]) (mvT K.wz (H 202))) (H 202) (H 201) (H 203) (H 40) (by decide) e0 Y0 (own_sLat hw Z0 Y0 Y1 Y2 Y3 hEb hq hOld) rfl rfl (lenOf own_pd9 rfl) rfl N0 0 rfl (by decide) fun v2 T2 h2 L2 N2 q2 e2 X2 => ?_
  obtain ⟨rfl, y2⟩ := q2
  refine oFN X2 K rfl (XT.i0_eq_f (by decide : ¬ ((1 : Int32) = (0 : Int32)))) <| oA X2 K rfl rfl rfl ?_
  refine oGf X2 K rfl (H 181) (e2.trans y2) Y1 fun T3 X3 e3 => ?_
  refine oI X3 K rfl rfl ?_
  refine oTc X3 K rfl (H 204) (H 205) (H 207) (H 206) (by decide) e3 (own_l1ch hw Z0 Y3 hq hOld) rfl (lenOf own_pd10 rfl) rfl N2 0 rfl (by decide) fun v5 T5 h5 L5 N5 q5 e5 X5 => ?_
  obtain ⟨rfl, y5⟩ := q5
  exact oRn X5 K (by simp) rfl (e5.trans y5) N5 (by decide) ⟨rfl, rfl⟩
theorem own_isTok (hw : own_HW a0 Z) {sv lv : Addr} {kb : ClassId} {q : own_P0} (Z0 : n0 <= h0.size) (Y0 : Exa Z h0 sv "java/lang/String") (Y1 : f4 Z h0 sv (.ref lv)) (Y2 : f5 Z h0 sv (.int 0)) (Y3 : Arv Z h0 lv kb .byte (1 : Int32) [.int 118] (.int 0)) (hEb : Exa Z h0 lv "[B") (hq : own_Env Z q) (hOld : Old Z n0 h0) : own_M l ⟨"convoke/model/Tokens", "isToken", "(Ljava/lang/String;)Z"⟩ prog_27_method_4_code 3 (some .boolean) ⟨4, 0, 0, 53⟩ ws Z h0 n0 #[(.ref sv)] (fun v h => (v = some (.int 1) /\ h = h0)) := by
  refine own_beg (plainFor_of_name own_pn12) own_t19 #[.val (.ref sv), .unset, .unset] (own_e1_3 · rfl) fun p e s m below meth c sa K X0 e0 => ?_
  have N0 := Fr.nil n0
  have H := oh hw
  refine oA X0 K rfl rfl rfl ?_
  refine oVc X0 K rfl (H 176) (H 177) (notFace_of_selects (args := #[]) (mvT K.wz (H 179))) (H 179) (H 178) (H 180) (H 40) (by decide) e0 Y0 (own_sEmpty hw Z0 Y0 Y1 Y2 Y3 hEb) rfl rfl (lenOf own_pd9 rfl) rfl N0 0 rfl (by decide) fun v2 T2 h2 L2 N2 q2 e2 X2 => ?_
  obtain ⟨rfl, y2⟩ := q2
  refine oFN X2 K rfl (XT.i0_ne_f (by decide : (0 : Int32) = (0 : Int32))) <| oA X2 K rfl rfl rfl ?_
  refine oVc X2 K rfl (H 182) (H 183) (notFace_of_selects (args := #[]) (mvT K.wz (H 185))) (H 185) (H 184) (H 186) (H 40) (by decide) (e2.trans y2) Y0 (own_sLen hw Z0 Y0 Y1 Y2 Y3 hEb hq hOld) rfl rfl (lenOf own_pd11 rfl) rfl N2 0 rfl (by decide) fun v4 T4 h4 L4 N4 q4 e4 X4 => ?_
  obtain ⟨rfl, y4⟩ := q4
  refine own_fs (XS.bipush X4.here K.1 rfl (K.d rfl) (Steps.refl _)) ?_
  show own_G _ _ _ _ (T4.setTop (mkF m 13 #[.val (.ref sv), .unset, .unset] [(.int 64), (.int 1)]))
  refine oCY X4 K rfl (XT.ii_le_t (by decide : ¬ ((64 : Int32) < (1 : Int32)))) <| oC (z := 0) X4 K rfl rfl <| oSIn X4 K rfl rfl <| oI X4 K rfl rfl <| oA X4 K rfl rfl rfl ?_
  refine oVc X4 K rfl (H 182) (H 183) (notFace_of_selects (args := #[]) (mvT K.wz (H 185))) (H 185) (H 184) (H 186) (H 40) (by decide) (e4.trans y4) Y0 (own_sLen hw Z0 Y0 Y1 Y2 Y3 hEb hq hOld) rfl rfl (lenOf own_pd11 rfl) rfl N4 1 rfl (by decide) fun v6 T6 h6 L6 N6 q6 e6 X6 => ?_
  obtain ⟨rfl, y6⟩ := q6
  refine oCN X6 K rfl (XT.ii_ge_f (by decide : (0 : Int32) < (1 : Int32))) <| oA X6 K rfl rfl rfl <| oI X6 K rfl rfl ?_
  refine oVc X6 K rfl (H 194) (H 195) (notFace_of_selects (args := #[]) (mvT K.wz (H 197))) (H 197) (H 196) (H 198) (H 40) (by decide) (e6.trans y6) Y0 (own_sCh hw Z0 Y0 Y1 Y2 Y3 hEb hq hOld) rfl rfl (lenOf own_pd12 rfl) rfl N6 0 rfl (by decide) fun v8 T8 h8 L8 N8 q8 e8 X8 => ?_
  obtain ⟨rfl, y8⟩ := q8
  refine oSIn X8 K rfl rfl <| oI X8 K rfl rfl ?_
  refine oGs X8 K rfl (H 216) (e8.trans y8) (Sta.ext hOld.2 hq.sTB) fun T9 X9 e9 => ?_
  refine oAn X9 K rfl e9 (Arr.ext hOld.2 hq.aTB) (len_of (hq.zTB.trans (by decide : 128 = (128 : Int32).toNatClampNeg)) (by decide)) <| oCN X9 K rfl (XT.ii_ge_f (by decide : (118 : Int32) < (128 : Int32))) ?_
  refine oGs X9 K rfl (H 216) e9 (Sta.ext hOld.2 hq.sTB) fun T11 X11 e11 => ?_
  refine oI X11 K rfl rfl ?_
  refine own_fs (X11.baloadBooleans K.1 (j := (118 : Int32)) (v := .int 1) (by rw [e11]; exact (Arr.ext hOld.2 hq.aTB).1) (State.isArrayOf_alike K.wz.alike (Arr.ext hOld.2 hq.aTB).2.1) (Arr.ext hOld.2 hq.aTB).2.2 (by rw [hq.zTB]; decide) hq.vTB (g := (mkF m 46 #[.val (.ref sv), .val (.int 0), .val (.int 118)] [(.int 118), (.ref q.fTB)])) rfl rfl (K.d rfl) _ (Steps.refl _)) ?_
  show own_G _ _ _ _ (T11.setTop (mkF m 47 #[.val (.ref sv), .val (.int 0), .val (.int 118)] [(.int 1)]))
  refine oFY X11 K rfl (XT.i0_ne_t (by decide : ¬ ((1 : Int32) = (0 : Int32)))) <| oInc (z := 1) X11 K rfl rfl rfl rfl <| oGo X11 K rfl <| oI X11 K rfl rfl <| oA X11 K rfl rfl rfl ?_
  refine oVc X11 K rfl (H 182) (H 183) (notFace_of_selects (args := #[]) (mvT K.wz (H 185))) (H 185) (H 184) (H 186) (H 40) (by decide) e11 Y0 (own_sLen hw Z0 Y0 Y1 Y2 Y3 hEb hq hOld) rfl rfl (lenOf own_pd11 rfl) rfl N8 1 rfl (by decide) fun v13 T13 h13 L13 N13 q13 e13 X13 => ?_
  obtain ⟨rfl, y13⟩ := q13
  refine oCY X13 K rfl (XT.ii_ge_t (by decide : ¬ ((1 : Int32) < (1 : Int32)))) <| oC (z := 1) X13 K rfl rfl ?_
  exact oRn X13 K (by simp) rfl (e13.trans y13) N13 (by decide) ⟨rfl, rfl⟩
theorem own_enc3 (hw : own_HW a0 Z) {lv : Addr} {kb : ClassId} (Z0 : n0 <= h0.size) (Y0 : Arv Z h0 lv kb .byte (1 : Int32) [.int 118] (.int 0)) (hEb : Exa Z h0 lv "[B") : own_M l ⟨"java/lang/String", "encode8859_1", "(B[BZ)[B"⟩ jdk_42_method_27_code 10 (some (.array .byte)) ⟨1, 1, 1, 14⟩ ws Z h0 n0 #[(.int 0), (.ref lv), (.int 1)] (fun v h => ∃ ar : Addr, (v = some (.ref ar) /\ Keep h0 h [] /\ (h0.size <= ar))) := by
  refine own_beg (plainFor_of_name own_pn9) own_t31 #[.val (.int 0), .val (.ref lv), .val (.int 1), .unset, .unset, .unset, .unset, .unset, .unset, .unset] (own_e3_10 · ⟨rfl, rfl, rfl⟩) fun p e s m below meth c sa K X0 e0 => ?_
  have N0 := Fr.nil n0
  have H := oh hw
  refine oI X0 K rfl rfl <| oFN X0 K rfl (XT.i0_ne_f (by decide : (0 : Int32) = (0 : Int32))) <| oA X0 K rfl rfl rfl ?_
  obtain ⟨T1, h1, X1, e1, E1, A1, D1, st1⟩ := cloneH X0 K.1 K.wz (ad := "[B") K.ow (H 238) (H 239) (H 243) (H 241) (H 242) (H 244) e0 (Arv.arh Y0) hEb (g := (mkF m 5 #[.val (.int 0), .val (.ref lv), .val (.int 1), .unset, .unset, .unset, .unset, .unset, .unset, .unset] [(.ref lv)])) rfl (by rw [K.lm]; rfl) rfl (K.d rfl) (by decide) (W := 0) (by show 2 * 0 + _ <= _; exact Nat.le_of_eq rfl) (by decide) (cap := 1) (by decide) (by decide) (by decide)
  obtain ⟨b1, g1⟩ : ∃ z, z = h0.size := ⟨_, rfl⟩
  rw [← g1] at A1 D1 st1
  have Y1 := Nat.le_trans (Nat.le_refl _) (Nat.le_of_eq g1.symm)
  refine own_fs (st1 _ (Steps.refl _)) ?_
  show own_G _ _ _ _ (T1.setTop (mkF m 8 #[.val (.int 0), .val (.ref lv), .val (.int 1), .unset, .unset, .unset, .unset, .unset, .unset, .unset] [(.ref b1)]))
  refine oCst X1 K rfl (H 245) e1 (Ins.self D1) fun T2 X2 e2 => ?_
  exact oRa X2 K rfl rfl rfl e2 N0 (by decide) ⟨b1, rfl, ((Keep.refl _ _).ext E1), Y1⟩
theorem own_enc2 (hw : own_HW a0 Z) {lv : Addr} {kb : ClassId} (Z0 : n0 <= h0.size) (Y0 : Arv Z h0 lv kb .byte (1 : Int32) [.int 118] (.int 0)) (hEb : Exa Z h0 lv "[B") : own_M l ⟨"java/lang/String", "encode8859_1", "(B[B)[B"⟩ jdk_42_method_26_code 2 (some (.array .byte)) ⟨2, 1, 1, 35⟩ ws Z h0 n0 #[(.int 0), (.ref lv)] (fun v h => ∃ ar : Addr, (v = some (.ref ar) /\ Keep h0 h [] /\ (h0.size <= ar))) := by
  refine own_beg (plainFor_of_name own_pn9) own_t30 #[.val (.int 0), .val (.ref lv)] (own_e2_2 · ⟨rfl, rfl⟩) fun p e s m below meth c sa K X0 e0 => ?_
  have N0 := Fr.nil n0
  have H := oh hw
  refine oI X0 K rfl rfl <| oA X0 K rfl rfl rfl <| oC (z := 1) X0 K rfl rfl ?_
  refine oTc X0 K rfl (H 235) (H 236) (H 237) (H 40) (by decide) e0 (own_enc3 hw Z0 Y0 hEb) rfl (lenOf own_pd13 rfl) rfl N0 0 rfl (by decide) fun v3 T3 h3 L3 N3 q3 e3 X3 => ?_
  obtain ⟨ar1, rfl, K3, Y1⟩ := q3
  have Y2 := Y1
  exact oRa X3 K rfl rfl rfl e3 N3 (by decide) ⟨ar1, rfl, ((Keep.refl _ _).trans K3 all0), Y2⟩
theorem own_enc (hw : own_HW a0 Z) {lv : Addr} {kb : ClassId} {q : own_P0} (Z0 : n0 <= h0.size) (Y0 : Arv Z h0 lv kb .byte (1 : Int32) [.int 118] (.int 0)) (hEb : Exa Z h0 lv "[B") (hq : own_Env Z q) (hOld : Old Z n0 h0) : own_M l ⟨"java/lang/String", "encode", "(Ljava/nio/charset/Charset;B[B)[B"⟩ jdk_42_method_18_code 3 (some (.array .byte)) ⟨3, 1, 1, 48⟩ ws Z h0 n0 #[(.ref q.fIS), (.int 0), (.ref lv)] (fun v h => ∃ ar : Addr, (v = some (.ref ar) /\ Keep h0 h [] /\ (h0.size <= ar))) := by
  refine own_beg (plainFor_of_name own_pn9) own_t29 #[.val (.ref q.fIS), .val (.int 0), .val (.ref lv)] (own_e3_3 · ⟨rfl, rfl, rfl⟩) fun p e s m below meth c sa K X0 e0 => ?_
  have N0 := Fr.nil n0
  have H := oh hw
  refine oA X0 K rfl rfl rfl ?_
  refine oGs X0 K rfl (H 228) e0 (Sta.ext hOld.2 hq.sUT) fun T1 X1 e1 => ?_
  refine own_fs (Jvm.RoadKit.acmp (g := (mkF m 4 #[.val (.ref q.fIS), .val (.int 0), .val (.ref lv)] [(.ref q.fUT), (.ref q.fIS)])) X1 K.1 rfl rfl rfl (pc0 := 4) (pc' := 14) (same := false) rfl (K.d rfl) rfl (decide_eq_false (fun q => hq.nUT (Value.ref.inj q))) (by decide) (by decide) (Steps.refl _)) ?_
  show own_G _ _ _ _ (T1.setTop (mkF m 14 #[.val (.ref q.fIS), .val (.int 0), .val (.ref lv)] []))
  refine oA X1 K rfl rfl rfl ?_
  refine oGs X1 K rfl (H 230) e1 (Sta.ext hOld.2 hq.sI2) fun T2 X2 e2 => ?_
  refine own_fs (Jvm.RoadKit.acmp (g := (mkF m 18 #[.val (.ref q.fIS), .val (.int 0), .val (.ref lv)] [(.ref q.fIS), (.ref q.fIS)])) X2 K.1 rfl rfl rfl (pc0 := 18) (pc' := 21) (same := true) rfl (K.d rfl) rfl (decide_eq_true (congrArg Value.ref rfl)) (by decide) (by decide) (Steps.refl _)) ?_
  show own_G _ _ _ _ (T2.setTop (mkF m 21 #[.val (.ref q.fIS), .val (.int 0), .val (.ref lv)] []))
  refine oI X2 K rfl rfl <| oA X2 K rfl rfl rfl ?_
  refine oTc X2 K rfl (H 232) (H 233) (H 234) (H 40) (by decide) e2 (own_enc2 hw Z0 Y0 hEb) rfl (lenOf own_pd14 rfl) rfl N0 0 rfl (by decide) fun v5 T5 h5 L5 N5 q5 e5 X5 => ?_
  obtain ⟨ar3, rfl, K5, Y1⟩ := q5
  have Y2 := Y1
  exact oRa X5 K rfl rfl rfl e5 N5 (by decide) ⟨ar3, rfl, ((Keep.refl _ _).trans K5 all0), Y2⟩
theorem own_getB (hw : own_HW a0 Z) {sv lv : Addr} {kb : ClassId} {q : own_P0} (Z0 : n0 <= h0.size) (Y0 : Exa Z h0 sv "java/lang/String") (Y1 : f4 Z h0 sv (.ref lv)) (Y2 : f5 Z h0 sv (.int 0)) (Y3 : Arv Z h0 lv kb .byte (1 : Int32) [.int 118] (.int 0)) (hEb : Exa Z h0 lv "[B") (hq : own_Env Z q) (hOld : Old Z n0 h0) : own_M l ⟨"java/lang/String", "getBytes", "(Ljava/nio/charset/Charset;)[B"⟩ jdk_42_method_64_code 2 (some (.array .byte)) ⟨4, 1, 1, 62⟩ ws Z h0 n0 #[(.ref sv), (.ref q.fIS)] (fun v h => ∃ ar : Addr, (v = some (.ref ar) /\ Keep h0 h [] /\ (h0.size <= ar))) := by
  refine own_beg (plainFor_of_name own_pn9) own_t28 #[.val (.ref sv), .val (.ref q.fIS)] (own_e2_2 · ⟨rfl, rfl⟩) fun p e s m below meth c sa K X0 e0 => ?_
  have N0 := Fr.nil n0
  have H := oh hw
  refine oA X0 K rfl rfl rfl <| oMY X0 K rfl <| oA X0 K rfl rfl rfl <| oA X0 K rfl rfl rfl ?_
  refine oVc X0 K rfl (H 187) (H 188) (notFace_of_selects (args := #[]) (mvT K.wz (H 190))) (H 190) (H 189) (H 191) (H 40) (by decide) e0 Y0 (own_sCoder hw Z0 Y0 Y1 Y2 Y3 hEb hq hOld) rfl rfl (lenOf own_pd7 rfl) rfl N0 1 rfl (by decide) fun v2 T2 h2 L2 N2 q2 e2 X2 => ?_
  obtain ⟨rfl, y2⟩ := q2
  refine oA X2 K rfl rfl rfl ?_
  refine oGf X2 K rfl (H 181) (e2.trans y2) Y1 fun T3 X3 e3 => ?_
  refine oTc X3 K rfl (H 225) (H 226) (H 227) (H 40) (by decide) e3 (own_enc hw Z0 Y3 hEb hq hOld) rfl (lenOf own_pd15 rfl) rfl N2 0 rfl (by decide) fun v6 T6 h6 L6 N6 q6 e6 X6 => ?_
  obtain ⟨ar4, rfl, K6, Y4⟩ := q6
  have Y5 := Y4
  exact oRa X6 K rfl rfl rfl e6 N6 (by decide) ⟨ar4, rfl, ((Keep.refl _ _).trans K6 all0), Y5⟩
theorem own_vbytes (hw : own_HW a0 Z) {sv lv : Addr} {kb : ClassId} {q : own_P0} (Z0 : n0 <= h0.size) (Y0 : Exa Z h0 sv "java/lang/String") (Y1 : f4 Z h0 sv (.ref lv)) (Y2 : f5 Z h0 sv (.int 0)) (Y3 : Arv Z h0 lv kb .byte (1 : Int32) [.int 118] (.int 0)) (hEb : Exa Z h0 lv "[B") (hq : own_Env Z q) (hOld : Old Z n0 h0) : own_M l ⟨"convoke/model/Value", "bytes", "(Ljava/lang/String;)[B"⟩ prog_28_method_17_code 2 (some (.array .byte)) ⟨5, 1, 1, 75⟩ ws Z h0 n0 #[(.ref sv)] (fun v h => ∃ ar : Addr, (v = some (.ref ar) /\ Keep h0 h [] /\ (h0.size <= ar))) := by
  refine own_beg (plainFor_of_name own_pn13) own_t18 #[.val (.ref sv), .unset] (own_e1_2 · rfl) fun p e s m below meth c sa K X0 e0 => ?_
  have N0 := Fr.nil n0
  have H := oh hw
  refine oA X0 K rfl rfl rfl ?_
  refine oTc X0 K rfl (H 172) (H 173) (H 175) (H 174) (by decide) e0 (own_isTok hw Z0 Y0 Y1 Y2 Y3 hEb hq hOld) rfl (lenOf own_pd16 rfl) rfl N0 0 rfl (by decide) fun v2 T2 h2 L2 N2 q2 e2 X2 => ?_
  obtain ⟨rfl, y2⟩ := q2
  refine oFN X2 K rfl (XT.i0_eq_f (by decide : ¬ ((1 : Int32) = (0 : Int32)))) <| oA X2 K rfl rfl rfl ?_
  refine oGs X2 K rfl (H 218) (e2.trans y2) (Sta.ext hOld.2 hq.sIS) fun T3 X3 e3 => ?_
  refine oVc X3 K rfl (H 220) (H 221) (notFace_of_selects (args := #[]) (mvT K.wz (H 223))) (H 223) (H 222) (H 224) (H 40) (by decide) e3 Y0 (own_getB hw Z0 Y0 Y1 Y2 Y3 hEb hq hOld) rfl rfl (lenOf own_pd17 rfl) rfl N2 0 rfl (by decide) fun v6 T6 h6 L6 N6 q6 e6 X6 => ?_
  obtain ⟨ar4, rfl, K6, Y4⟩ := q6
  have Y5 := Y4
  refine oSAn X6 K rfl rfl rfl <| oGo X6 K rfl <| oA X6 K rfl rfl rfl <| oMY X6 K rfl <| oA X6 K rfl rfl rfl ?_
  exact oRa X6 K rfl rfl rfl e6 N6 (by decide) ⟨ar4, rfl, ((Keep.refl _ _).trans K6 all0), Y5⟩
theorem own_rnn2 (hw : own_HW a0 Z) {a1 s0 : Addr} (Z0 : n0 <= h0.size)  : own_M l ⟨"java/util/Objects", "requireNonNull", "(Ljava/lang/Object;Ljava/lang/String;)Ljava/lang/Object;"⟩ jdk_31_method_11_code 2 (some (.object "java/lang/Object")) ⟨0, 0, 0, 0⟩ ws Z h0 n0 #[(.ref a1), (.ref s0)] (fun v h => (v = some (.ref a1) /\ h = h0)) := by
  refine own_beg (plainFor_of_name own_pn14) own_t17 #[.val (.ref a1), .val (.ref s0)] (own_e2_2 · ⟨rfl, rfl⟩) fun p e s m below meth c sa K X0 e0 => ?_
  have N0 := Fr.nil n0
  refine oA X0 K rfl rfl rfl <| oMY X0 K rfl <| oA X0 K rfl rfl rfl ?_
  exact oRa X0 K rfl rfl rfl e0 N0 (by decide) ⟨rfl, rfl⟩
theorem own_i_VA2 (hw : own_HW a0 Z) {a1 bb : Addr} {u1 u2 : Value} (Z0 : n0 <= h0.size) (Y0 : Exa Z h0 a1 "convoke/model/Value") (Y1 : f28 Z h0 a1 u1) (Y2 : f29 Z h0 a1 u2) (Y3 : n0 <= a1) : own_M l ⟨"convoke/model/Value", "<init>", "([BLjava/lang/String;)V"⟩ prog_28_method_2_code 3 none ⟨1, 0, 0, 12⟩ ws Z h0 n0 #[(.ref a1), (.ref bb), .null] (fun v h => (v = none /\ Keep h0 h [a1] /\ (Exa Z h a1 "convoke/model/Value"))) := by
  refine own_beg (plainFor_of_name own_pn13) own_t32 #[.val (.ref a1), .val (.ref bb), .val .null] (own_e3_3 · ⟨rfl, rfl, rfl⟩) fun p e s m below meth c sa K X0 e0 => ?_
  have N0 := Fr.nil n0
  have H := oh hw
  refine oA X0 K rfl rfl rfl ?_
  refine oObj X0 K rfl (H 250) (H 12) (H 13) e0 rfl 0 rfl (by decide) fun T1 X1 e1 => ?_
  refine oA X1 K rfl rfl rfl <| oA X1 K rfl rfl rfl ?_
  refine oPf (ty := (.array .byte)) X1 K rfl (H 251) e1 Y1 Y0 (Or.inr ⟨(H 252), rfl, K.nm⟩) (H 156) (by decide) rfl rfl N0 Y3 fun T2 h2 L2 N2 X2 e2 W2 Fw2 => ?_
  refine oA X2 K rfl rfl rfl <| oA X2 K rfl rfl rfl ?_
  refine oPf (ty := (.object "java/lang/String")) X2 K rfl (H 253) e2 (oFo W2 Y2 (Or.inr (H 254)) (Or.inr (H 252)) (by decide)) (Exa.wr W2 Y0) (Or.inr ⟨(H 254), rfl, K.nm⟩) (H 156) (by decide) rfl rfl N2 Y3 fun T3 h3 L3 N3 X3 e3 W3 Fw3 => ?_
  exact oRv X3 K rfl e3 N3 (by decide) ⟨rfl, (((Keep.refl _ _).wr W2 (oM 0 rfl)).wr W3 (oM 0 rfl)), (Exa.wr W3 (Exa.wr W2 Y0))⟩
theorem own_i_VA (hw : own_HW a0 Z) {a1 sv lv : Addr} {kb : ClassId} {u1 u2 : Value} {q : own_P0} (Z0 : n0 <= h0.size) (Y0 : Exa Z h0 a1 "convoke/model/Value") (Y1 : f28 Z h0 a1 u1) (Y2 : f29 Z h0 a1 u2) (Y3 : n0 <= a1) (Y4 : Exa Z h0 sv "java/lang/String") (Y5 : f4 Z h0 sv (.ref lv)) (Y6 : f5 Z h0 sv (.int 0)) (Y7 : Arv Z h0 lv kb .byte (1 : Int32) [.int 118] (.int 0)) (hEb : Exa Z h0 lv "[B") (hq : own_Env Z q) (hOld : Old Z n0 h0) : own_MW own_EL l ⟨"convoke/model/Value", "<init>", "(Ljava/lang/String;)V"⟩ prog_28_method_1_code 2 none ⟨6, 3, 25, 89⟩ ws Z h0 n0 #[(.ref a1), (.ref sv)] (fun v h => (v = none /\ Keep h0 h [a1] /\ (Exa Z h a1 "convoke/model/Value"))) := by
  refine own_begW (plainFor_of_name own_pn13) own_t16 #[.val (.ref a1), .val (.ref sv)] (own_e2_2 · ⟨rfl, rfl⟩) fun p e s m below meth c sa K X0 e0 hh hS0 R0 => ?_
  have N0 := Fr.nil n0
  have H := oh hw
  have hEL := own_ew hw
  refine oA X0 K rfl rfl rfl <| oA X0 K rfl rfl rfl ?_
  refine oLd (n := 20) X0 K rfl (H 162) (own_wS hw) e0 hS0 (Nat.zero_le _) hEL R0 (by decide) fun la1 T1 h1 k1 X1 e1 E1 hS1 hk1 K R1 => ?_
  refine oTc X1 K rfl (H 163) (H 164) (H 166) (H 165) (by decide) e1 (own_rnn2 hw (Nat.le_trans Z0 E1.1) ) rfl (lenOf own_pd18 rfl) rfl N0 1 rfl (by decide) fun v3 T3 h3 L3 N3 q3 e3 X3 => ?_
  obtain ⟨rfl, y3⟩ := q3
  refine oCst X3 K rfl (H 167) (e3.trans y3) (Ins.self (Exa.ext E1 Y4)) fun T4 X4 e4 => ?_
  refine oTc X4 K rfl (H 169) (H 170) (H 171) (H 157) (by decide) e4 (own_vbytes hw (Nat.le_trans Z0 E1.1) (Exa.ext E1 Y4) (Fld.ext E1 Y5) (Fld.ext E1 Y6) (Y7.ext E1) (Exa.ext E1 hEb) hq (Old.ext hOld E1)) rfl (lenOf own_pd19 rfl) rfl N3 1 rfl (by decide) fun v7 T7 h7 L7 N7 q7 e7 X7 => ?_
  obtain ⟨ar5, rfl, K7, Y8⟩ := q7
  have R8 := own_rk R1 K7 sf0
  refine oN X7 K rfl ?_
  refine oNc X7 K rfl (H 247) (H 248) (H 249) (H 157) (by decide) rfl e7 (own_i_VA2 hw (Nat.le_trans Z0 (Nat.le_trans E1.1 K7.1)) ((Exa.ext E1 Y0).keep K7) ((Fld.ext E1 Y1).keep K7 nin0) ((Fld.ext E1 Y2).keep K7 nin0) Y3) rfl rfl (lenOf own_pd20 rfl) rfl N7 0 rfl (by decide) fun v10 T10 h10 L10 N10 q10 e10 X10 => ?_
  obtain ⟨rfl, K10, Y9⟩ := q10
  have R11 := own_rk R8 K10 (sfS (oSx K.wz ((Exa.ext E1 Y0).keep K7) (by decide)) sf0)
  exact oRvw X10 K rfl e10 N10 (by decide) hh hEL hS1 (Nat.le_trans (Nat.le_trans hk1 K7.1) K10.1) R11 ⟨rfl, ((((Keep.refl _ _).ext E1).trans K7 all0).trans K10 (allS (oM 0 rfl) all0)), Y9⟩
theorem own_carries (hw : own_HW a0 Z) {kd : Addr} (Z0 : n0 <= h0.size) (Y0 : f30 Z h0 kd (.int 1)) : own_M l ⟨"convoke/protocol/BrachaKind", "carriesValue", "()Z"⟩ prog_64_method_5_code 1 (some .boolean) ⟨0, 0, 0, 0⟩ ws Z h0 n0 #[(.ref kd)] (fun v h => (v = some (.int 1) /\ h = h0)) := by
  refine own_beg (plainFor_of_name own_pn15) own_t34 #[.val (.ref kd)] (own_e1_1 · rfl) fun p e s m below meth c sa K X0 e0 => ?_
  have N0 := Fr.nil n0
  have H := oh hw
  refine oA X0 K rfl rfl rfl ?_
  refine oGf X0 K rfl (H 275) e0 Y0 fun T1 X1 e1 => ?_
  exact oRn X1 K (by simp) rfl e1 N0 (by decide) ⟨rfl, rfl⟩
theorem own_i_ME (hw : own_HW a0 Z) {a1 : Addr} {p1 p2 p3 : Int32} {v1 : Addr} {u1 u2 u3 : Int32} {u4 u5 : Value} {q : own_P0} (Z0 : n0 <= h0.size) (Y0 : Exa Z h0 a1 "convoke/model/Message") (Y1 : f31 Z h0 a1 (.int u1)) (Y2 : f32 Z h0 a1 (.int u2)) (Y3 : f33 Z h0 a1 (.int u3)) (Y4 : f34 Z h0 a1 u4) (Y5 : f35 Z h0 a1 u5) (Y6 : n0 <= a1) (hm1 : ¬ (p1 < (1 : Int32))) (hm2 : ¬ (p2 < (1 : Int32))) (hm3 : ¬ (p3 < (1 : Int32))) (hq : own_Env Z q) (hOld : Old Z n0 h0) : own_MW own_EL l ⟨"convoke/model/Message", "<init>", "(IIILconvoke/model/Message$Kind;Lconvoke/model/Value;)V"⟩ prog_22_method_1_code 6 none ⟨2, 4, 44, 24⟩ ws Z h0 n0 #[(.ref a1), (.int p1), (.int p2), (.int p3), (.ref q.fKR), (.ref v1)] (fun v h => (v = none /\ Keep h0 h [a1] /\ (Exa Z h a1 "convoke/model/Message") /\ (f31 Z h a1 (.int p1)) /\ (f32 Z h a1 (.int p2)) /\ (f33 Z h a1 (.int p3)) /\ (f34 Z h a1 (.ref q.fKR)) /\ (f35 Z h a1 (.ref v1)))) := by
  refine own_begW (plainFor_of_name own_pn16) own_t33 #[.val (.ref a1), .val (.int p1), .val (.int p2), .val (.int p3), .val (.ref q.fKR), .val (.ref v1)] (own_e6_6 · ⟨rfl, rfl, rfl, rfl, rfl, rfl⟩) fun p e s m below meth c sa K X0 e0 hh hS0 R0 => ?_
  have N0 := Fr.nil n0
  have H := oh hw
  have hEL := own_ew hw
  refine oA X0 K rfl rfl rfl ?_
  refine oNc X0 K rfl (H 263) (H 85) (H 88) (H 87) (by decide) rfl e0 (own_i_Record hw Z0 ) rfl rfl (lenOf own_pd0 rfl) rfl N0 0 rfl (by decide) fun v2 T2 h2 L2 N2 q2 e2 X2 => ?_
  obtain ⟨rfl, y2⟩ := q2
  refine oI X2 K rfl rfl <| oC (z := 1) X2 K rfl rfl <| oCN X2 K rfl (XT.ii_lt_f hm1) <| oI X2 K rfl rfl <| oC (z := 1) X2 K rfl rfl <| oCN X2 K rfl (XT.ii_lt_f hm2) <| oI X2 K rfl rfl <| oC (z := 1) X2 K rfl rfl <| oCY X2 K rfl (XT.ii_ge_t hm3) <| oB X2 K rfl rfl rfl ?_
  refine oLd (n := 16) X2 K rfl (H 264) (own_wS hw) (e2.trans y2) hS0 (Nat.zero_le _) hEL R0 (by decide) fun la3 T3 h3 k3 X3 e3 E3 hS3 hk3 K R3 => ?_
  refine oTc X3 K rfl (H 265) (H 164) (H 166) (H 165) (by decide) e3 (own_rnn2 hw (Nat.le_trans Z0 E3.1) ) rfl (lenOf own_pd18 rfl) rfl N2 0 rfl (by decide) fun v5 T5 h5 L5 N5 q5 e5 X5 => ?_
  obtain ⟨rfl, y5⟩ := q5
  refine oPop X5 K rfl rfl <| oB X5 K rfl rfl rfl ?_
  refine oFc X5 K rfl (H 266) (H 267) (mvT K.wz (H 268)) (H 269) (H 270) (H 271) (H 272) (H 273) (H 274) (H 100) (by decide) (e5.trans y5) (Exa.ext (Old.ext hOld E3).2 hq.eKR) (own_carries hw (Nat.le_trans Z0 E3.1) (Fld.ext (Old.ext hOld E3).2 hq.cKR)) rfl rfl (lenOf own_pd9 rfl) rfl N5 0 rfl (by decide) fun v7 T7 h7 L7 N7 q7 e7 X7 => ?_
  obtain ⟨rfl, y7⟩ := q7
  refine oFN X7 K rfl (XT.i0_eq_f (by decide : ¬ ((1 : Int32) = (0 : Int32)))) <| oB X7 K rfl rfl rfl ?_
  refine oLd (n := 20) X7 K rfl (H 277) (own_wS hw) (e7.trans y7) hS3 hk3 hEL R3 (by decide) fun la8 T8 h8 k8 X8 e8 E8 hS8 hk8 K R8 => ?_
  refine oTc X8 K rfl (H 265) (H 164) (H 166) (H 165) (by decide) e8 (own_rnn2 hw (Nat.le_trans Z0 (Nat.le_trans E3.1 E8.1)) ) rfl (lenOf own_pd18 rfl) rfl N7 0 rfl (by decide) fun v10 T10 h10 L10 N10 q10 e10 X10 => ?_
  obtain ⟨rfl, y10⟩ := q10
  refine oPop X10 K rfl rfl <| oGo X10 K rfl <| oA X10 K rfl rfl rfl <| oI X10 K rfl rfl ?_
  refine oPf (ty := .int) X10 K rfl (H 278) (e10.trans y10) (Fld.ext E8 (Fld.ext E3 Y1)) (Exa.ext E8 (Exa.ext E3 Y0)) (Or.inr ⟨(H 279), rfl, K.nm⟩) (H 256) (by decide) rfl rfl N10 Y6 fun T11 h11 L11 N11 X11 e11 W11 Fw11 => ?_
  have R12 := own_rw R8 W11 (oSx K.wz (Exa.ext E8 (Exa.ext E3 Y0)) (by decide))
  refine oA X11 K rfl rfl rfl <| oI X11 K rfl rfl ?_
  refine oPf (ty := .int) X11 K rfl (H 280) e11 (oFo W11 (Fld.ext E8 (Fld.ext E3 Y2)) (Or.inr (H 281)) (Or.inr (H 279)) (by decide)) (Exa.wr W11 (Exa.ext E8 (Exa.ext E3 Y0))) (Or.inr ⟨(H 281), rfl, K.nm⟩) (H 256) (by decide) rfl rfl N11 Y6 fun T13 h13 L13 N13 X13 e13 W13 Fw13 => ?_
  have R14 := own_rw R12 W13 (oSx K.wz (Exa.wr W11 (Exa.ext E8 (Exa.ext E3 Y0))) (by decide))
  refine oA X13 K rfl rfl rfl <| oI X13 K rfl rfl ?_
  refine oPf (ty := .int) X13 K rfl (H 282) e13 (oFo W13 (oFo W11 (Fld.ext E8 (Fld.ext E3 Y3)) (Or.inr (H 283)) (Or.inr (H 279)) (by decide)) (Or.inr (H 283)) (Or.inr (H 281)) (by decide)) (Exa.wr W13 (Exa.wr W11 (Exa.ext E8 (Exa.ext E3 Y0)))) (Or.inr ⟨(H 283), rfl, K.nm⟩) (H 256) (by decide) rfl rfl N13 Y6 fun T15 h15 L15 N15 X15 e15 W15 Fw15 => ?_
  have R16 := own_rw R14 W15 (oSx K.wz (Exa.wr W13 (Exa.wr W11 (Exa.ext E8 (Exa.ext E3 Y0)))) (by decide))
  refine oA X15 K rfl rfl rfl <| oB X15 K rfl rfl rfl ?_
  refine oPf (ty := (.object "convoke/model/Message$Kind")) X15 K rfl (H 284) e15 (oFo W15 (oFo W13 (oFo W11 (Fld.ext E8 (Fld.ext E3 Y4)) (Or.inr (H 285)) (Or.inr (H 279)) (by decide)) (Or.inr (H 285)) (Or.inr (H 281)) (by decide)) (Or.inr (H 285)) (Or.inr (H 283)) (by decide)) (Exa.wr W15 (Exa.wr W13 (Exa.wr W11 (Exa.ext E8 (Exa.ext E3 Y0))))) (Or.inr ⟨(H 285), rfl, K.nm⟩) (H 256) (by decide) rfl rfl N15 Y6 fun T17 h17 L17 N17 X17 e17 W17 Fw17 => ?_
  have R18 := own_rw R16 W17 (oSx K.wz (Exa.wr W15 (Exa.wr W13 (Exa.wr W11 (Exa.ext E8 (Exa.ext E3 Y0))))) (by decide))
  refine oA X17 K rfl rfl rfl <| oB X17 K rfl rfl rfl ?_
  refine oPf (ty := (.object "convoke/model/Value")) X17 K rfl (H 286) e17 (oFo W17 (oFo W15 (oFo W13 (oFo W11 (Fld.ext E8 (Fld.ext E3 Y5)) (Or.inr (H 287)) (Or.inr (H 279)) (by decide)) (Or.inr (H 287)) (Or.inr (H 281)) (by decide)) (Or.inr (H 287)) (Or.inr (H 283)) (by decide)) (Or.inr (H 287)) (Or.inr (H 285)) (by decide)) (Exa.wr W17 (Exa.wr W15 (Exa.wr W13 (Exa.wr W11 (Exa.ext E8 (Exa.ext E3 Y0)))))) (Or.inr ⟨(H 287), rfl, K.nm⟩) (H 256) (by decide) rfl rfl N17 Y6 fun T19 h19 L19 N19 X19 e19 W19 Fw19 => ?_
  have R20 := own_rw R18 W19 (oSx K.wz (Exa.wr W17 (Exa.wr W15 (Exa.wr W13 (Exa.wr W11 (Exa.ext E8 (Exa.ext E3 Y0)))))) (by decide))
  exact oRvw X19 K rfl e19 N19 (by decide) hh hEL hS8 (Nat.le_trans (Nat.le_trans (Nat.le_trans (Nat.le_trans (Nat.le_trans hk8 (Keep.of_wr W11).1) (Keep.of_wr W13).1) (Keep.of_wr W15).1) (Keep.of_wr W17).1) (Keep.of_wr W19).1) R20 ⟨rfl, ((((((((Keep.refl _ _).ext E3).ext E8).wr W11 (oM 0 rfl)).wr W13 (oM 0 rfl)).wr W15 (oM 0 rfl)).wr W17 (oM 0 rfl)).wr W19 (oM 0 rfl)), (Exa.wr W19 (Exa.wr W17 (Exa.wr W15 (Exa.wr W13 (Exa.wr W11 (Exa.ext E8 (Exa.ext E3 Y0))))))), (oFo W19 (oFo W17 (oFo W15 (oFo W13 Fw11 (Or.inr (H 279)) (Or.inr (H 281)) (by decide)) (Or.inr (H 279)) (Or.inr (H 283)) (by decide)) (Or.inr (H 279)) (Or.inr (H 285)) (by decide)) (Or.inr (H 279)) (Or.inr (H 287)) (by decide)), (oFo W19 (oFo W17 (oFo W15 Fw13 (Or.inr (H 281)) (Or.inr (H 283)) (by decide)) (Or.inr (H 281)) (Or.inr (H 285)) (by decide)) (Or.inr (H 281)) (Or.inr (H 287)) (by decide)), (oFo W19 (oFo W17 Fw15 (Or.inr (H 283)) (Or.inr (H 285)) (by decide)) (Or.inr (H 283)) (Or.inr (H 287)) (by decide)), (oFo W19 Fw17 (Or.inr (H 285)) (Or.inr (H 287)) (by decide)), Fw19⟩
theorem own_m_from (hw : own_HW a0 Z) {a1 : Addr} {p1 : Int32} (Z0 : n0 <= h0.size) (Y0 : f31 Z h0 a1 (.int p1)) : own_M l ⟨"convoke/model/Message", "from", "()I"⟩ prog_22_method_5_code 1 (some .int) ⟨0, 0, 0, 0⟩ ws Z h0 n0 #[(.ref a1)] (fun v h => (v = some (.int p1) /\ h = h0)) := by
  refine own_beg (plainFor_of_name own_pn16) own_t39 #[.val (.ref a1)] (own_e1_1 · rfl) fun p e s m below meth c sa K X0 e0 => ?_
  have N0 := Fr.nil n0
  have H := oh hw
  refine oA X0 K rfl rfl rfl ?_
  refine oGf X0 K rfl (H 278) e0 Y0 fun T1 X1 e1 => ?_
  exact oRi X1 K rfl e1 N0 (by decide) ⟨rfl, rfl⟩
theorem own_m_to (hw : own_HW a0 Z) {a1 : Addr} {p1 : Int32} (Z0 : n0 <= h0.size) (Y0 : f32 Z h0 a1 (.int p1)) : own_M l ⟨"convoke/model/Message", "to", "()I"⟩ prog_22_method_6_code 1 (some .int) ⟨0, 0, 0, 0⟩ ws Z h0 n0 #[(.ref a1)] (fun v h => (v = some (.int p1) /\ h = h0)) := by
  refine own_beg (plainFor_of_name own_pn16) own_t38 #[.val (.ref a1)] (own_e1_1 · rfl) fun p e s m below meth c sa K X0 e0 => ?_
  have N0 := Fr.nil n0
  have H := oh hw
  refine oA X0 K rfl rfl rfl ?_
  refine oGf X0 K rfl (H 280) e0 Y0 fun T1 X1 e1 => ?_
  exact oRi X1 K rfl e1 N0 (by decide) ⟨rfl, rfl⟩
theorem own_m_instance (hw : own_HW a0 Z) {a1 : Addr} {p1 : Int32} (Z0 : n0 <= h0.size) (Y0 : f33 Z h0 a1 (.int p1)) : own_M l ⟨"convoke/model/Message", "instance", "()I"⟩ prog_22_method_7_code 1 (some .int) ⟨0, 0, 0, 0⟩ ws Z h0 n0 #[(.ref a1)] (fun v h => (v = some (.int p1) /\ h = h0)) := by
  refine own_beg (plainFor_of_name own_pn16) own_t40 #[.val (.ref a1)] (own_e1_1 · rfl) fun p e s m below meth c sa K X0 e0 => ?_
  have N0 := Fr.nil n0
  have H := oh hw
  refine oA X0 K rfl rfl rfl ?_
  refine oGf X0 K rfl (H 282) e0 Y0 fun T1 X1 e1 => ?_
  exact oRi X1 K rfl e1 N0 (by decide) ⟨rfl, rfl⟩
theorem own_m_kind (hw : own_HW a0 Z) {a1 r1 : Addr} (Z0 : n0 <= h0.size) (Y0 : f34 Z h0 a1 (.ref r1)) : own_M l ⟨"convoke/model/Message", "kind", "()Lconvoke/model/Message$Kind;"⟩ prog_22_method_8_code 1 (some (.object "convoke/model/Message$Kind")) ⟨0, 0, 0, 0⟩ ws Z h0 n0 #[(.ref a1)] (fun v h => (v = some (.ref r1) /\ h = h0)) := by
  refine own_beg (plainFor_of_name own_pn16) own_t41 #[.val (.ref a1)] (own_e1_1 · rfl) fun p e s m below meth c sa K X0 e0 => ?_
  have N0 := Fr.nil n0
  have H := oh hw
  refine oA X0 K rfl rfl rfl ?_
  refine oGf X0 K rfl (H 284) e0 Y0 fun T1 X1 e1 => ?_
  exact oRa X1 K rfl rfl rfl e1 N0 (by decide) ⟨rfl, rfl⟩
theorem own_m_value (hw : own_HW a0 Z) {a1 r1 : Addr} (Z0 : n0 <= h0.size) (Y0 : f35 Z h0 a1 (.ref r1)) : own_M l ⟨"convoke/model/Message", "value", "()Lconvoke/model/Value;"⟩ prog_22_method_9_code 1 (some (.object "convoke/model/Value")) ⟨0, 0, 0, 0⟩ ws Z h0 n0 #[(.ref a1)] (fun v h => (v = some (.ref r1) /\ h = h0)) := by
  refine own_beg (plainFor_of_name own_pn16) own_t47 #[.val (.ref a1)] (own_e1_1 · rfl) fun p e s m below meth c sa K X0 e0 => ?_
  have N0 := Fr.nil n0
  have H := oh hw
  refine oA X0 K rfl rfl rfl ?_
  refine oGf X0 K rfl (H 286) e0 Y0 fun T1 X1 e1 => ?_
  exact oRa X1 K rfl rfl rfl e1 N0 (by decide) ⟨rfl, rfl⟩
theorem own_kcode (hw : own_HW a0 Z) {q : own_P0} (Z0 : n0 <= h0.size) (hq : own_Env Z q) (hOld : Old Z n0 h0) : own_M l ⟨"convoke/model/Kinds", "code", "(Lconvoke/model/Message$Kind;)I"⟩ prog_21_method_4_code 3 (some .int) ⟨0, 0, 0, 0⟩ ws Z h0 n0 #[(.ref q.fKK), (.ref q.fKR)] (fun v h => (v = some (.int 3) /\ h = h0)) := by
  refine own_beg (plainFor_of_name own_pn17) own_t43 #[.val (.ref q.fKK), .val (.ref q.fKR), .unset] (own_e2_3 · ⟨rfl, rfl⟩) fun p e s m below meth c sa K X0 e0 => ?_
  have N0 := Fr.nil n0
  have H := oh hw
  refine oC (z := 0) X0 K rfl rfl <| oSIn X0 K rfl rfl <| oI X0 K rfl rfl <| oA X0 K rfl rfl rfl ?_
  refine oGf X0 K rfl (H 333) e0 (Fld.ext hOld.2 hq.fld) fun T1 X1 e1 => ?_
  obtain ⟨cl2, Ar2, -, S2, O2, -, -⟩ := (Arv.ext hq.arr hOld.2)
  refine oAn X1 K rfl e1 Ar2 (len_of S2 O2) <| oCN X1 K rfl (XT.ii_ge_f (by decide : (0 : Int32) < (4 : Int32))) <| oA X1 K rfl rfl rfl ?_
  refine oGf X1 K rfl (H 333) e1 (Fld.ext hOld.2 hq.fld) fun T3 X3 e3 => ?_
  refine oI X3 K rfl rfl ?_
  obtain ⟨cl4, Ar4, q4, S4, O4, H4, G4⟩ := (Arv.ext hq.arr hOld.2)
  have hin4 := inb_of (j := (0 : Int32)) S4 ⟨by decide, by decide⟩
  refine oAL X3 K rfl e3 Ar4 rfl hin4 (Has.at (v := (.ref q.fKI)) H4 hin4 rfl) <| oA X3 K rfl rfl rfl ?_
  refine own_fs (Jvm.RoadKit.acmp (g := (mkF m 18 #[.val (.ref q.fKK), .val (.ref q.fKR), .val (.int 0)] [(.ref q.fKR), (.ref q.fKI)])) X3 K.1 rfl rfl rfl (pc0 := 18) (pc' := 21) (same := false) rfl (K.d rfl) rfl (decide_eq_false (fun q => hq.nKI (Value.ref.inj q))) (by decide) (by decide) (Steps.refl _)) ?_
  show own_G _ _ _ _ (T3.setTop (mkF m 21 #[.val (.ref q.fKK), .val (.ref q.fKR), .val (.int 0)] []))
  refine oInc (z := 1) X3 K rfl rfl rfl rfl <| oGo X3 K rfl <| oI X3 K rfl rfl <| oA X3 K rfl rfl rfl ?_
  refine oGf X3 K rfl (H 333) e3 (Fld.ext hOld.2 hq.fld) fun T5 X5 e5 => ?_
  obtain ⟨cl6, Ar6, -, S6, O6, -, -⟩ := (Arv.ext hq.arr hOld.2)
  refine oAn X5 K rfl e5 Ar6 (len_of S6 O6) <| oCN X5 K rfl (XT.ii_ge_f (by decide : (1 : Int32) < (4 : Int32))) <| oA X5 K rfl rfl rfl ?_
  refine oGf X5 K rfl (H 333) e5 (Fld.ext hOld.2 hq.fld) fun T7 X7 e7 => ?_
  refine oI X7 K rfl rfl ?_
  obtain ⟨cl8, Ar8, q8, S8, O8, H8, G8⟩ := (Arv.ext hq.arr hOld.2)
  have hin8 := inb_of (j := (1 : Int32)) S8 ⟨by decide, by decide⟩
  refine oAL X7 K rfl e7 Ar8 rfl hin8 (Has.at (v := (.ref q.fKE)) H8 hin8 rfl) <| oA X7 K rfl rfl rfl ?_
  refine own_fs (Jvm.RoadKit.acmp (g := (mkF m 18 #[.val (.ref q.fKK), .val (.ref q.fKR), .val (.int 1)] [(.ref q.fKR), (.ref q.fKE)])) X7 K.1 rfl rfl rfl (pc0 := 18) (pc' := 21) (same := false) rfl (K.d rfl) rfl (decide_eq_false (fun q => hq.nKE (Value.ref.inj q))) (by decide) (by decide) (Steps.refl _)) ?_
  show own_G _ _ _ _ (T7.setTop (mkF m 21 #[.val (.ref q.fKK), .val (.ref q.fKR), .val (.int 1)] []))
  refine oInc (z := 2) X7 K rfl rfl rfl rfl <| oGo X7 K rfl <| oI X7 K rfl rfl <| oA X7 K rfl rfl rfl ?_
  refine oGf X7 K rfl (H 333) e7 (Fld.ext hOld.2 hq.fld) fun T9 X9 e9 => ?_
  obtain ⟨cl10, Ar10, -, S10, O10, -, -⟩ := (Arv.ext hq.arr hOld.2)
  refine oAn X9 K rfl e9 Ar10 (len_of S10 O10) <| oCN X9 K rfl (XT.ii_ge_f (by decide : (2 : Int32) < (4 : Int32))) <| oA X9 K rfl rfl rfl ?_
  refine oGf X9 K rfl (H 333) e9 (Fld.ext hOld.2 hq.fld) fun T11 X11 e11 => ?_
  refine oI X11 K rfl rfl ?_
  obtain ⟨cl12, Ar12, q12, S12, O12, H12, G12⟩ := (Arv.ext hq.arr hOld.2)
  have hin12 := inb_of (j := (2 : Int32)) S12 ⟨by decide, by decide⟩
  refine oAL X11 K rfl e11 Ar12 rfl hin12 (Has.at (v := (.ref q.fKR)) H12 hin12 rfl) <| oA X11 K rfl rfl rfl ?_
  refine own_fs (Jvm.RoadKit.acmp (g := (mkF m 18 #[.val (.ref q.fKK), .val (.ref q.fKR), .val (.int 2)] [(.ref q.fKR), (.ref q.fKR)])) X11 K.1 rfl rfl rfl (pc0 := 18) (pc' := 27) (same := true) rfl (K.d rfl) rfl (decide_eq_true (congrArg Value.ref rfl)) (by decide) (by decide) (Steps.refl _)) ?_
  show own_G _ _ _ _ (T11.setTop (mkF m 27 #[.val (.ref q.fKK), .val (.ref q.fKR), .val (.int 2)] []))
  refine oI X11 K rfl rfl <| oA X11 K rfl rfl rfl ?_
  refine oGf X11 K rfl (H 333) e11 (Fld.ext hOld.2 hq.fld) fun T13 X13 e13 => ?_
  obtain ⟨cl14, Ar14, -, S14, O14, -, -⟩ := (Arv.ext hq.arr hOld.2)
  refine oAn X13 K rfl e13 Ar14 (len_of S14 O14) <| oCY X13 K rfl (XT.ii_ne_t (by decide : ¬ ((2 : Int32) = (4 : Int32)))) <| oI X13 K rfl rfl <| oA X13 K rfl rfl rfl ?_
  refine oGf X13 K rfl (H 333) e13 (Fld.ext hOld.2 hq.fld) fun T15 X15 e15 => ?_
  obtain ⟨cl16, Ar16, -, S16, O16, -, -⟩ := (Arv.ext hq.arr hOld.2)
  refine oAn X15 K rfl e15 Ar16 (len_of S16 O16) <| oCY X15 K rfl (XT.ii_ne_t (by decide : ¬ ((2 : Int32) = (4 : Int32)))) <| oI X15 K rfl rfl <| oC (z := 1) X15 K rfl rfl <| oAdd (z := 3) X15 K rfl rfl ?_
  exact oRi X15 K rfl e15 N0 (by decide) ⟨rfl, rfl⟩
theorem own_kof (hw : own_HW a0 Z) {q : own_P0} (Z0 : n0 <= h0.size) (hq : own_Env Z q) (hOld : Old Z n0 h0) : own_M l ⟨"convoke/protocol/BrachaKind", "of", "(Lconvoke/model/Message$Kind;)Lconvoke/protocol/BrachaKind;"⟩ prog_64_method_4_code 1 (some (.object "convoke/protocol/BrachaKind")) ⟨1, 0, 0, 14⟩ ws Z h0 n0 #[(.ref q.fKR)] (fun v h => (v = some (.ref q.fKR) /\ h = h0)) := by
  refine own_beg (plainFor_of_name own_pn15) own_t42 #[.val (.ref q.fKR)] (own_e1_1 · rfl) fun p e s m below meth c sa K X0 e0 => ?_
  have N0 := Fr.nil n0
  have H := oh hw
  refine oGs X0 K rfl (H 326) e0 (Sta.ext hOld.2 hq.sKK) fun T1 X1 e1 => ?_
  refine oA X1 K rfl rfl rfl ?_
  refine oVc X1 K rfl (H 327) (H 328) (notFace_of_selects (args := #[]) (mvT K.wz (H 330))) (H 330) (H 329) (H 332) (H 331) (by decide) e1 (Exa.ext hOld.2 hq.eKK) (own_kcode hw Z0 hq hOld) rfl rfl (lenOf own_pd21 rfl) rfl N0 0 rfl (by decide) fun v3 T3 h3 L3 N3 q3 e3 X3 => ?_
  obtain ⟨rfl, y3⟩ := q3
  refine oPop X3 K rfl rfl <| oA X3 K rfl rfl rfl ?_
  refine oCst X3 K rfl (H 335) (e3.trans y3) (Ins.self (Exa.ext hOld.2 hq.eKR)) fun T4 X4 e4 => ?_
  exact oRa X4 K rfl rfl rfl e4 N3 (by decide) ⟨rfl, rfl⟩
theorem own_ckA (hw : own_HW a0 Z) {m1 : Addr} {p1 p2 p3 : Int32} (Z0 : n0 <= h0.size) (Y0 : Exa Z h0 m1 "convoke/model/Message") (Y1 : f32 Z h0 m1 (.int p1)) (Y2 : f31 Z h0 m1 (.int p3)) (hm1 : ¬ (p3 < (1 : Int32))) (hm2 : ¬ (p2 < p3)) : own_MW own_EL l ⟨"convoke/protocol/Seat", "checkAddressed", "(Lconvoke/model/Message;II)V"⟩ prog_80_method_3_code 3 none ⟨1, 2, 60, 14⟩ ws Z h0 n0 #[(.ref m1), (.int p1), (.int p2)] (fun v h => (v = none /\ Keep h0 h [])) := by
  refine own_begW (plainFor_of_name own_pn6) own_t37 #[.val (.ref m1), .val (.int p1), .val (.int p2)] (own_e3_3 · ⟨rfl, rfl, rfl⟩) fun p e s m below meth c sa K X0 e0 hh hS0 R0 => ?_
  have N0 := Fr.nil n0
  have H := oh hw
  have hEL := own_ew hw
  refine oA X0 K rfl rfl rfl ?_
  refine oVc X0 K rfl (H 301) (H 302) (notFace_of_selects (args := #[]) (mvT K.wz (H 304))) (H 304) (H 303) (H 305) (H 257) (by decide) e0 Y0 (own_m_to hw Z0 Y1) rfl rfl (lenOf own_pd11 rfl) rfl N0 0 rfl (by decide) fun v2 T2 h2 L2 N2 q2 e2 X2 => ?_
  obtain ⟨rfl, y2⟩ := q2
  refine oI X2 K rfl rfl <| oCY X2 K rfl (XT.ii_eq_t (rfl : p1 = p1)) ?_
  refine oLd (n := 56) X2 K rfl (H 306) (own_wS hw) (e2.trans y2) hS0 (Nat.zero_le _) hEL R0 (by decide) fun la3 T3 h3 k3 X3 e3 E3 hS3 hk3 K R3 => ?_
  refine oA X3 K rfl rfl rfl ?_
  refine oVc X3 K rfl (H 307) (H 308) (notFace_of_selects (args := #[]) (mvT K.wz (H 310))) (H 310) (H 309) (H 311) (H 257) (by decide) e3 (Exa.ext E3 Y0) (own_m_from hw (Nat.le_trans Z0 E3.1) (Fld.ext E3 Y2)) rfl rfl (lenOf own_pd11 rfl) rfl N2 1 rfl (by decide) fun v5 T5 h5 L5 N5 q5 e5 X5 => ?_
  obtain ⟨rfl, y5⟩ := q5
  refine oI X5 K rfl rfl ?_
  refine oTc X5 K rfl (H 91) (H 57) (H 59) (H 58) (by decide) (e5.trans y5) (own_ckP hw (Nat.le_trans Z0 E3.1) hm1 hm2) rfl (lenOf own_pd2 rfl) rfl N5 0 rfl (by decide) fun v7 T7 h7 L7 N7 q7 e7 X7 => ?_
  obtain ⟨rfl, y7⟩ := q7
  exact oRvw X7 K rfl (e7.trans y7) N7 (by decide) hh hEL hS3 hk3 R3 ⟨rfl, ((Keep.refl _ _).ext E3)⟩
theorem own_inp {p n : Int32} {m : Nat} (h : ¬ p < (1 : Int32)) (h' : ¬ n < p) (hn : 1 <= n.toInt /\ n.toInt <= 8) (S : m = (n + (1 : Int32)).toNatClampNeg) : ¬ (p < 0 ∨ m <= p.toNatClampNeg) := by
  rw [Int32.lt_iff_toInt_lt, show (1 : Int32).toInt = 1 from by decide] at h
  rw [Int32.lt_iff_toInt_lt] at h'
  have h0 : ¬ p < 0 := by rw [Int32.lt_iff_toInt_lt, show (0 : Int32).toInt = 0 from by decide]; omega
  have e1 := nat_of h0
  have q := own_n1 hn
  have e2 := nat_of q.1
  have e3 := q.2.2
  rintro (c | c)
  · exact h0 c
  · omega
theorem own_lt_of {m k : Nat} {p : Prop} (h : ¬ (p ∨ m <= k)) : k < m := Nat.lt_of_not_le fun q => h (Or.inr q)
theorem own_claim0 (hw : own_HW a0 Z) {a1 va ca co : Addr} {kva kca kco : ClassId} {nn : Int32} {hs : List (Int32 × Value)} {vt p1 : Int32} (Z0 : n0 <= h0.size) (Y0 : Exa Z h0 a1 "convoke/protocol/Votes") (Y1 : f22 Z h0 a1 (.ref va)) (Y2 : f23 Z h0 a1 (.ref ca)) (Y3 : f24 Z h0 a1 (.ref co)) (Y4 : f40 Z h0 a1 (.int 0)) (Y5 : f39 Z h0 a1 (.int vt)) (Y6 : Arv Z h0 va kva (.object "convoke/model/Value") (1 : Int32) [.null] .null) (Y7 : Ovr Z kva "convoke/model/Value") (Y8 : Arv Z h0 ca kca .int 1 [(.int 0)] (.int 0)) (Y9 : Arh Z h0 co kco .boolean (nn + (1 : Int32)) hs [] (.int 0)) (Y10 : n0 <= a1) (Y11 : n0 <= va) (Y12 : n0 <= ca) (Y13 : n0 <= co) (hp1 : ¬ (p1 < (1 : Int32))) (hp2 : ¬ (nn < p1)) (hn8 : 1 <= nn.toInt /\ nn.toInt <= 8) (hg : getH hs [] (.int 0) p1.toNatClampNeg = .int 0) : own_M l ⟨"convoke/protocol/Votes", "claim", "(I)Z"⟩ prog_88_method_3_code 2 (some .boolean) ⟨0, 0, 0, 0⟩ ws Z h0 n0 #[(.ref a1), (.int p1)] (fun v h => (v = some (.int 1) /\ Keep h0 h [a1, co] /\ (Exa Z h a1 "convoke/protocol/Votes") /\ (f22 Z h a1 (.ref va)) /\ (f23 Z h a1 (.ref ca)) /\ (f24 Z h a1 (.ref co)) /\ (f40 Z h a1 (.int 0)) /\ (f39 Z h a1 (.int (vt + (1 : Int32)))) /\ (Arv Z h va kva (.object "convoke/model/Value") (1 : Int32) [.null] .null) /\ (Ovr Z kva "convoke/model/Value") /\ (Arv Z h ca kca .int 1 [(.int 0)] (.int 0)) /\ (Arh Z h co kco .boolean (nn + (1 : Int32)) ((p1, .int 1) :: hs) [] (.int 0)))) := by
  refine own_beg (plainFor_of_name own_pn7) own_t51 #[.val (.ref a1), .val (.int p1)] (own_e2_2 · ⟨rfl, rfl⟩) fun p e s m below meth c sa K X0 e0 => ?_
  have N0 := Fr.nil n0
  have H := oh hw
  refine oA X0 K rfl rfl rfl ?_
  refine oGf X0 K rfl (H 146) e0 Y3 fun T1 X1 e1 => ?_
  refine oI X1 K rfl rfl ?_
  obtain ⟨cl2, Ar2, q2, S2, O2, H2, G2⟩ := (id Y9)
  have hin2 := own_inp hp1 hp2 hn8 S2
  refine own_fs (X1.baloadBooleans K.1 (j := p1) (v := .int 0) (by rw [e1]; exact Ar2.1) (State.isArrayOf_alike K.wz.alike Ar2.2.1) Ar2.2.2 hin2 ((H2 _ (own_lt_of hin2)).trans (congrArg some hg)) (g := (mkF m 5 #[.val (.ref a1), .val (.int p1)] [(.int p1), (.ref co)])) rfl rfl (K.d rfl) _ (Steps.refl _)) ?_
  show own_G _ _ _ _ (T1.setTop (mkF m 6 #[.val (.ref a1), .val (.int p1)] [(.int 0)]))
  refine oFY X1 K rfl (XT.i0_eq_t (by decide : (0 : Int32) = (0 : Int32))) <| oA X1 K rfl rfl rfl ?_
  refine oGf X1 K rfl (H 146) e1 Y3 fun T3 X3 e3 => ?_
  refine oI X3 K rfl rfl <| oC (z := 1) X3 K rfl rfl ?_
  obtain ⟨cl4, Ar4, q4, S4, O4, H4, G4⟩ := (id Y9)
  have hin4 := own_inp hp1 hp2 hn8 S4
  obtain ⟨T5, h5, X5, e5, W5, st5⟩ := stZ X3 K.1 K.wz e3 Ar4 (j := p1) hin4 (g := (mkF m 17 #[.val (.ref a1), .val (.int p1)] [(.int 1), (.int p1), (.ref co)])) rfl rfl (K.d rfl)
  refine own_fs (st5 _ (Steps.refl _)) ?_
  have V5 : Arh Z h5 co kco .boolean (nn + (1 : Int32)) ((p1, .int 1) :: hs) [] (.int 0) := Arh.push Ar4 q4 S4 O4 H4 G4 (v := .int 1) rfl W5 hin4
  have N5 := Fr.snoc X5 N0 Y13
  show own_G _ _ _ _ (T5.setTop (mkF m 18 #[.val (.ref a1), .val (.int p1)] []))
  refine oA X5 K rfl rfl rfl <| oDup X5 K rfl rfl ?_
  refine oGf X5 K rfl (H 387) e5 (oFn W5 Y5 (own_neArh Y0 Y9 (H 132))) fun T6 X6 e6 => ?_
  refine oC (z := 1) X6 K rfl rfl <| oAdd X6 K rfl rfl ?_
  refine oPf (ty := .int) X6 K rfl (H 387) e6 (oFn W5 Y5 (own_neArh Y0 Y9 (H 132))) (Exa.wr W5 Y0) (Or.inl (H 388)) (H 132) (by decide) rfl rfl N5 Y10 fun T7 h7 L7 N7 X7 e7 W7 Fw7 => ?_
  refine oC (z := 1) X7 K rfl rfl ?_
  exact oRn X7 K (by simp) rfl e7 N7 (by decide) ⟨rfl, (((Keep.refl _ _).wr W5 (oM 1 rfl)).wr W7 (oM 0 rfl)), (Exa.wr W7 (Exa.wr W5 Y0)), (oFo W7 (oFn W5 Y1 (own_neArh Y0 Y9 (H 132))) (Or.inl (H 141)) (Or.inl (H 388)) (by decide)), (oFo W7 (oFn W5 Y2 (own_neArh Y0 Y9 (H 132))) (Or.inl (H 144)) (Or.inl (H 388)) (by decide)), (oFo W7 (oFn W5 Y3 (own_neArh Y0 Y9 (H 132))) (Or.inr (H 147)) (Or.inl (H 388)) (by decide)), (oFo W7 (oFn W5 Y4 (own_neArh Y0 Y9 (H 132))) (Or.inl (H 394)) (Or.inl (H 388)) (by decide)), Fw7, ((Y6.other W5 (own_neVV (own_av Y6) (own_ah Y9) (by decide))).other W7 (Ne.symm (Exa.neArv Y0 Y6 (H 132)))), Y7, ((Y8.other W5 (own_neVV (own_av Y8) (own_ah Y9) (by decide))).other W7 (Ne.symm (Exa.neArv Y0 Y8 (H 132)))), (V5.other W7 (Ne.symm (own_neArh Y0 Y9 (H 132))))⟩
theorem own_claim1 (hw : own_HW a0 Z) {a1 va ca co : Addr} {kva kca kco : ClassId} {nn : Int32} {hs : List (Int32 × Value)} {vt p1 : Int32} {v1 : Addr} (Z0 : n0 <= h0.size) (Y0 : Exa Z h0 a1 "convoke/protocol/Votes") (Y1 : f22 Z h0 a1 (.ref va)) (Y2 : f23 Z h0 a1 (.ref ca)) (Y3 : f24 Z h0 a1 (.ref co)) (Y4 : f40 Z h0 a1 (.int 1)) (Y5 : f39 Z h0 a1 (.int vt)) (Y6 : Arv Z h0 va kva (.object "convoke/model/Value") (1 : Int32) [(.ref v1)] .null) (Y7 : Ovr Z kva "convoke/model/Value") (Y8 : Arv Z h0 ca kca .int 1 [(.int 1)] (.int 0)) (Y9 : Arh Z h0 co kco .boolean (nn + (1 : Int32)) hs [] (.int 0)) (Y10 : n0 <= a1) (Y11 : n0 <= va) (Y12 : n0 <= ca) (Y13 : n0 <= co) (hp1 : ¬ (p1 < (1 : Int32))) (hp2 : ¬ (nn < p1)) (hn8 : 1 <= nn.toInt /\ nn.toInt <= 8) (hg : getH hs [] (.int 0) p1.toNatClampNeg = .int 0) : own_M l ⟨"convoke/protocol/Votes", "claim", "(I)Z"⟩ prog_88_method_3_code 2 (some .boolean) ⟨0, 0, 0, 0⟩ ws Z h0 n0 #[(.ref a1), (.int p1)] (fun v h => (v = some (.int 1) /\ Keep h0 h [a1, co] /\ (Exa Z h a1 "convoke/protocol/Votes") /\ (f22 Z h a1 (.ref va)) /\ (f23 Z h a1 (.ref ca)) /\ (f24 Z h a1 (.ref co)) /\ (f40 Z h a1 (.int 1)) /\ (f39 Z h a1 (.int (vt + (1 : Int32)))) /\ (Arv Z h va kva (.object "convoke/model/Value") (1 : Int32) [(.ref v1)] .null) /\ (Ovr Z kva "convoke/model/Value") /\ (Arv Z h ca kca .int 1 [(.int 1)] (.int 0)) /\ (Arh Z h co kco .boolean (nn + (1 : Int32)) ((p1, .int 1) :: hs) [] (.int 0)))) := by
  refine own_beg (plainFor_of_name own_pn7) own_t51 #[.val (.ref a1), .val (.int p1)] (own_e2_2 · ⟨rfl, rfl⟩) fun p e s m below meth c sa K X0 e0 => ?_
  have N0 := Fr.nil n0
  have H := oh hw
  refine oA X0 K rfl rfl rfl ?_
  refine oGf X0 K rfl (H 146) e0 Y3 fun T1 X1 e1 => ?_
  refine oI X1 K rfl rfl ?_
  obtain ⟨cl2, Ar2, q2, S2, O2, H2, G2⟩ := (id Y9)
  have hin2 := own_inp hp1 hp2 hn8 S2
  refine own_fs (X1.baloadBooleans K.1 (j := p1) (v := .int 0) (by rw [e1]; exact Ar2.1) (State.isArrayOf_alike K.wz.alike Ar2.2.1) Ar2.2.2 hin2 ((H2 _ (own_lt_of hin2)).trans (congrArg some hg)) (g := (mkF m 5 #[.val (.ref a1), .val (.int p1)] [(.int p1), (.ref co)])) rfl rfl (K.d rfl) _ (Steps.refl _)) ?_
  show own_G _ _ _ _ (T1.setTop (mkF m 6 #[.val (.ref a1), .val (.int p1)] [(.int 0)]))
  refine oFY X1 K rfl (XT.i0_eq_t (by decide : (0 : Int32) = (0 : Int32))) <| oA X1 K rfl rfl rfl ?_
  refine oGf X1 K rfl (H 146) e1 Y3 fun T3 X3 e3 => ?_
  refine oI X3 K rfl rfl <| oC (z := 1) X3 K rfl rfl ?_
  obtain ⟨cl4, Ar4, q4, S4, O4, H4, G4⟩ := (id Y9)
  have hin4 := own_inp hp1 hp2 hn8 S4
  obtain ⟨T5, h5, X5, e5, W5, st5⟩ := stZ X3 K.1 K.wz e3 Ar4 (j := p1) hin4 (g := (mkF m 17 #[.val (.ref a1), .val (.int p1)] [(.int 1), (.int p1), (.ref co)])) rfl rfl (K.d rfl)
  refine own_fs (st5 _ (Steps.refl _)) ?_
  have V5 : Arh Z h5 co kco .boolean (nn + (1 : Int32)) ((p1, .int 1) :: hs) [] (.int 0) := Arh.push Ar4 q4 S4 O4 H4 G4 (v := .int 1) rfl W5 hin4
  have N5 := Fr.snoc X5 N0 Y13
  show own_G _ _ _ _ (T5.setTop (mkF m 18 #[.val (.ref a1), .val (.int p1)] []))
  refine oA X5 K rfl rfl rfl <| oDup X5 K rfl rfl ?_
  refine oGf X5 K rfl (H 387) e5 (oFn W5 Y5 (own_neArh Y0 Y9 (H 132))) fun T6 X6 e6 => ?_
  refine oC (z := 1) X6 K rfl rfl <| oAdd X6 K rfl rfl ?_
  refine oPf (ty := .int) X6 K rfl (H 387) e6 (oFn W5 Y5 (own_neArh Y0 Y9 (H 132))) (Exa.wr W5 Y0) (Or.inl (H 388)) (H 132) (by decide) rfl rfl N5 Y10 fun T7 h7 L7 N7 X7 e7 W7 Fw7 => ?_
  refine oC (z := 1) X7 K rfl rfl ?_
  exact oRn X7 K (by simp) rfl e7 N7 (by decide) ⟨rfl, (((Keep.refl _ _).wr W5 (oM 1 rfl)).wr W7 (oM 0 rfl)), (Exa.wr W7 (Exa.wr W5 Y0)), (oFo W7 (oFn W5 Y1 (own_neArh Y0 Y9 (H 132))) (Or.inl (H 141)) (Or.inl (H 388)) (by decide)), (oFo W7 (oFn W5 Y2 (own_neArh Y0 Y9 (H 132))) (Or.inl (H 144)) (Or.inl (H 388)) (by decide)), (oFo W7 (oFn W5 Y3 (own_neArh Y0 Y9 (H 132))) (Or.inr (H 147)) (Or.inl (H 388)) (by decide)), (oFo W7 (oFn W5 Y4 (own_neArh Y0 Y9 (H 132))) (Or.inl (H 394)) (Or.inl (H 388)) (by decide)), Fw7, ((Y6.other W5 (own_neVV (own_av Y6) (own_ah Y9) (by decide))).other W7 (Ne.symm (Exa.neArv Y0 Y6 (H 132)))), Y7, ((Y8.other W5 (own_neVV (own_av Y8) (own_ah Y9) (by decide))).other W7 (Ne.symm (Exa.neArv Y0 Y8 (H 132)))), (V5.other W7 (Ne.symm (own_neArh Y0 Y9 (H 132))))⟩
theorem own_claimS (hw : own_HW a0 Z) {a1 va ca co : Addr} {kva kca kco : ClassId} {nn : Int32} {hs : List (Int32 × Value)} {vt p1 : Int32} {v1 : Addr} (Z0 : n0 <= h0.size) (Y0 : Exa Z h0 a1 "convoke/protocol/Votes") (Y1 : f22 Z h0 a1 (.ref va)) (Y2 : f23 Z h0 a1 (.ref ca)) (Y3 : f24 Z h0 a1 (.ref co)) (Y4 : f40 Z h0 a1 (.int 1)) (Y5 : f39 Z h0 a1 (.int vt)) (Y6 : Arv Z h0 va kva (.object "convoke/model/Value") (1 : Int32) [(.ref v1)] .null) (Y7 : Ovr Z kva "convoke/model/Value") (Y8 : Arv Z h0 ca kca .int 1 [(.int 1)] (.int 0)) (Y9 : Arh Z h0 co kco .boolean (nn + (1 : Int32)) hs [] (.int 0)) (hp1 : ¬ (p1 < (1 : Int32))) (hp2 : ¬ (nn < p1)) (hn8 : 1 <= nn.toInt /\ nn.toInt <= 8) (hg : getH hs [] (.int 0) p1.toNatClampNeg = .int 1) : own_M l ⟨"convoke/protocol/Votes", "claim", "(I)Z"⟩ prog_88_method_3_code 2 (some .boolean) ⟨0, 0, 0, 0⟩ ws Z h0 n0 #[(.ref a1), (.int p1)] (fun v h => (v = some (.int 0) /\ h = h0)) := by
  refine own_beg (plainFor_of_name own_pn7) own_t51 #[.val (.ref a1), .val (.int p1)] (own_e2_2 · ⟨rfl, rfl⟩) fun p e s m below meth c sa K X0 e0 => ?_
  have N0 := Fr.nil n0
  have H := oh hw
  refine oA X0 K rfl rfl rfl ?_
  refine oGf X0 K rfl (H 146) e0 Y3 fun T1 X1 e1 => ?_
  refine oI X1 K rfl rfl ?_
  obtain ⟨cl2, Ar2, q2, S2, O2, H2, G2⟩ := (id Y9)
  have hin2 := own_inp hp1 hp2 hn8 S2
  refine own_fs (X1.baloadBooleans K.1 (j := p1) (v := .int 1) (by rw [e1]; exact Ar2.1) (State.isArrayOf_alike K.wz.alike Ar2.2.1) Ar2.2.2 hin2 ((H2 _ (own_lt_of hin2)).trans (congrArg some hg)) (g := (mkF m 5 #[.val (.ref a1), .val (.int p1)] [(.int p1), (.ref co)])) rfl rfl (K.d rfl) _ (Steps.refl _)) ?_
  show own_G _ _ _ _ (T1.setTop (mkF m 6 #[.val (.ref a1), .val (.int p1)] [(.int 1)]))
  refine oFN X1 K rfl (XT.i0_eq_f (by decide : ¬ ((1 : Int32) = (0 : Int32)))) <| oC (z := 0) X1 K rfl rfl ?_
  exact oRn X1 K (by simp) rfl e1 N0 (by decide) ⟨rfl, rfl⟩
theorem own_place0 (hw : own_HW a0 Z) {a1 v1 : Addr} (Z0 : n0 <= h0.size) (Y0 : Exa Z h0 a1 "convoke/protocol/Votes") (Y1 : f40 Z h0 a1 (.int 0)) : own_M l ⟨"convoke/protocol/Votes", "place", "(Lconvoke/model/Value;)I"⟩ prog_88_method_6_code 3 (some .int) ⟨0, 0, 0, 0⟩ ws Z h0 n0 #[(.ref a1), (.ref v1)] (fun v h => (v = some (.int 0) /\ h = h0)) := by
  refine own_beg (plainFor_of_name own_pn7) own_t52 #[.val (.ref a1), .val (.ref v1), .unset] (own_e2_3 · ⟨rfl, rfl⟩) fun p e s m below meth c sa K X0 e0 => ?_
  have N0 := Fr.nil n0
  have H := oh hw
  refine oC (z := 0) X0 K rfl rfl <| oSIn X0 K rfl rfl <| oI X0 K rfl rfl <| oA X0 K rfl rfl rfl ?_
  refine oGf X0 K rfl (H 393) e0 Y1 fun T1 X1 e1 => ?_
  refine oCY X1 K rfl (XT.ii_ge_t (by decide : ¬ ((0 : Int32) < (0 : Int32)))) <| oI X1 K rfl rfl ?_
  exact oRi X1 K rfl e1 N0 (by decide) ⟨rfl, rfl⟩
theorem own_place1 (hw : own_HW a0 Z) {a1 v1 va : Addr} {kva : ClassId} (Z0 : n0 <= h0.size) (Y0 : Exa Z h0 a1 "convoke/protocol/Votes") (Y1 : f40 Z h0 a1 (.int 1)) (Y2 : f22 Z h0 a1 (.ref va)) (Y3 : Arv Z h0 va kva (.object "convoke/model/Value") (1 : Int32) [.ref v1] .null) : own_M l ⟨"convoke/protocol/Votes", "place", "(Lconvoke/model/Value;)I"⟩ prog_88_method_6_code 3 (some .int) ⟨0, 0, 0, 0⟩ ws Z h0 n0 #[(.ref a1), (.ref v1)] (fun v h => (v = some (.int 0) /\ h = h0)) := by
  refine own_beg (plainFor_of_name own_pn7) own_t52 #[.val (.ref a1), .val (.ref v1), .unset] (own_e2_3 · ⟨rfl, rfl⟩) fun p e s m below meth c sa K X0 e0 => ?_
  have N0 := Fr.nil n0
  have H := oh hw
  refine oC (z := 0) X0 K rfl rfl <| oSIn X0 K rfl rfl <| oI X0 K rfl rfl <| oA X0 K rfl rfl rfl ?_
  refine oGf X0 K rfl (H 393) e0 Y1 fun T1 X1 e1 => ?_
  refine oCN X1 K rfl (XT.ii_ge_f (by decide : (0 : Int32) < (1 : Int32))) <| oA X1 K rfl rfl rfl ?_
  refine oGf X1 K rfl (H 140) e1 Y2 fun T2 X2 e2 => ?_
  refine oI X2 K rfl rfl ?_
  obtain ⟨cl3, Ar3, q3, S3, O3, H3, G3⟩ := (id Y3)
  have hin3 := inb_of (j := (0 : Int32)) S3 ⟨by decide, by decide⟩
  refine oAL X2 K rfl e2 Ar3 rfl hin3 (Has.at (v := (.ref v1)) H3 hin3 rfl) <| oA X2 K rfl rfl rfl ?_
  refine own_fs (Jvm.RoadKit.acmp (g := (mkF m 17 #[.val (.ref a1), .val (.ref v1), .val (.int 0)] [(.ref v1), (.ref v1)])) X2 K.1 rfl rfl rfl (pc0 := 17) (pc' := 39) (same := true) rfl (K.d rfl) rfl (decide_eq_true (congrArg Value.ref rfl)) (by decide) (by decide) (Steps.refl _)) ?_
  show own_G _ _ _ _ (T2.setTop (mkF m 39 #[.val (.ref a1), .val (.ref v1), .val (.int 0)] []))
  refine oI X2 K rfl rfl ?_
  exact oRi X2 K rfl e2 N0 (by decide) ⟨rfl, rfl⟩
theorem own_add0 (hw : own_HW a0 Z) {a1 va ca co : Addr} {kva kca kco : ClassId} {nn : Int32} {hs : List (Int32 × Value)} {vt p1 : Int32} {v1 : Addr} (Z0 : n0 <= h0.size) (Y0 : Exa Z h0 a1 "convoke/protocol/Votes") (Y1 : f22 Z h0 a1 (.ref va)) (Y2 : f23 Z h0 a1 (.ref ca)) (Y3 : f24 Z h0 a1 (.ref co)) (Y4 : f40 Z h0 a1 (.int 0)) (Y5 : f39 Z h0 a1 (.int vt)) (Y6 : Arv Z h0 va kva (.object "convoke/model/Value") (1 : Int32) [.null] .null) (Y7 : Ovr Z kva "convoke/model/Value") (Y8 : Arv Z h0 ca kca .int 1 [(.int 0)] (.int 0)) (Y9 : Arh Z h0 co kco .boolean (nn + (1 : Int32)) hs [] (.int 0)) (Y10 : n0 <= a1) (Y11 : n0 <= va) (Y12 : n0 <= ca) (Y13 : n0 <= co) (hp1 : ¬ (p1 < (1 : Int32))) (hp2 : ¬ (nn < p1)) (hn8 : 1 <= nn.toInt /\ nn.toInt <= 8) (hg : getH hs [] (.int 0) p1.toNatClampNeg = .int 0) (Y14 : Exa Z h0 v1 "convoke/model/Value") : own_M l ⟨"convoke/protocol/Votes", "add", "(ILconvoke/model/Value;)Z"⟩ prog_88_method_2_code 4 (some .boolean) ⟨1, 0, 0, 14⟩ ws Z h0 n0 #[(.ref a1), (.int p1), (.ref v1)] (fun v h => (v = some (.int 1) /\ Keep h0 h [a1, co, va, ca] /\ (Exa Z h a1 "convoke/protocol/Votes") /\ (f22 Z h a1 (.ref va)) /\ (f23 Z h a1 (.ref ca)) /\ (f24 Z h a1 (.ref co)) /\ (f40 Z h a1 (.int 1)) /\ (f39 Z h a1 (.int (vt + (1 : Int32)))) /\ (Arv Z h va kva (.object "convoke/model/Value") (1 : Int32) [(.ref v1)] .null) /\ (Ovr Z kva "convoke/model/Value") /\ (Arv Z h ca kca .int 1 [(.int 1)] (.int 0)) /\ (Arh Z h co kco .boolean (nn + (1 : Int32)) ((p1, .int 1) :: hs) [] (.int 0)))) := by
  refine own_beg (plainFor_of_name own_pn7) own_t50 #[.val (.ref a1), .val (.int p1), .val (.ref v1), .unset] (own_e3_4 · ⟨rfl, rfl, rfl⟩) fun p e s m below meth c sa K X0 e0 => ?_
  have N0 := Fr.nil n0
  have H := oh hw
  refine oA X0 K rfl rfl rfl <| oI X0 K rfl rfl ?_
  refine oVc X0 K rfl (H 382) (H 383) (notFace_of_selects (args := #[]) (mvT K.wz (H 385))) (H 385) (H 384) (H 386) (H 133) (by decide) e0 Y0 (own_claim0 hw Z0 Y0 Y1 Y2 Y3 Y4 Y5 Y6 Y7 Y8 Y9 Y10 Y11 Y12 Y13 hp1 hp2 hn8 hg) rfl rfl (lenOf own_pd22 rfl) rfl N0 0 rfl (by decide) fun v2 T2 h2 L2 N2 q2 e2 X2 => ?_
  obtain ⟨rfl, K2, Y15, Y16, Y17, Y18, Y19, Y20, Y21, Y22, Y23, Y24⟩ := q2
  refine oFY X2 K rfl (XT.i0_ne_t (by decide : ¬ ((1 : Int32) = (0 : Int32)))) <| oA X2 K rfl rfl rfl <| oA X2 K rfl rfl rfl ?_
  refine oPc X2 K rfl (H 389) (H 390) (own_sel_52 hw) (H 391) (H 392) (H 133) (by decide) e2 Y15 (own_place0 hw (Nat.le_trans Z0 K2.1) Y15 Y19) rfl rfl (lenOf own_pd23 rfl) rfl N2 0 rfl (by decide) fun v4 T4 h4 L4 N4 q4 e4 X4 => ?_
  obtain ⟨rfl, y4⟩ := q4
  refine oSIn X4 K rfl rfl <| oI X4 K rfl rfl <| oA X4 K rfl rfl rfl ?_
  refine oGf X4 K rfl (H 393) (e4.trans y4) Y19 fun T5 X5 e5 => ?_
  refine oCN X5 K rfl (XT.ii_ne_f (by decide : (0 : Int32) = (0 : Int32))) <| oA X5 K rfl rfl rfl ?_
  refine oGf X5 K rfl (H 393) e5 Y19 fun T6 X6 e6 => ?_
  refine oA X6 K rfl rfl rfl ?_
  refine oGf X6 K rfl (H 140) e6 Y16 fun T7 X7 e7 => ?_
  obtain ⟨cl8, Ar8, -, S8, O8, -, -⟩ := (id Y21)
  refine oAn X7 K rfl e7 Ar8 (len_of S8 O8) <| oCY X7 K rfl (XT.ii_ne_t (by decide : ¬ ((0 : Int32) = (1 : Int32)))) <| oA X7 K rfl rfl rfl ?_
  refine oGf X7 K rfl (H 140) e7 Y16 fun T9 X9 e9 => ?_
  refine oA X9 K rfl rfl rfl ?_
  refine oGf X9 K rfl (H 393) e9 Y19 fun T10 X10 e10 => ?_
  refine oA X10 K rfl rfl rfl ?_
  obtain ⟨cl11, Ar11, q11, S11, O11, H11, G11⟩ := (id Y21)
  obtain ⟨T12, h12, X12, e12, W12, st12⟩ := stR X10 K.1 K.wz e10 Ar11 (j := (0 : Int32)) (inb_of S11 ⟨by decide, by decide⟩) rfl (Sto.ofV Ar11 q11 Y22 (Ins.self (Y14.keep K2))) (g := (mkF m 82 #[.val (.ref a1), .val (.int p1), .val (.ref v1), .val (.int 0)] [(.ref v1), (.int 0), (.ref va)])) rfl rfl (K.d rfl)
  refine own_fs (st12 _ (Steps.refl _)) ?_
  have V12 : Arv Z h12 va kva (.object "convoke/model/Value") (1 : Int32) [(.ref v1)] .null := Arv.set Ar11 q11 S11 O11 H11 G11 rfl W12 0 rfl (Nat.le_of_ble_eq_true rfl)
  have N12 := Fr.snoc X12 N4 Y11
  show own_G _ _ _ _ (T12.setTop (mkF m 83 #[.val (.ref a1), .val (.int p1), .val (.ref v1), .val (.int 0)] []))
  refine oA X12 K rfl rfl rfl <| oDup X12 K rfl rfl ?_
  refine oGf X12 K rfl (H 393) e12 (oFn W12 Y19 (Exa.neArv Y0 Y6 (H 132))) fun T13 X13 e13 => ?_
  refine oC (z := 1) X13 K rfl rfl <| oAdd (z := 1) X13 K rfl rfl ?_
  refine oPf (ty := .int) X13 K rfl (H 393) e13 (oFn W12 Y19 (Exa.neArv Y0 Y6 (H 132))) (Exa.wr W12 Y15) (Or.inl (H 394)) (H 132) (by decide) rfl rfl N12 Y10 fun T14 h14 L14 N14 X14 e14 W14 Fw14 => ?_
  refine oA X14 K rfl rfl rfl ?_
  refine oGf X14 K rfl (H 143) e14 (oFo W14 (oFn W12 Y17 (Exa.neArv Y0 Y6 (H 132))) (Or.inl (H 144)) (Or.inl (H 394)) (by decide)) fun T15 X15 e15 => ?_
  refine oI X15 K rfl rfl ?_
  have sd16 : Steps p.tables e below (T15.setTop (mkF m 98 #[.val (.ref a1), .val (.int p1), .val (.ref v1), .val (.int 0)] [(.int 0), (.ref ca)])) (T15.setTop (mkF m 99 #[.val (.ref a1), .val (.int p1), .val (.ref v1), .val (.int 0)] [(.int 0), (.ref ca), (.int 0), (.ref ca)])) := by
    jvm_step X15.here [X15.here.top, K.1, (K.d (pc := 98) (i := .dup2) (n := 1) rfl), Value.category]
    exact Steps.refl _
  refine own_fs sd16 ?_
  show own_G _ _ _ _ (T15.setTop (mkF m 99 #[.val (.ref a1), .val (.int p1), .val (.ref v1), .val (.int 0)] [(.int 0), (.ref ca), (.int 0), (.ref ca)]))
  obtain ⟨cl17, Ar17, q17, S17, O17, H17, G17⟩ := ((Y23.other W12 (own_neVV (own_av Y8) (own_av Y6) (by decide))).other W14 (Ne.symm (Exa.neArv Y0 Y8 (H 132))))
  have hin17 := inb_of (j := (0 : Int32)) S17 ⟨by decide, by decide⟩
  refine own_fs (X15.iaload K.1 (j := (0 : Int32)) (v := (.int 0)) (by rw [e15]; exact Ar17.1) (State.isArrayOf_alike K.wz.alike Ar17.2.1) Ar17.2.2 hin17 (Has.at (v := (.int 0)) H17 hin17 rfl) (g := (mkF m 99 #[.val (.ref a1), .val (.int p1), .val (.ref v1), .val (.int 0)] [(.int 0), (.ref ca), (.int 0), (.ref ca)])) rfl rfl (K.d rfl) _ (Steps.refl _)) ?_
  show own_G _ _ _ _ (T15.setTop (mkF m 100 #[.val (.ref a1), .val (.int p1), .val (.ref v1), .val (.int 0)] [(.int 0), (.int 0), (.ref ca)]))
  refine oC (z := 1) X15 K rfl rfl <| oAdd (z := 1) X15 K rfl rfl ?_
  obtain ⟨cl18, Ar18, q18, S18, O18, H18, G18⟩ := ((Y23.other W12 (own_neVV (own_av Y8) (own_av Y6) (by decide))).other W14 (Ne.symm (Exa.neArv Y0 Y8 (H 132))))
  obtain ⟨T19, h19, X19, e19, W19, st19⟩ := stI X15 K.1 K.wz e15 Ar18 (j := (0 : Int32)) (inb_of S18 ⟨by decide, by decide⟩) (g := (mkF m 102 #[.val (.ref a1), .val (.int p1), .val (.ref v1), .val (.int 0)] [(.int 1), (.int 0), (.ref ca)])) rfl rfl (K.d rfl)
  refine own_fs (st19 _ (Steps.refl _)) ?_
  have V19 : Arv Z h19 ca kca .int 1 [(.int 1)] (.int 0) := Arv.set Ar18 q18 S18 O18 H18 G18 rfl W19 0 rfl (Nat.le_of_ble_eq_true rfl)
  have N19 := Fr.snoc X19 N14 Y12
  show own_G _ _ _ _ (T19.setTop (mkF m 103 #[.val (.ref a1), .val (.int p1), .val (.ref v1), .val (.int 0)] []))
  refine oC (z := 1) X19 K rfl rfl ?_
  exact oRn X19 K (by simp) rfl e19 N19 (by decide) ⟨rfl, (((((Keep.refl _ _).trans K2 (allS (oM 0 rfl) (allS (oM 1 rfl) all0))).wr W12 (oM 2 rfl)).wr W14 (oM 0 rfl)).wr W19 (oM 3 rfl)), (Exa.wr W19 (Exa.wr W14 (Exa.wr W12 Y15))), (oFn W19 (oFo W14 (oFn W12 Y16 (Exa.neArv Y0 Y6 (H 132))) (Or.inl (H 141)) (Or.inl (H 394)) (by decide)) (Exa.neArv Y0 Y8 (H 132))), (oFn W19 (oFo W14 (oFn W12 Y17 (Exa.neArv Y0 Y6 (H 132))) (Or.inl (H 144)) (Or.inl (H 394)) (by decide)) (Exa.neArv Y0 Y8 (H 132))), (oFn W19 (oFo W14 (oFn W12 Y18 (Exa.neArv Y0 Y6 (H 132))) (Or.inr (H 147)) (Or.inl (H 394)) (by decide)) (Exa.neArv Y0 Y8 (H 132))), (oFn W19 Fw14 (Exa.neArv Y0 Y8 (H 132))), (oFn W19 (oFo W14 (oFn W12 Y20 (Exa.neArv Y0 Y6 (H 132))) (Or.inl (H 388)) (Or.inl (H 394)) (by decide)) (Exa.neArv Y0 Y8 (H 132))), ((V12.other W14 (Ne.symm (Exa.neArv Y0 Y6 (H 132)))).other W19 (own_neVV (own_av Y6) (own_av Y8) (by decide))), Y22, V19, (((Y24.other W12 (own_neVV (own_ah Y9) (own_av Y6) (by decide))).other W14 (Ne.symm (own_neArh Y0 Y9 (H 132)))).other W19 (own_neVV (own_ah Y9) (own_av Y8) (by decide)))⟩
theorem own_add1 (hw : own_HW a0 Z) {a1 va ca co : Addr} {kva kca kco : ClassId} {nn : Int32} {hs : List (Int32 × Value)} {vt p1 : Int32} {v1 : Addr} (Z0 : n0 <= h0.size) (Y0 : Exa Z h0 a1 "convoke/protocol/Votes") (Y1 : f22 Z h0 a1 (.ref va)) (Y2 : f23 Z h0 a1 (.ref ca)) (Y3 : f24 Z h0 a1 (.ref co)) (Y4 : f40 Z h0 a1 (.int 1)) (Y5 : f39 Z h0 a1 (.int vt)) (Y6 : Arv Z h0 va kva (.object "convoke/model/Value") (1 : Int32) [(.ref v1)] .null) (Y7 : Ovr Z kva "convoke/model/Value") (Y8 : Arv Z h0 ca kca .int 1 [(.int 1)] (.int 0)) (Y9 : Arh Z h0 co kco .boolean (nn + (1 : Int32)) hs [] (.int 0)) (Y10 : n0 <= a1) (Y11 : n0 <= va) (Y12 : n0 <= ca) (Y13 : n0 <= co) (hp1 : ¬ (p1 < (1 : Int32))) (hp2 : ¬ (nn < p1)) (hn8 : 1 <= nn.toInt /\ nn.toInt <= 8) (hg : getH hs [] (.int 0) p1.toNatClampNeg = .int 0) : own_M l ⟨"convoke/protocol/Votes", "add", "(ILconvoke/model/Value;)Z"⟩ prog_88_method_2_code 4 (some .boolean) ⟨1, 0, 0, 14⟩ ws Z h0 n0 #[(.ref a1), (.int p1), (.ref v1)] (fun v h => (v = some (.int 1) /\ Keep h0 h [a1, co, ca] /\ (Exa Z h a1 "convoke/protocol/Votes") /\ (f22 Z h a1 (.ref va)) /\ (f23 Z h a1 (.ref ca)) /\ (f24 Z h a1 (.ref co)) /\ (f40 Z h a1 (.int 1)) /\ (f39 Z h a1 (.int (vt + (1 : Int32)))) /\ (Arv Z h va kva (.object "convoke/model/Value") (1 : Int32) [(.ref v1)] .null) /\ (Ovr Z kva "convoke/model/Value") /\ (Arv Z h ca kca .int 1 [(.int 2)] (.int 0)) /\ (Arh Z h co kco .boolean (nn + (1 : Int32)) ((p1, .int 1) :: hs) [] (.int 0)))) := by
  refine own_beg (plainFor_of_name own_pn7) own_t50 #[.val (.ref a1), .val (.int p1), .val (.ref v1), .unset] (own_e3_4 · ⟨rfl, rfl, rfl⟩) fun p e s m below meth c sa K X0 e0 => ?_
  have N0 := Fr.nil n0
  have H := oh hw
  refine oA X0 K rfl rfl rfl <| oI X0 K rfl rfl ?_
  refine oVc X0 K rfl (H 382) (H 383) (notFace_of_selects (args := #[]) (mvT K.wz (H 385))) (H 385) (H 384) (H 386) (H 133) (by decide) e0 Y0 (own_claim1 hw Z0 Y0 Y1 Y2 Y3 Y4 Y5 Y6 Y7 Y8 Y9 Y10 Y11 Y12 Y13 hp1 hp2 hn8 hg) rfl rfl (lenOf own_pd22 rfl) rfl N0 0 rfl (by decide) fun v2 T2 h2 L2 N2 q2 e2 X2 => ?_
  obtain ⟨rfl, K2, Y14, Y15, Y16, Y17, Y18, Y19, Y20, Y21, Y22, Y23⟩ := q2
  refine oFY X2 K rfl (XT.i0_ne_t (by decide : ¬ ((1 : Int32) = (0 : Int32)))) <| oA X2 K rfl rfl rfl <| oA X2 K rfl rfl rfl ?_
  refine oPc X2 K rfl (H 389) (H 390) (own_sel_52 hw) (H 391) (H 392) (H 133) (by decide) e2 Y14 (own_place1 hw (Nat.le_trans Z0 K2.1) Y14 Y18 Y15 Y20) rfl rfl (lenOf own_pd23 rfl) rfl N2 0 rfl (by decide) fun v4 T4 h4 L4 N4 q4 e4 X4 => ?_
  obtain ⟨rfl, y4⟩ := q4
  refine oSIn X4 K rfl rfl <| oI X4 K rfl rfl <| oA X4 K rfl rfl rfl ?_
  refine oGf X4 K rfl (H 393) (e4.trans y4) Y18 fun T5 X5 e5 => ?_
  refine oCY X5 K rfl (XT.ii_ne_t (by decide : ¬ ((0 : Int32) = (1 : Int32)))) <| oA X5 K rfl rfl rfl ?_
  refine oGf X5 K rfl (H 143) e5 Y16 fun T6 X6 e6 => ?_
  refine oI X6 K rfl rfl ?_
  have sd7 : Steps p.tables e below (T6.setTop (mkF m 98 #[.val (.ref a1), .val (.int p1), .val (.ref v1), .val (.int 0)] [(.int 0), (.ref ca)])) (T6.setTop (mkF m 99 #[.val (.ref a1), .val (.int p1), .val (.ref v1), .val (.int 0)] [(.int 0), (.ref ca), (.int 0), (.ref ca)])) := by
    jvm_step X6.here [X6.here.top, K.1, (K.d (pc := 98) (i := .dup2) (n := 1) rfl), Value.category]
    exact Steps.refl _
  refine own_fs sd7 ?_
  show own_G _ _ _ _ (T6.setTop (mkF m 99 #[.val (.ref a1), .val (.int p1), .val (.ref v1), .val (.int 0)] [(.int 0), (.ref ca), (.int 0), (.ref ca)]))
  obtain ⟨cl8, Ar8, q8, S8, O8, H8, G8⟩ := (id Y22)
  have hin8 := inb_of (j := (0 : Int32)) S8 ⟨by decide, by decide⟩
  refine own_fs (X6.iaload K.1 (j := (0 : Int32)) (v := (.int 1)) (by rw [e6]; exact Ar8.1) (State.isArrayOf_alike K.wz.alike Ar8.2.1) Ar8.2.2 hin8 (Has.at (v := (.int 1)) H8 hin8 rfl) (g := (mkF m 99 #[.val (.ref a1), .val (.int p1), .val (.ref v1), .val (.int 0)] [(.int 0), (.ref ca), (.int 0), (.ref ca)])) rfl rfl (K.d rfl) _ (Steps.refl _)) ?_
  show own_G _ _ _ _ (T6.setTop (mkF m 100 #[.val (.ref a1), .val (.int p1), .val (.ref v1), .val (.int 0)] [(.int 1), (.int 0), (.ref ca)]))
  refine oC (z := 1) X6 K rfl rfl <| oAdd (z := 2) X6 K rfl rfl ?_
  obtain ⟨cl9, Ar9, q9, S9, O9, H9, G9⟩ := (id Y22)
  obtain ⟨T10, h10, X10, e10, W10, st10⟩ := stI X6 K.1 K.wz e6 Ar9 (j := (0 : Int32)) (inb_of S9 ⟨by decide, by decide⟩) (g := (mkF m 102 #[.val (.ref a1), .val (.int p1), .val (.ref v1), .val (.int 0)] [(.int 2), (.int 0), (.ref ca)])) rfl rfl (K.d rfl)
  refine own_fs (st10 _ (Steps.refl _)) ?_
  have V10 : Arv Z h10 ca kca .int 1 [(.int 2)] (.int 0) := Arv.set Ar9 q9 S9 O9 H9 G9 rfl W10 0 rfl (Nat.le_of_ble_eq_true rfl)
  have N10 := Fr.snoc X10 N4 Y12
  show own_G _ _ _ _ (T10.setTop (mkF m 103 #[.val (.ref a1), .val (.int p1), .val (.ref v1), .val (.int 0)] []))
  refine oC (z := 1) X10 K rfl rfl ?_
  exact oRn X10 K (by simp) rfl e10 N10 (by decide) ⟨rfl, (((Keep.refl _ _).trans K2 (allS (oM 0 rfl) (allS (oM 1 rfl) all0))).wr W10 (oM 2 rfl)), (Exa.wr W10 Y14), (oFn W10 Y15 (Exa.neArv Y0 Y8 (H 132))), (oFn W10 Y16 (Exa.neArv Y0 Y8 (H 132))), (oFn W10 Y17 (Exa.neArv Y0 Y8 (H 132))), (oFn W10 Y18 (Exa.neArv Y0 Y8 (H 132))), (oFn W10 Y19 (Exa.neArv Y0 Y8 (H 132))), (Y20.other W10 (own_neVV (own_av Y6) (own_av Y8) (by decide))), Y21, V10, (Y23.other W10 (own_neVV (own_ah Y9) (own_av Y8) (by decide)))⟩
theorem own_addS (hw : own_HW a0 Z) {a1 va ca co : Addr} {kva kca kco : ClassId} {nn : Int32} {hs : List (Int32 × Value)} {vt p1 : Int32} {v1 : Addr} (Z0 : n0 <= h0.size) (Y0 : Exa Z h0 a1 "convoke/protocol/Votes") (Y1 : f22 Z h0 a1 (.ref va)) (Y2 : f23 Z h0 a1 (.ref ca)) (Y3 : f24 Z h0 a1 (.ref co)) (Y4 : f40 Z h0 a1 (.int 1)) (Y5 : f39 Z h0 a1 (.int vt)) (Y6 : Arv Z h0 va kva (.object "convoke/model/Value") (1 : Int32) [(.ref v1)] .null) (Y7 : Ovr Z kva "convoke/model/Value") (Y8 : Arv Z h0 ca kca .int 1 [(.int 1)] (.int 0)) (Y9 : Arh Z h0 co kco .boolean (nn + (1 : Int32)) hs [] (.int 0)) (hp1 : ¬ (p1 < (1 : Int32))) (hp2 : ¬ (nn < p1)) (hn8 : 1 <= nn.toInt /\ nn.toInt <= 8) (hg : getH hs [] (.int 0) p1.toNatClampNeg = .int 1) : own_M l ⟨"convoke/protocol/Votes", "add", "(ILconvoke/model/Value;)Z"⟩ prog_88_method_2_code 4 (some .boolean) ⟨1, 0, 0, 13⟩ ws Z h0 n0 #[(.ref a1), (.int p1), (.ref v1)] (fun v h => (v = some (.int 0) /\ h = h0)) := by
  refine own_beg (plainFor_of_name own_pn7) own_t50 #[.val (.ref a1), .val (.int p1), .val (.ref v1), .unset] (own_e3_4 · ⟨rfl, rfl, rfl⟩) fun p e s m below meth c sa K X0 e0 => ?_
  have N0 := Fr.nil n0
  have H := oh hw
  refine oA X0 K rfl rfl rfl <| oI X0 K rfl rfl ?_
  refine oVc X0 K rfl (H 382) (H 383) (notFace_of_selects (args := #[]) (mvT K.wz (H 385))) (H 385) (H 384) (H 386) (H 133) (by decide) e0 Y0 (own_claimS hw Z0 Y0 Y1 Y2 Y3 Y4 Y5 Y6 Y7 Y8 Y9 hp1 hp2 hn8 hg) rfl rfl (lenOf own_pd22 rfl) rfl N0 0 rfl (by decide) fun v2 T2 h2 L2 N2 q2 e2 X2 => ?_
  obtain ⟨rfl, y2⟩ := q2
  refine oFN X2 K rfl (XT.i0_ne_f (by decide : (0 : Int32) = (0 : Int32))) <| oC (z := 0) X2 K rfl rfl ?_
  exact oRn X2 K (by simp) rfl (e2.trans y2) N2 (by decide) ⟨rfl, rfl⟩
theorem own_vcount (hw : own_HW a0 Z) {a1 v1 va ca : Addr} {kva kca : ClassId} {ct : Int32} (Z0 : n0 <= h0.size) (Y0 : Exa Z h0 a1 "convoke/protocol/Votes") (Y1 : f40 Z h0 a1 (.int 1)) (Y2 : f22 Z h0 a1 (.ref va)) (Y3 : f23 Z h0 a1 (.ref ca)) (Y4 : Arv Z h0 va kva (.object "convoke/model/Value") (1 : Int32) [.ref v1] .null) (Y5 : Arv Z h0 ca kca .int 1 [.int ct] (.int 0)) : own_M l ⟨"convoke/protocol/Votes", "count", "(Lconvoke/model/Value;)I"⟩ prog_88_method_5_code 3 (some .int) ⟨1, 0, 0, 14⟩ ws Z h0 n0 #[(.ref a1), (.ref v1)] (fun v h => (v = some (.int ct) /\ h = h0)) := by
  refine own_beg (plainFor_of_name own_pn7) own_t54 #[.val (.ref a1), .val (.ref v1), .unset] (own_e2_3 · ⟨rfl, rfl⟩) fun p e s m below meth c sa K X0 e0 => ?_
  have N0 := Fr.nil n0
  have H := oh hw
  refine oA X0 K rfl rfl rfl <| oA X0 K rfl rfl rfl ?_
  refine oPc X0 K rfl (H 389) (H 390) (own_sel_52 hw) (H 391) (H 392) (H 133) (by decide) e0 Y0 (own_place1 hw Z0 Y0 Y1 Y2 Y4) rfl rfl (lenOf own_pd23 rfl) rfl N0 0 rfl (by decide) fun v2 T2 h2 L2 N2 q2 e2 X2 => ?_
  obtain ⟨rfl, y2⟩ := q2
  refine oSIn X2 K rfl rfl <| oI X2 K rfl rfl <| oA X2 K rfl rfl rfl ?_
  refine oGf X2 K rfl (H 393) (e2.trans y2) Y1 fun T3 X3 e3 => ?_
  refine oCN X3 K rfl (XT.ii_ge_f (by decide : (0 : Int32) < (1 : Int32))) <| oA X3 K rfl rfl rfl ?_
  refine oGf X3 K rfl (H 143) e3 Y3 fun T4 X4 e4 => ?_
  refine oI X4 K rfl rfl ?_
  obtain ⟨cl5, Ar5, q5, S5, O5, H5, G5⟩ := (id Y5)
  have hin5 := inb_of (j := (0 : Int32)) S5 ⟨by decide, by decide⟩
  refine own_fs (X4.iaload K.1 (j := (0 : Int32)) (v := (.int ct)) (by rw [e4]; exact Ar5.1) (State.isArrayOf_alike K.wz.alike Ar5.2.1) Ar5.2.2 hin5 (Has.at (v := (.int ct)) H5 hin5 rfl) (g := (mkF m 19 #[.val (.ref a1), .val (.ref v1), .val (.int 0)] [(.int 0), (.ref ca)])) rfl rfl (K.d rfl) _ (Steps.refl _)) ?_
  show own_G _ _ _ _ (T4.setTop (mkF m 20 #[.val (.ref a1), .val (.ref v1), .val (.int 0)] [(.int ct)]))
  refine oGo X4 K rfl ?_
  exact oRi X4 K rfl e4 N2 (by decide) ⟨rfl, rfl⟩
theorem own_pos1 {n : Int32} (h : 1 <= n.toInt /\ n.toInt <= 8) : (0 : Int32) < n := by
  rw [Int32.lt_iff_toInt_lt, show (0 : Int32).toInt = 0 from by decide]; omega
theorem own_ne_lt {p n : Int32} (h : p < n) : ¬ p = n := by
  rintro rfl
  rw [Int32.lt_iff_toInt_lt] at h; omega
theorem own_inS {p n : Int32} {m : Nat} (h0 : ¬ p < 0) (h : p < n) (S : m = n.toNatClampNeg) : ¬ (p < 0 ∨ m <= p.toNatClampNeg) := by
  have e1 := nat_of h0
  rw [Int32.lt_iff_toInt_lt] at h
  have e2 := nat_of (show ¬ n < 0 by rw [Int32.lt_iff_toInt_lt, show (0 : Int32).toInt = 0 from by decide]; omega)
  rintro (c | c)
  · exact h0 c
  · omega
theorem own_lof (hw : own_HW a0 Z) {q : own_P0} (Z0 : n0 <= h0.size) (hq : own_Env Z q) (hOld : Old Z n0 h0) : own_M l ⟨"java/util/List", "of", "()Ljava/util/List;"⟩ jdk_40_method_36_code 0 (some (.object "java/util/List")) ⟨0, 0, 0, 0⟩ ws Z h0 n0 #[] (fun v h => (v = some (.ref q.fEL) /\ h = h0)) := by
  refine own_beg (plainFor_of_name own_pn18) own_t53 #[] (fun _ => rfl) fun p e s m below meth c sa K X0 e0 => ?_
  have N0 := Fr.nil n0
  have H := oh hw
  refine oGs X0 K rfl (H 400) e0 (Sta.ext hOld.2 hq.sEL) fun T1 X1 e1 => ?_
  exact oRa X1 K rfl rfl rfl e1 N0 (by decide) ⟨rfl, rfl⟩
theorem own_stopped (hw : own_HW a0 Z) {a1 : Addr} (Z0 : n0 <= h0.size) (Y0 : Exa Z h0 a1 "convoke/protocol/Bracha") (Y1 : f37 Z h0 a1 (.int 0)) (Y2 : f38 Z h0 a1 (.int 0)) : own_M l ⟨"convoke/protocol/BrachaFamily", "stopped", "()Z"⟩ prog_63_method_21_code 1 (some .boolean) ⟨0, 0, 0, 0⟩ ws Z h0 n0 #[(.ref a1)] (fun v h => (v = some (.int 0) /\ h = h0)) := by
  refine own_beg (plainFor_of_name own_pn8) own_t45 #[.val (.ref a1)] (own_e1_1 · rfl) fun p e s m below meth c sa K X0 e0 => ?_
  have N0 := Fr.nil n0
  have H := oh hw
  refine oA X0 K rfl rfl rfl ?_
  refine oGf X0 K rfl (H 347) e0 Y1 fun T1 X1 e1 => ?_
  refine oFN X1 K rfl (XT.i0_ne_f (by decide : (0 : Int32) = (0 : Int32))) <| oA X1 K rfl rfl rfl ?_
  refine oGf X1 K rfl (H 349) e1 Y2 fun T2 X2 e2 => ?_
  refine oFY X2 K rfl (XT.i0_eq_t (by decide : (0 : Int32) = (0 : Int32))) <| oC (z := 0) X2 K rfl rfl ?_
  exact oRn X2 K (by simp) rfl e2 N0 (by decide) ⟨rfl, rfl⟩
theorem own_enumeq (hw : own_HW a0 Z) {q : own_P0} (Z0 : n0 <= h0.size) (hq : own_Env Z q) (hOld : Old Z n0 h0) : own_M l ⟨"java/lang/Enum", "equals", "(Ljava/lang/Object;)Z"⟩ jdk_37_method_5_code 2 (some .boolean) ⟨0, 0, 0, 0⟩ ws Z h0 n0 #[(.ref q.fKR), (.ref q.fKI)] (fun v h => (v = some (.int 0) /\ h = h0)) := by
  refine own_beg (plainFor_of_name own_pn19) own_t46 #[.val (.ref q.fKR), .val (.ref q.fKI)] (own_e2_2 · ⟨rfl, rfl⟩) fun p e s m below meth c sa K X0 e0 => ?_
  have N0 := Fr.nil n0
  refine oA X0 K rfl rfl rfl <| oA X0 K rfl rfl rfl ?_
  refine own_fs (Jvm.RoadKit.acmp (g := (mkF m 2 #[.val (.ref q.fKR), .val (.ref q.fKI)] [(.ref q.fKI), (.ref q.fKR)])) X0 K.1 rfl rfl rfl (pc0 := 2) (pc' := 9) (same := false) rfl (K.d rfl) rfl (decide_eq_false (fun q => (Ne.symm hq.nKI) (Value.ref.inj q))) (by decide) (by decide) (Steps.refl _)) ?_
  show own_G _ _ _ _ (sa.setTop (mkF m 9 #[.val (.ref q.fKR), .val (.ref q.fKI)] []))
  refine oC (z := 0) X0 K rfl rfl ?_
  exact oRn X0 K (by simp) rfl e0 N0 (by decide) ⟨rfl, rfl⟩
theorem own_i_OP (hw : own_HW a0 Z) {a1 v1 : Addr} {u1 : Value} (Z0 : n0 <= h0.size) (Y0 : Exa Z h0 a1 "java/util/Optional") (Y1 : f46 Z h0 a1 u1) (Y2 : n0 <= a1) : own_M l ⟨"java/util/Optional", "<init>", "(Ljava/lang/Object;)V"⟩ jdk_32_method_2_code 2 none ⟨1, 0, 0, 12⟩ ws Z h0 n0 #[(.ref a1), (.ref v1)] (fun v h => (v = none /\ Keep h0 h [a1] /\ (Exa Z h a1 "java/util/Optional") /\ (f46 Z h a1 (.ref v1)))) := by
  refine own_beg (plainFor_of_name own_pn20) own_t68 #[.val (.ref a1), .val (.ref v1)] (own_e2_2 · ⟨rfl, rfl⟩) fun p e s m below meth c sa K X0 e0 => ?_
  have N0 := Fr.nil n0
  have H := oh hw
  refine oA X0 K rfl rfl rfl ?_
  refine oObj X0 K rfl (H 501) (H 12) (H 13) e0 rfl 0 rfl (by decide) fun T1 X1 e1 => ?_
  refine oA X1 K rfl rfl rfl <| oA X1 K rfl rfl rfl ?_
  refine oPf (ty := (.object "java/lang/Object")) X1 K rfl (H 502) e1 Y1 Y0 (Or.inr ⟨(H 503), rfl, K.nm⟩) (H 496) (by decide) rfl rfl N0 Y2 fun T2 h2 L2 N2 X2 e2 W2 Fw2 => ?_
  exact oRv X2 K rfl e2 N2 (by decide) ⟨rfl, ((Keep.refl _ _).wr W2 (oM 0 rfl)), (Exa.wr W2 Y0), Fw2⟩
theorem own_on0 (hw : own_HW a0 Z) {q : own_P0} (Z0 : n0 <= h0.size) (hq : own_Env Z q) (hOld : Old Z n0 h0) : own_M l ⟨"java/util/Optional", "ofNullable", "(Ljava/lang/Object;)Ljava/util/Optional;"⟩ jdk_32_method_4_code 1 (some (.object "java/util/Optional")) ⟨0, 0, 0, 0⟩ ws Z h0 n0 #[.null] (fun v h => (v = some (.ref q.fOE) /\ h = h0)) := by
  refine own_beg (plainFor_of_name own_pn20) own_t67 #[.val .null] (own_e1_1 · rfl) fun p e s m below meth c sa K X0 e0 => ?_
  have N0 := Fr.nil n0
  have H := oh hw
  refine oA X0 K rfl rfl rfl <| oMN X0 K rfl ?_
  refine oGs X0 K rfl (H 730) e0 (Sta.ext hOld.2 hq.sOE) fun T1 X1 e1 => ?_
  refine oGo X1 K rfl ?_
  exact oRa X1 K rfl rfl rfl e1 N0 (by decide) ⟨rfl, rfl⟩
theorem own_on1 (hw : own_HW a0 Z) {v1 : Addr} (Z0 : n0 <= h0.size)  : own_M l ⟨"java/util/Optional", "ofNullable", "(Ljava/lang/Object;)Ljava/util/Optional;"⟩ jdk_32_method_4_code 1 (some (.object "java/util/Optional")) ⟨2, 1, 1, 26⟩ ws Z h0 n0 #[(.ref v1)] (fun v h => ∃ ar : Addr, (v = some (.ref ar) /\ Keep h0 h [] /\ (Exa Z h ar "java/util/Optional") /\ (f46 Z h ar (.ref v1)) /\ (h0.size <= ar))) := by
  refine own_beg (plainFor_of_name own_pn20) own_t67 #[.val (.ref v1)] (own_e1_1 · rfl) fun p e s m below meth c sa K X0 e0 => ?_
  have N0 := Fr.nil n0
  have H := oh hw
  refine oA X0 K rfl rfl rfl <| oMY X0 K rfl ?_
  refine oNew X0 K rfl (H 495) (H 496) (H 493) e0 (Nat.le_refl _) (by decide) fun T1 h1 b1 g1 Y0 X1 e1 E1 A1 D1 => ?_
  refine oDup X1 K rfl rfl <| oA X1 K rfl rfl rfl ?_
  refine oNc X1 K rfl (H 497) (H 498) (H 500) (H 493) (by decide) rfl e1 (own_i_OP hw (Nat.le_trans Z0 E1.1) A1 (D1 (Or.inr (H 503)) (ty := (.object "java/lang/Object")) (by decide)) (Nat.le_trans Z0 Y0)) rfl rfl (lenOf own_pd24 rfl) rfl N0 1 rfl (by decide) fun v3 T3 h3 L3 N3 q3 e3 X3 => ?_
  obtain ⟨rfl, K3, Y1, Y2⟩ := q3
  exact oRa X3 K rfl rfl rfl e3 N3 (by decide) ⟨b1, rfl, (((Keep.refl _ _).ext E1).trans K3 (allS (Or.inr Y0) all0)), Y1, Y2, Y0⟩
theorem own_oF0 (hw : own_HW a0 Z) {a1 : Addr} {q : own_P0} (Z0 : n0 <= h0.size) (Y0 : Exa Z h0 a1 "convoke/protocol/Bracha") (Y1 : f45 Z h0 a1 .null) (hq : own_Env Z q) (hOld : Old Z n0 h0) : own_M l ⟨"convoke/protocol/BrachaFamily", "output", "()Ljava/util/Optional;"⟩ prog_63_method_8_code 1 (some (.object "java/util/Optional")) ⟨1, 0, 0, 12⟩ ws Z h0 n0 #[(.ref a1)] (fun v h => (v = some (.ref q.fOE) /\ h = h0)) := by
  refine own_beg (plainFor_of_name own_pn8) own_t66 #[.val (.ref a1)] (own_e1_1 · rfl) fun p e s m below meth c sa K X0 e0 => ?_
  have N0 := Fr.nil n0
  have H := oh hw
  refine oA X0 K rfl rfl rfl ?_
  refine oGf X0 K rfl (H 475) e0 Y1 fun T1 X1 e1 => ?_
  refine oTc X1 K rfl (H 491) (H 492) (H 494) (H 493) (by decide) e1 (own_on0 hw Z0 hq hOld) rfl (lenOf own_pd25 rfl) rfl N0 0 rfl (by decide) fun v3 T3 h3 L3 N3 q3 e3 X3 => ?_
  obtain ⟨rfl, y3⟩ := q3
  exact oRa X3 K rfl rfl rfl (e3.trans y3) N3 (by decide) ⟨rfl, rfl⟩
theorem own_oF1 (hw : own_HW a0 Z) {a1 v1 : Addr} (Z0 : n0 <= h0.size) (Y0 : Exa Z h0 a1 "convoke/protocol/Bracha") (Y1 : f45 Z h0 a1 (.ref v1)) : own_M l ⟨"convoke/protocol/BrachaFamily", "output", "()Ljava/util/Optional;"⟩ prog_63_method_8_code 1 (some (.object "java/util/Optional")) ⟨3, 1, 1, 38⟩ ws Z h0 n0 #[(.ref a1)] (fun v h => ∃ ar : Addr, (v = some (.ref ar) /\ Keep h0 h [] /\ (Exa Z h ar "java/util/Optional") /\ (f46 Z h ar (.ref v1)) /\ (h0.size <= ar))) := by
  refine own_beg (plainFor_of_name own_pn8) own_t66 #[.val (.ref a1)] (own_e1_1 · rfl) fun p e s m below meth c sa K X0 e0 => ?_
  have N0 := Fr.nil n0
  have H := oh hw
  refine oA X0 K rfl rfl rfl ?_
  refine oGf X0 K rfl (H 475) e0 Y1 fun T1 X1 e1 => ?_
  refine oTc X1 K rfl (H 491) (H 492) (H 494) (H 493) (by decide) e1 (own_on1 hw Z0 ) rfl (lenOf own_pd25 rfl) rfl N0 0 rfl (by decide) fun v4 T4 h4 L4 N4 q4 e4 X4 => ?_
  obtain ⟨ar2, rfl, K4, Y2, Y3, Y4⟩ := q4
  have Y5 := Y4
  exact oRa X4 K rfl rfl rfl e4 N4 (by decide) ⟨ar2, rfl, ((Keep.refl _ _).trans K4 all0), Y2, Y3, Y5⟩
theorem own_oB0 (hw : own_HW a0 Z) {a1 : Addr} {q : own_P0} (Z0 : n0 <= h0.size) (Y0 : Exa Z h0 a1 "convoke/protocol/Bracha") (Y1 : f45 Z h0 a1 .null) (hq : own_Env Z q) (hOld : Old Z n0 h0) : own_M l ⟨"convoke/protocol/Bracha", "output", "()Ljava/util/Optional;"⟩ prog_62_method_13_code 1 (some (.object "java/util/Optional")) ⟨2, 0, 0, 24⟩ ws Z h0 n0 #[(.ref a1)] (fun v h => (v = some (.ref q.fOE) /\ h = h0)) := by
  refine own_beg (plainFor_of_name own_pn5) own_t65 #[.val (.ref a1)] (own_e1_1 · rfl) fun p e s m below meth c sa K X0 e0 => ?_
  have N0 := Fr.nil n0
  have H := oh hw
  refine oA X0 K rfl rfl rfl ?_
  refine oSc X0 K rfl (H 486) (own_same_66 hw) (H 487) (H 488) (H 490) (H 109) (by decide) e0 Y0 (own_oF0 hw Z0 Y0 Y1 hq hOld) rfl rfl (lenOf own_pd26 rfl) rfl N0 0 rfl (by decide) fun v2 T2 h2 L2 N2 q2 e2 X2 => ?_
  obtain ⟨rfl, y2⟩ := q2
  exact oRa X2 K rfl rfl rfl (e2.trans y2) N2 (by decide) ⟨rfl, rfl⟩
theorem own_oB1 (hw : own_HW a0 Z) {a1 v1 : Addr} (Z0 : n0 <= h0.size) (Y0 : Exa Z h0 a1 "convoke/protocol/Bracha") (Y1 : f45 Z h0 a1 (.ref v1)) : own_M l ⟨"convoke/protocol/Bracha", "output", "()Ljava/util/Optional;"⟩ prog_62_method_13_code 1 (some (.object "java/util/Optional")) ⟨4, 1, 1, 50⟩ ws Z h0 n0 #[(.ref a1)] (fun v h => ∃ ar : Addr, (v = some (.ref ar) /\ Keep h0 h [] /\ (Exa Z h ar "java/util/Optional") /\ (f46 Z h ar (.ref v1)) /\ (h0.size <= ar))) := by
  refine own_beg (plainFor_of_name own_pn5) own_t65 #[.val (.ref a1)] (own_e1_1 · rfl) fun p e s m below meth c sa K X0 e0 => ?_
  have N0 := Fr.nil n0
  have H := oh hw
  refine oA X0 K rfl rfl rfl ?_
  refine oSc X0 K rfl (H 486) (own_same_66 hw) (H 487) (H 488) (H 490) (H 109) (by decide) e0 Y0 (own_oF1 hw Z0 Y0 Y1) rfl rfl (lenOf own_pd26 rfl) rfl N0 0 rfl (by decide) fun v3 T3 h3 L3 N3 q3 e3 X3 => ?_
  obtain ⟨ar1, rfl, K3, Y2, Y3, Y4⟩ := q3
  have Y5 := Y4
  exact oRa X3 K rfl rfl rfl e3 N3 (by decide) ⟨ar1, rfl, ((Keep.refl _ _).trans K3 all0), Y2, Y3, Y5⟩
theorem own_ie0 (hw : own_HW a0 Z) {a1 : Addr} (Z0 : n0 <= h0.size) (Y0 : f46 Z h0 a1 .null) : own_M l ⟨"java/util/Optional", "isEmpty", "()Z"⟩ jdk_32_method_7_code 1 (some .boolean) ⟨0, 0, 0, 0⟩ ws Z h0 n0 #[(.ref a1)] (fun v h => (v = some (.int 1) /\ h = h0)) := by
  refine own_beg (plainFor_of_name own_pn20) own_t69 #[.val (.ref a1)] (own_e1_1 · rfl) fun p e s m below meth c sa K X0 e0 => ?_
  have N0 := Fr.nil n0
  have H := oh hw
  refine oA X0 K rfl rfl rfl ?_
  refine oGf X0 K rfl (H 502) e0 Y0 fun T1 X1 e1 => ?_
  refine oMN X1 K rfl <| oC (z := 1) X1 K rfl rfl <| oGo X1 K rfl ?_
  exact oRn X1 K (by simp) rfl e1 N0 (by decide) ⟨rfl, rfl⟩
theorem own_ie1 (hw : own_HW a0 Z) {a1 v1 : Addr} (Z0 : n0 <= h0.size) (Y0 : f46 Z h0 a1 (.ref v1)) : own_M l ⟨"java/util/Optional", "isEmpty", "()Z"⟩ jdk_32_method_7_code 1 (some .boolean) ⟨0, 0, 0, 0⟩ ws Z h0 n0 #[(.ref a1)] (fun v h => (v = some (.int 0) /\ h = h0)) := by
  refine own_beg (plainFor_of_name own_pn20) own_t69 #[.val (.ref a1)] (own_e1_1 · rfl) fun p e s m below meth c sa K X0 e0 => ?_
  have N0 := Fr.nil n0
  have H := oh hw
  refine oA X0 K rfl rfl rfl ?_
  refine oGf X0 K rfl (H 502) e0 Y0 fun T1 X1 e1 => ?_
  refine oMY X1 K rfl <| oC (z := 0) X1 K rfl rfl ?_
  exact oRn X1 K (by simp) rfl e1 N0 (by decide) ⟨rfl, rfl⟩
theorem own_o_get (hw : own_HW a0 Z) {a1 v1 : Addr} (Z0 : n0 <= h0.size) (Y0 : f46 Z h0 a1 (.ref v1)) : own_M l ⟨"java/util/Optional", "get", "()Ljava/lang/Object;"⟩ jdk_32_method_5_code 1 (some (.object "java/lang/Object")) ⟨0, 0, 0, 0⟩ ws Z h0 n0 #[(.ref a1)] (fun v h => (v = some (.ref v1) /\ h = h0)) := by
  refine own_beg (plainFor_of_name own_pn20) own_t70 #[.val (.ref a1)] (own_e1_1 · rfl) fun p e s m below meth c sa K X0 e0 => ?_
  have N0 := Fr.nil n0
  have H := oh hw
  refine oA X0 K rfl rfl rfl ?_
  refine oGf X0 K rfl (H 502) e0 Y0 fun T1 X1 e1 => ?_
  refine oMY X1 K rfl <| oA X1 K rfl rfl rfl ?_
  refine oGf X1 K rfl (H 502) e1 Y0 fun T2 X2 e2 => ?_
  exact oRa X2 K rfl rfl rfl e2 N0 (by decide) ⟨rfl, rfl⟩
theorem own_o_orElseThrow (hw : own_HW a0 Z) {a1 v1 : Addr} (Z0 : n0 <= h0.size) (Y0 : f46 Z h0 a1 (.ref v1)) : own_M l ⟨"java/util/Optional", "orElseThrow", "()Ljava/lang/Object;"⟩ jdk_32_method_17_code 1 (some (.object "java/lang/Object")) ⟨0, 0, 0, 0⟩ ws Z h0 n0 #[(.ref a1)] (fun v h => (v = some (.ref v1) /\ h = h0)) := by
  refine own_beg (plainFor_of_name own_pn20) own_t76 #[.val (.ref a1)] (own_e1_1 · rfl) fun p e s m below meth c sa K X0 e0 => ?_
  have N0 := Fr.nil n0
  have H := oh hw
  refine oA X0 K rfl rfl rfl ?_
  refine oGf X0 K rfl (H 502) e0 Y0 fun T1 X1 e1 => ?_
  refine oMY X1 K rfl <| oA X1 K rfl rfl rfl ?_
  refine oGf X1 K rfl (H 502) e1 Y0 fun T2 X2 e2 => ?_
  exact oRa X2 K rfl rfl rfl e2 N0 (by decide) ⟨rfl, rfl⟩
theorem own_release (hw : own_HW a0 Z) {a1 : Addr} {w_seat w_initKind : Value} {w_terminated w_quit : Int32} {w_output : Value} {w_quitResistant w_readySupport w_readyQuorum w_outputSupport : Int32} {w_echoes w_readies w_readiesOrQuits : Value} {w_readySent : Int32} (Z0 : n0 <= h0.size) (Y0 : Exa Z h0 a1 "convoke/protocol/Bracha") (Y1 : f13 Z h0 a1 w_seat) (Y2 : f15 Z h0 a1 w_initKind) (Y3 : f37 Z h0 a1 (.int w_terminated)) (Y4 : f38 Z h0 a1 (.int w_quit)) (Y5 : f45 Z h0 a1 w_output) (Y6 : f17 Z h0 a1 (.int w_quitResistant)) (Y7 : f19 Z h0 a1 (.int w_readySupport)) (Y8 : f20 Z h0 a1 (.int w_readyQuorum)) (Y9 : f21 Z h0 a1 (.int w_outputSupport)) (Y10 : f25 Z h0 a1 w_echoes) (Y11 : f26 Z h0 a1 w_readies) (Y12 : f27 Z h0 a1 w_readiesOrQuits) (Y13 : f41 Z h0 a1 (.int w_readySent)) (Y14 : n0 <= a1) : own_M l ⟨"convoke/protocol/Bracha", "release", "()V"⟩ prog_62_method_12_code 1 none ⟨0, 0, 0, 0⟩ ws Z h0 n0 #[(.ref a1)] (fun v h => (v = none /\ Keep h0 h [a1] /\ (Exa Z h a1 "convoke/protocol/Bracha") /\ (f13 Z h a1 w_seat) /\ (f15 Z h a1 w_initKind) /\ (f37 Z h a1 (.int w_terminated)) /\ (f38 Z h a1 (.int w_quit)) /\ (f45 Z h a1 w_output) /\ (f17 Z h a1 (.int w_quitResistant)) /\ (f19 Z h a1 (.int w_readySupport)) /\ (f20 Z h a1 (.int w_readyQuorum)) /\ (f21 Z h a1 (.int w_outputSupport)) /\ (f25 Z h a1 .null) /\ (f26 Z h a1 .null) /\ (f27 Z h a1 .null) /\ (f41 Z h a1 (.int w_readySent)))) := by
  refine own_beg (plainFor_of_name own_pn5) own_t72 #[.val (.ref a1)] (own_e1_1 · rfl) fun p e s m below meth c sa K X0 e0 => ?_
  have N0 := Fr.nil n0
  have H := oh hw
  refine oA X0 K rfl rfl rfl <| oN X0 K rfl ?_
  refine oPf (ty := (.object "convoke/protocol/Votes")) X0 K rfl (H 148) e0 Y10 Y0 (Or.inl (H 149)) (H 70) (by decide) rfl rfl N0 Y14 fun T1 h1 L1 N1 X1 e1 W1 Fw1 => ?_
  refine oA X1 K rfl rfl rfl <| oN X1 K rfl ?_
  refine oPf (ty := (.object "convoke/protocol/Votes")) X1 K rfl (H 150) e1 (oFo W1 Y11 (Or.inl (H 151)) (Or.inl (H 149)) (by decide)) (Exa.wr W1 Y0) (Or.inl (H 151)) (H 70) (by decide) rfl rfl N1 Y14 fun T2 h2 L2 N2 X2 e2 W2 Fw2 => ?_
  refine oA X2 K rfl rfl rfl <| oN X2 K rfl ?_
  refine oPf (ty := (.object "convoke/protocol/Votes")) X2 K rfl (H 152) e2 (oFo W2 (oFo W1 Y12 (Or.inl (H 153)) (Or.inl (H 149)) (by decide)) (Or.inl (H 153)) (Or.inl (H 151)) (by decide)) (Exa.wr W2 (Exa.wr W1 Y0)) (Or.inl (H 153)) (H 70) (by decide) rfl rfl N2 Y14 fun T3 h3 L3 N3 X3 e3 W3 Fw3 => ?_
  exact oRv X3 K rfl e3 N3 (by decide) ⟨rfl, ((((Keep.refl _ _).wr W1 (oM 0 rfl)).wr W2 (oM 0 rfl)).wr W3 (oM 0 rfl)), (Exa.wr W3 (Exa.wr W2 (Exa.wr W1 Y0))), (oFo W3 (oFo W2 (oFo W1 Y1 (Or.inr (H 113)) (Or.inl (H 149)) (by decide)) (Or.inr (H 113)) (Or.inl (H 151)) (by decide)) (Or.inr (H 113)) (Or.inl (H 153)) (by decide)), (oFo W3 (oFo W2 (oFo W1 Y2 (Or.inr (H 117)) (Or.inl (H 149)) (by decide)) (Or.inr (H 117)) (Or.inl (H 151)) (by decide)) (Or.inr (H 117)) (Or.inl (H 153)) (by decide)), (oFo W3 (oFo W2 (oFo W1 Y3 (Or.inl (H 348)) (Or.inl (H 149)) (by decide)) (Or.inl (H 348)) (Or.inl (H 151)) (by decide)) (Or.inl (H 348)) (Or.inl (H 153)) (by decide)), (oFo W3 (oFo W2 (oFo W1 Y4 (Or.inl (H 350)) (Or.inl (H 149)) (by decide)) (Or.inl (H 350)) (Or.inl (H 151)) (by decide)) (Or.inl (H 350)) (Or.inl (H 153)) (by decide)), (oFo W3 (oFo W2 (oFo W1 Y5 (Or.inl (H 476)) (Or.inl (H 149)) (by decide)) (Or.inl (H 476)) (Or.inl (H 151)) (by decide)) (Or.inl (H 476)) (Or.inl (H 153)) (by decide)), (oFo W3 (oFo W2 (oFo W1 Y6 (Or.inr (H 121)) (Or.inl (H 149)) (by decide)) (Or.inr (H 121)) (Or.inl (H 151)) (by decide)) (Or.inr (H 121)) (Or.inl (H 153)) (by decide)), (oFo W3 (oFo W2 (oFo W1 Y7 (Or.inr (H 126)) (Or.inl (H 149)) (by decide)) (Or.inr (H 126)) (Or.inl (H 151)) (by decide)) (Or.inr (H 126)) (Or.inl (H 153)) (by decide)), (oFo W3 (oFo W2 (oFo W1 Y8 (Or.inr (H 128)) (Or.inl (H 149)) (by decide)) (Or.inr (H 128)) (Or.inl (H 151)) (by decide)) (Or.inr (H 128)) (Or.inl (H 153)) (by decide)), (oFo W3 (oFo W2 (oFo W1 Y9 (Or.inr (H 130)) (Or.inl (H 149)) (by decide)) (Or.inr (H 130)) (Or.inl (H 151)) (by decide)) (Or.inr (H 130)) (Or.inl (H 153)) (by decide)), (oFo W3 (oFo W2 Fw1 (Or.inl (H 149)) (Or.inl (H 151)) (by decide)) (Or.inl (H 149)) (Or.inl (H 153)) (by decide)), (oFo W3 Fw2 (Or.inl (H 151)) (Or.inl (H 153)) (by decide)), Fw3, (oFo W3 (oFo W2 (oFo W1 Y13 (Or.inl (H 403)) (Or.inl (H 149)) (by decide)) (Or.inl (H 403)) (Or.inl (H 151)) (by decide)) (Or.inl (H 403)) (Or.inl (H 153)) (by decide))⟩
theorem own_terminate (hw : own_HW a0 Z) {a1 : Addr} {w_seat w_initKind : Value} {w_terminated w_quit : Int32} {w_output : Value} {w_quitResistant w_readySupport w_readyQuorum w_outputSupport : Int32} {w_echoes w_readies w_readiesOrQuits : Value} {w_readySent : Int32} (Z0 : n0 <= h0.size) (Y0 : Exa Z h0 a1 "convoke/protocol/Bracha") (Y1 : f13 Z h0 a1 w_seat) (Y2 : f15 Z h0 a1 w_initKind) (Y3 : f37 Z h0 a1 (.int w_terminated)) (Y4 : f38 Z h0 a1 (.int w_quit)) (Y5 : f45 Z h0 a1 w_output) (Y6 : f17 Z h0 a1 (.int w_quitResistant)) (Y7 : f19 Z h0 a1 (.int w_readySupport)) (Y8 : f20 Z h0 a1 (.int w_readyQuorum)) (Y9 : f21 Z h0 a1 (.int w_outputSupport)) (Y10 : f25 Z h0 a1 w_echoes) (Y11 : f26 Z h0 a1 w_readies) (Y12 : f27 Z h0 a1 w_readiesOrQuits) (Y13 : f41 Z h0 a1 (.int w_readySent)) (Y14 : n0 <= a1) : own_M l ⟨"convoke/protocol/BrachaFamily", "terminate", "()V"⟩ prog_63_method_15_code 1 none ⟨1, 0, 0, 12⟩ ws Z h0 n0 #[(.ref a1)] (fun v h => (v = none /\ Keep h0 h [a1] /\ (Exa Z h a1 "convoke/protocol/Bracha") /\ (f13 Z h a1 w_seat) /\ (f15 Z h a1 w_initKind) /\ (f37 Z h a1 (.int 1)) /\ (f38 Z h a1 (.int w_quit)) /\ (f45 Z h a1 w_output) /\ (f17 Z h a1 (.int w_quitResistant)) /\ (f19 Z h a1 (.int w_readySupport)) /\ (f20 Z h a1 (.int w_readyQuorum)) /\ (f21 Z h a1 (.int w_outputSupport)) /\ (f25 Z h a1 .null) /\ (f26 Z h a1 .null) /\ (f27 Z h a1 .null) /\ (f41 Z h a1 (.int w_readySent)))) := by
  refine own_beg (plainFor_of_name own_pn8) own_t71 #[.val (.ref a1)] (own_e1_1 · rfl) fun p e s m below meth c sa K X0 e0 => ?_
  have N0 := Fr.nil n0
  have H := oh hw
  refine oA X0 K rfl rfl rfl <| oC (z := 1) X0 K rfl rfl ?_
  refine oPf (ty := .boolean) (v' := (.int 1)) X0 K rfl (H 347) e0 Y3 Y0 (Or.inl (H 348)) (H 70) (by decide) rfl rfl N0 Y14 fun T1 h1 L1 N1 X1 e1 W1 Fw1 => ?_
  refine oA X1 K rfl rfl rfl ?_
  refine oVc X1 K rfl (H 521) (H 522) (own_nfz (args := #[]) (mvT K.wz (H 341)) rfl) (H 523) (H 524) (H 525) (H 37) (by decide) e1 (Exa.wr W1 Y0) (own_release hw (Nat.le_trans Z0 (Keep.of_wr W1).1) (Exa.wr W1 Y0) (oFo W1 Y1 (Or.inr (H 113)) (Or.inl (H 348)) (by decide)) (oFo W1 Y2 (Or.inr (H 117)) (Or.inl (H 348)) (by decide)) Fw1 (oFo W1 Y4 (Or.inl (H 350)) (Or.inl (H 348)) (by decide)) (oFo W1 Y5 (Or.inl (H 476)) (Or.inl (H 348)) (by decide)) (oFo W1 Y6 (Or.inr (H 121)) (Or.inl (H 348)) (by decide)) (oFo W1 Y7 (Or.inr (H 126)) (Or.inl (H 348)) (by decide)) (oFo W1 Y8 (Or.inr (H 128)) (Or.inl (H 348)) (by decide)) (oFo W1 Y9 (Or.inr (H 130)) (Or.inl (H 348)) (by decide)) (oFo W1 Y10 (Or.inl (H 149)) (Or.inl (H 348)) (by decide)) (oFo W1 Y11 (Or.inl (H 151)) (Or.inl (H 348)) (by decide)) (oFo W1 Y12 (Or.inl (H 153)) (Or.inl (H 348)) (by decide)) (oFo W1 Y13 (Or.inl (H 403)) (Or.inl (H 348)) (by decide)) Y14) rfl rfl (lenOf own_pd0 rfl) rfl N1 0 rfl (by decide) fun v3 T3 h3 L3 N3 q3 e3 X3 => ?_
  obtain ⟨rfl, K3, Y15, Y16, Y17, Y18, Y19, Y20, Y21, Y22, Y23, Y24, Y25, Y26, Y27, Y28⟩ := q3
  exact oRv X3 K rfl e3 N3 (by decide) ⟨rfl, (((Keep.refl _ _).wr W1 (oM 0 rfl)).trans K3 (allS (oM 0 rfl) all0)), Y15, Y16, Y17, Y18, Y19, Y20, Y21, Y22, Y23, Y24, Y25, Y26, Y27, Y28⟩
theorem own_outonce (hw : own_HW a0 Z) {a1 v1 : Addr} {w_seat w_initKind : Value} {w_terminated w_quit w_quitResistant w_readySupport w_readyQuorum w_outputSupport : Int32} {w_echoes w_readies w_readiesOrQuits : Value} {w_readySent : Int32} (Z0 : n0 <= h0.size) (Y0 : Exa Z h0 a1 "convoke/protocol/Bracha") (Y1 : f13 Z h0 a1 w_seat) (Y2 : f15 Z h0 a1 w_initKind) (Y3 : f37 Z h0 a1 (.int w_terminated)) (Y4 : f38 Z h0 a1 (.int w_quit)) (Y5 : f45 Z h0 a1 .null) (Y6 : f17 Z h0 a1 (.int w_quitResistant)) (Y7 : f19 Z h0 a1 (.int w_readySupport)) (Y8 : f20 Z h0 a1 (.int w_readyQuorum)) (Y9 : f21 Z h0 a1 (.int w_outputSupport)) (Y10 : f25 Z h0 a1 w_echoes) (Y11 : f26 Z h0 a1 w_readies) (Y12 : f27 Z h0 a1 w_readiesOrQuits) (Y13 : f41 Z h0 a1 (.int w_readySent)) (Y14 : n0 <= a1) : own_M l ⟨"convoke/protocol/BrachaFamily", "outputOnce", "(Lconvoke/model/Value;)V"⟩ prog_63_method_14_code 2 none ⟨0, 0, 0, 0⟩ ws Z h0 n0 #[(.ref a1), (.ref v1)] (fun v h => (v = none /\ Keep h0 h [a1] /\ (Exa Z h a1 "convoke/protocol/Bracha") /\ (f13 Z h a1 w_seat) /\ (f15 Z h a1 w_initKind) /\ (f37 Z h a1 (.int w_terminated)) /\ (f38 Z h a1 (.int w_quit)) /\ (f45 Z h a1 (.ref v1)) /\ (f17 Z h a1 (.int w_quitResistant)) /\ (f19 Z h a1 (.int w_readySupport)) /\ (f20 Z h a1 (.int w_readyQuorum)) /\ (f21 Z h a1 (.int w_outputSupport)) /\ (f25 Z h a1 w_echoes) /\ (f26 Z h a1 w_readies) /\ (f27 Z h a1 w_readiesOrQuits) /\ (f41 Z h a1 (.int w_readySent)))) := by
  refine own_beg (plainFor_of_name own_pn8) own_t63 #[.val (.ref a1), .val (.ref v1)] (own_e2_2 · ⟨rfl, rfl⟩) fun p e s m below meth c sa K X0 e0 => ?_
  have N0 := Fr.nil n0
  have H := oh hw
  refine oA X0 K rfl rfl rfl ?_
  refine oGf X0 K rfl (H 475) e0 Y5 fun T1 X1 e1 => ?_
  refine oMN X1 K rfl <| oA X1 K rfl rfl rfl <| oA X1 K rfl rfl rfl ?_
  refine oPf (ty := (.object "convoke/model/Value")) X1 K rfl (H 475) e1 Y5 Y0 (Or.inl (H 476)) (H 70) (by decide) rfl rfl N0 Y14 fun T2 h2 L2 N2 X2 e2 W2 Fw2 => ?_
  exact oRv X2 K rfl e2 N2 (by decide) ⟨rfl, ((Keep.refl _ _).wr W2 (oM 0 rfl)), (Exa.wr W2 Y0), (oFo W2 Y1 (Or.inr (H 113)) (Or.inl (H 476)) (by decide)), (oFo W2 Y2 (Or.inr (H 117)) (Or.inl (H 476)) (by decide)), (oFo W2 Y3 (Or.inl (H 348)) (Or.inl (H 476)) (by decide)), (oFo W2 Y4 (Or.inl (H 350)) (Or.inl (H 476)) (by decide)), Fw2, (oFo W2 Y6 (Or.inr (H 121)) (Or.inl (H 476)) (by decide)), (oFo W2 Y7 (Or.inr (H 126)) (Or.inl (H 476)) (by decide)), (oFo W2 Y8 (Or.inr (H 128)) (Or.inl (H 476)) (by decide)), (oFo W2 Y9 (Or.inr (H 130)) (Or.inl (H 476)) (by decide)), (oFo W2 Y10 (Or.inl (H 149)) (Or.inl (H 476)) (by decide)), (oFo W2 Y11 (Or.inl (H 151)) (Or.inl (H 476)) (by decide)), (oFo W2 Y12 (Or.inl (H 153)) (Or.inl (H 476)) (by decide)), (oFo W2 Y13 (Or.inl (H 403)) (Or.inl (H 476)) (by decide))⟩
theorem own_tid0 (hw : own_HW a0 Z) {a1 : Addr} {q : own_P0} (Z0 : n0 <= h0.size) (Y0 : Exa Z h0 a1 "convoke/protocol/Bracha") (Y1 : f45 Z h0 a1 .null) (hq : own_Env Z q) (hOld : Old Z n0 h0) : own_M l ⟨"convoke/protocol/Bracha", "terminateIfDone", "()V"⟩ prog_62_method_11_code 3 none ⟨3, 0, 0, 36⟩ ws Z h0 n0 #[(.ref a1)] (fun v h => (v = none /\ h = h0)) := by
  refine own_beg (plainFor_of_name own_pn5) own_t64 #[.val (.ref a1), .unset, .unset] (own_e1_3 · rfl) fun p e s m below meth c sa K X0 e0 => ?_
  have N0 := Fr.nil n0
  have H := oh hw
  refine oA X0 K rfl rfl rfl ?_
  refine oVc X0 K rfl (H 481) (H 482) (notFace_of_selects (args := #[]) (mvT K.wz (H 484))) (H 484) (H 483) (H 485) (H 37) (by decide) e0 Y0 (own_oB0 hw Z0 Y0 Y1 hq hOld) rfl rfl (lenOf own_pd26 rfl) rfl N0 0 rfl (by decide) fun v2 T2 h2 L2 N2 q2 e2 X2 => ?_
  obtain ⟨rfl, y2⟩ := q2
  refine oSAn X2 K rfl rfl rfl <| oA X2 K rfl rfl rfl ?_
  refine oVc X2 K rfl (H 504) (H 505) (notFace_of_selects (args := #[]) (mvT K.wz (H 507))) (H 507) (H 506) (H 508) (H 493) (by decide) (e2.trans y2) (Exa.ext hOld.2 hq.eOE) (own_ie0 hw Z0 (Fld.ext hOld.2 hq.vOE)) rfl rfl (lenOf own_pd9 rfl) rfl N2 0 rfl (by decide) fun v4 T4 h4 L4 N4 q4 e4 X4 => ?_
  obtain ⟨rfl, y4⟩ := q4
  refine oFN X4 K rfl (XT.i0_eq_f (by decide : ¬ ((1 : Int32) = (0 : Int32)))) ?_
  exact oRv X4 K rfl (e4.trans y4) N4 (by decide) ⟨rfl, rfl⟩
theorem own_tid1 (hw : own_HW a0 Z) {a1 rd v1 va ca : Addr} {kva kca : ClassId} {w_seat w_initKind : Value} {w_terminated w_quit w_readySupport w_outputSupport : Int32} {w_echoes w_readiesOrQuits : Value} {w_readySent : Int32} (Z0 : n0 <= h0.size) (Y0 : Exa Z h0 a1 "convoke/protocol/Bracha") (Y1 : f13 Z h0 a1 w_seat) (Y2 : f15 Z h0 a1 w_initKind) (Y3 : f37 Z h0 a1 (.int w_terminated)) (Y4 : f38 Z h0 a1 (.int w_quit)) (Y5 : f45 Z h0 a1 (.ref v1)) (Y6 : f17 Z h0 a1 (.int 0)) (Y7 : f19 Z h0 a1 (.int w_readySupport)) (Y8 : f20 Z h0 a1 (.int 1)) (Y9 : f21 Z h0 a1 (.int w_outputSupport)) (Y10 : f25 Z h0 a1 w_echoes) (Y11 : f26 Z h0 a1 (.ref rd)) (Y12 : f27 Z h0 a1 w_readiesOrQuits) (Y13 : f41 Z h0 a1 (.int w_readySent)) (Y14 : n0 <= a1) (Y15 : Exa Z h0 rd "convoke/protocol/Votes") (Y16 : f40 Z h0 rd (.int 1)) (Y17 : f22 Z h0 rd (.ref va)) (Y18 : f23 Z h0 rd (.ref ca)) (Y19 : Arv Z h0 va kva (.object "convoke/model/Value") (1 : Int32) [.ref v1] .null) (Y20 : Arv Z h0 ca kca .int 1 [.int 1] (.int 0)) (Y21 : Exa Z h0 v1 "convoke/model/Value") : own_M l ⟨"convoke/protocol/Bracha", "terminateIfDone", "()V"⟩ prog_62_method_11_code 3 none ⟨5, 1, 1, 62⟩ ws Z h0 n0 #[(.ref a1)] (fun v h => (v = none /\ Keep h0 h [a1] /\ (Exa Z h a1 "convoke/protocol/Bracha") /\ (f13 Z h a1 w_seat) /\ (f15 Z h a1 w_initKind) /\ (f37 Z h a1 (.int 1)) /\ (f38 Z h a1 (.int w_quit)) /\ (f45 Z h a1 (.ref v1)) /\ (f17 Z h a1 (.int 0)) /\ (f19 Z h a1 (.int w_readySupport)) /\ (f20 Z h a1 (.int 1)) /\ (f21 Z h a1 (.int w_outputSupport)) /\ (f25 Z h a1 .null) /\ (f26 Z h a1 .null) /\ (f27 Z h a1 .null) /\ (f41 Z h a1 (.int w_readySent)))) := by
  refine own_beg (plainFor_of_name own_pn5) own_t64 #[.val (.ref a1), .unset, .unset] (own_e1_3 · rfl) fun p e s m below meth c sa K X0 e0 => ?_
  have N0 := Fr.nil n0
  have H := oh hw
  refine oA X0 K rfl rfl rfl ?_
  refine oVc X0 K rfl (H 481) (H 482) (notFace_of_selects (args := #[]) (mvT K.wz (H 484))) (H 484) (H 483) (H 485) (H 37) (by decide) e0 Y0 (own_oB1 hw Z0 Y0 Y5) rfl rfl (lenOf own_pd26 rfl) rfl N0 0 rfl (by decide) fun v3 T3 h3 L3 N3 q3 e3 X3 => ?_
  obtain ⟨ar1, rfl, K3, Y22, Y23, Y24⟩ := q3
  refine oSAn X3 K rfl rfl rfl <| oA X3 K rfl rfl rfl ?_
  refine oVc X3 K rfl (H 504) (H 505) (notFace_of_selects (args := #[]) (mvT K.wz (H 507))) (H 507) (H 506) (H 508) (H 493) (by decide) e3 Y22 (own_ie1 hw (Nat.le_trans Z0 K3.1) Y23) rfl rfl (lenOf own_pd9 rfl) rfl N3 0 rfl (by decide) fun v5 T5 h5 L5 N5 q5 e5 X5 => ?_
  obtain ⟨rfl, y5⟩ := q5
  refine oFY X5 K rfl (XT.i0_eq_t (by decide : (0 : Int32) = (0 : Int32))) <| oA X5 K rfl rfl rfl ?_
  refine oGf X5 K rfl (H 120) (e5.trans y5) (Y6.keep K3 nin0) fun T6 X6 e6 => ?_
  refine oFY X6 K rfl (XT.i0_eq_t (by decide : (0 : Int32) = (0 : Int32))) <| oA X6 K rfl rfl rfl ?_
  refine oGf X6 K rfl (H 150) e6 (Y11.keep K3 nin0) fun T7 X7 e7 => ?_
  refine oA X7 K rfl rfl rfl ?_
  refine oVc X7 K rfl (H 509) (H 510) (notFace_of_selects (args := #[]) (mvT K.wz (H 512))) (H 512) (H 511) (H 513) (H 493) (by decide) e7 Y22 (own_o_get hw (Nat.le_trans Z0 K3.1) Y23) rfl rfl (lenOf own_pd27 rfl) rfl N5 1 rfl (by decide) fun v9 T9 h9 L9 N9 q9 e9 X9 => ?_
  obtain ⟨rfl, y9⟩ := q9
  refine oCst X9 K rfl (H 514) (e9.trans y9) (Ins.self (Y21.keep K3)) fun T10 X10 e10 => ?_
  refine oVc X10 K rfl (H 404) (H 405) (notFace_of_selects (args := #[]) (mvT K.wz (H 407))) (H 407) (H 406) (H 408) (H 133) (by decide) e10 (Y15.keep K3) (own_vcount hw (Nat.le_trans Z0 K3.1) (Y15.keep K3) (Y16.keep K3 nin0) (Y17.keep K3 nin0) (Y18.keep K3 nin0) (Y19.keep K3 nin0) (Y20.keep K3 nin0)) rfl rfl (lenOf own_pd23 rfl) rfl N9 0 rfl (by decide) fun v12 T12 h12 L12 N12 q12 e12 X12 => ?_
  obtain ⟨rfl, y12⟩ := q12
  refine oSIn X12 K rfl rfl <| oI X12 K rfl rfl <| oA X12 K rfl rfl rfl ?_
  refine oGf X12 K rfl (H 127) (e12.trans y12) (Y8.keep K3 nin0) fun T13 X13 e13 => ?_
  refine oCN X13 K rfl (XT.ii_lt_f (by decide : ¬ ((1 : Int32) < (1 : Int32)))) <| oA X13 K rfl rfl rfl ?_
  refine oUc X13 K rfl (H 515) (H 516) (H 517) (H 519) (H 518) (H 520) (H 109) (by decide) e13 (Y0.keep K3) (own_terminate hw (Nat.le_trans Z0 K3.1) (Y0.keep K3) (Y1.keep K3 nin0) (Y2.keep K3 nin0) (Y3.keep K3 nin0) (Y4.keep K3 nin0) (Y5.keep K3 nin0) (Y6.keep K3 nin0) (Y7.keep K3 nin0) (Y8.keep K3 nin0) (Y9.keep K3 nin0) (Y10.keep K3 nin0) (Y11.keep K3 nin0) (Y12.keep K3 nin0) (Y13.keep K3 nin0) Y14) rfl rfl (lenOf own_pd0 rfl) rfl N12 0 rfl (by decide) fun v15 T15 h15 L15 N15 q15 e15 X15 => ?_
  obtain ⟨rfl, K15, Y25, Y26, Y27, Y28, Y29, Y30, Y31, Y32, Y33, Y34, Y35, Y36, Y37, Y38⟩ := q15
  exact oRv X15 K rfl e15 N15 (by decide) ⟨rfl, (((Keep.refl _ _).trans K3 all0).trans K15 (allS (oM 0 rfl) all0)), Y25, Y26, Y27, Y28, Y29, Y30, Y31, Y32, Y33, Y34, Y35, Y36, Y37, Y38⟩
theorem own_i_AbstractCollection (hw : own_HW a0 Z) {a1 : Addr} (Z0 : n0 <= h0.size)  : own_M l ⟨"java/util/AbstractCollection", "<init>", "()V"⟩ jdk_22_method_1_code 1 none ⟨1, 0, 0, 12⟩ ws Z h0 n0 #[(.ref a1)] (fun v h => (v = none /\ h = h0)) := by
  refine own_beg (plainFor_of_name own_pn21) own_t60 #[.val (.ref a1)] (own_e1_1 · rfl) fun p e s m below meth c sa K X0 e0 => ?_
  have N0 := Fr.nil n0
  have H := oh hw
  refine oA X0 K rfl rfl rfl ?_
  refine oObj X0 K rfl (H 441) (H 12) (H 13) e0 rfl 0 rfl (by decide) fun T1 X1 e1 => ?_
  exact oRv X1 K rfl e1 N0 (by decide) ⟨rfl, rfl⟩
theorem own_i_ABL (hw : own_HW a0 Z) {a1 : Addr} {u1 : Int32} {u2 : Value} {u3 : Int32} (Z0 : n0 <= h0.size) (Y0 : Exa Z h0 a1 "java/util/ArrayList") (Y1 : f42 Z h0 a1 (.int u1)) (Y2 : f43 Z h0 a1 u2) (Y3 : f44 Z h0 a1 (.int u3)) (Y4 : n0 <= a1) : own_M l ⟨"java/util/AbstractList", "<init>", "()V"⟩ jdk_39_method_1_code 1 none ⟨2, 0, 0, 24⟩ ws Z h0 n0 #[(.ref a1)] (fun v h => (v = none /\ Keep h0 h [a1] /\ (Exa Z h a1 "java/util/ArrayList") /\ (f42 Z h a1 (.int 0)) /\ (f43 Z h a1 u2) /\ (f44 Z h a1 (.int u3)))) := by
  refine own_beg (plainFor_of_name own_pn22) own_t59 #[.val (.ref a1)] (own_e1_1 · rfl) fun p e s m below meth c sa K X0 e0 => ?_
  have N0 := Fr.nil n0
  have H := oh hw
  refine oA X0 K rfl rfl rfl ?_
  refine oNc X0 K rfl (H 435) (H 436) (H 440) (H 439) (by decide) rfl e0 (own_i_AbstractCollection hw Z0 ) rfl rfl (lenOf own_pd0 rfl) rfl N0 0 rfl (by decide) fun v2 T2 h2 L2 N2 q2 e2 X2 => ?_
  obtain ⟨rfl, y2⟩ := q2
  refine oA X2 K rfl rfl rfl <| oC (z := 0) X2 K rfl rfl ?_
  refine oPf (ty := .int) X2 K rfl (H 442) (e2.trans y2) Y1 Y0 (Or.inl (H 443)) (H 424) (by decide) rfl rfl N2 Y4 fun T3 h3 L3 N3 X3 e3 W3 Fw3 => ?_
  exact oRv X3 K rfl e3 N3 (by decide) ⟨rfl, ((Keep.refl _ _).wr W3 (oM 0 rfl)), (Exa.wr W3 Y0), Fw3, (oFo W3 Y2 (Or.inl (H 447)) (Or.inl (H 443)) (by decide)), (oFo W3 Y3 (Or.inl (H 462)) (Or.inl (H 443)) (by decide))⟩
theorem own_i_ALn (hw : own_HW a0 Z) {a1 : Addr} {p1 u1 : Int32} {u2 : Value} {u3 : Int32} (Z0 : n0 <= h0.size) (Y0 : Exa Z h0 a1 "java/util/ArrayList") (Y1 : f42 Z h0 a1 (.int u1)) (Y2 : f43 Z h0 a1 u2) (Y3 : f44 Z h0 a1 (.int u3)) (Y4 : n0 <= a1) (hn8 : 1 <= p1.toInt /\ p1.toInt <= 8) : own_M l ⟨"java/util/ArrayList", "<init>", "(I)V"⟩ jdk_38_method_1_code 2 none ⟨3, 1, 8, 36⟩ ws Z h0 n0 #[(.ref a1), (.int p1)] (fun v h => ∃ ed : Addr, ∃ ke : ClassId, (v = none /\ Keep h0 h [a1] /\ (Exa Z h a1 "java/util/ArrayList") /\ (f42 Z h a1 (.int 0)) /\ (f43 Z h a1 (.ref ed)) /\ (f44 Z h a1 (.int u3)) /\ (Arh Z h ed ke (.object "java/lang/Object") p1 [] [] .null) /\ (Ovr Z ke "java/lang/Object") /\ (h0.size <= ed) /\ (Exa Z h ed "[Ljava/lang/Object;"))) := by
  refine own_beg (plainFor_of_name own_pn23) own_t58 #[.val (.ref a1), .val (.int p1)] (own_e2_2 · ⟨rfl, rfl⟩) fun p e s m below meth c sa K X0 e0 => ?_
  have N0 := Fr.nil n0
  have H := oh hw
  refine oA X0 K rfl rfl rfl ?_
  refine oNc X0 K rfl (H 429) (H 430) (H 434) (H 433) (by decide) rfl e0 (own_i_ABL hw Z0 Y0 Y1 Y2 Y3 Y4) rfl rfl (lenOf own_pd0 rfl) rfl N0 0 rfl (by decide) fun v2 T2 h2 L2 N2 q2 e2 X2 => ?_
  obtain ⟨rfl, K2, Y5, Y6, Y7, Y8⟩ := q2
  refine oI X2 K rfl rfl <| oFN X2 K rfl (XT.i0_le_f (own_pos1 hn8)) <| oA X2 K rfl rfl rfl <| oI X2 K rfl rfl ?_
  refine oNR X2 K rfl (H 444) (H 445) e2 K2.1 (own_nn8 hn8).1 8 (own_nn8 hn8).2 (by decide) fun T3 h3 b3 k3 g3 Y9 X3 e3 E3 A3 D3 O3 => ?_
  have Y10 : Arh Z h3 b3 k3 (.object "java/lang/Object") p1 [] [] .null := A3
  refine oPf (ty := (.array (.object "java/lang/Object"))) X3 K rfl (H 446) e3 (Fld.ext E3 Y7) (Exa.ext E3 Y5) (Or.inl (H 447)) (H 424) (by decide) rfl rfl N2 Y4 fun T4 h4 L4 N4 X4 e4 W4 Fw4 => ?_
  refine oGo X4 K rfl ?_
  exact oRv X4 K rfl e4 N4 (by decide) ⟨b3, k3, rfl, ((((Keep.refl _ _).trans K2 (allS (oM 0 rfl) all0)).ext E3).wr W4 (oM 0 rfl)), (Exa.wr W4 (Exa.ext E3 Y5)), (oFo W4 (Fld.ext E3 Y6) (Or.inl (H 443)) (Or.inl (H 447)) (by decide)), Fw4, (oFo W4 (Fld.ext E3 Y8) (Or.inl (H 462)) (Or.inl (H 447)) (by decide)), (Y10.other W4 (Ne.symm (oNe (Exa.lt Y0) Y9))), O3, Y9, (Exa.wr W4 D3)⟩
theorem own_addh (hw : own_HW a0 Z) {a1 m1 ed : Addr} {p1 nn mc : Int32} {ke : ClassId} {hs : List (Int32 × Value)} (Z0 : n0 <= h0.size) (Y0 : Exa Z h0 a1 "java/util/ArrayList") (Y1 : f42 Z h0 a1 (.int mc)) (Y2 : f43 Z h0 a1 (.ref ed)) (Y3 : f44 Z h0 a1 (.int p1)) (Y4 : Arh Z h0 ed ke (.object "java/lang/Object") nn hs [] .null) (Y5 : Ovr Z ke "java/lang/Object") (Y6 : Exa Z h0 m1 "convoke/model/Message") (Y7 : n0 <= a1) (Y8 : n0 <= ed) (hsz : ¬ (p1 < 0)) (hlt : p1 < nn) : own_M l ⟨"java/util/ArrayList", "add", "(Ljava/lang/Object;[Ljava/lang/Object;I)V"⟩ jdk_38_method_24_code 4 none ⟨0, 0, 0, 0⟩ ws Z h0 n0 #[(.ref a1), (.ref m1), (.ref ed), (.int p1)] (fun v h => (v = none /\ Keep h0 h [a1, ed] /\ (Exa Z h a1 "java/util/ArrayList") /\ (f42 Z h a1 (.int mc)) /\ (f43 Z h a1 (.ref ed)) /\ (f44 Z h a1 (.int (p1 + (1 : Int32)))) /\ (Arh Z h ed ke (.object "java/lang/Object") nn ((p1, .ref m1) :: hs) [] .null) /\ (Ovr Z ke "java/lang/Object"))) := by
  refine own_beg (plainFor_of_name own_pn23) own_t62 #[.val (.ref a1), .val (.ref m1), .val (.ref ed), .val (.int p1)] (own_e4_4 · ⟨rfl, rfl, rfl, rfl⟩) fun p e s m below meth c sa K X0 e0 => ?_
  have N0 := Fr.nil n0
  have H := oh hw
  refine oI X0 K rfl rfl <| oA X0 K rfl rfl rfl ?_
  obtain ⟨cl1, Ar1, -, S1, O1, -, -⟩ := (id Y4)
  refine oAn X0 K rfl e0 Ar1 (len_of S1 O1) <| oCY X0 K rfl (XT.ii_ne_t (own_ne_lt hlt)) <| oA X0 K rfl rfl rfl <| oI X0 K rfl rfl <| oA X0 K rfl rfl rfl ?_
  obtain ⟨cl2, Ar2, q2, S2, O2, H2, G2⟩ := (id Y4)
  have hin2 := own_inS hsz hlt S2
  obtain ⟨T3, h3, X3, e3, W3, st3⟩ := stR X0 K.1 K.wz e0 Ar2 (j := p1) hin2 rfl (Sto.ofV Ar2 q2 Y5 (Ins.of_exa Y6 (H 468))) (g := (mkF m 14 #[.val (.ref a1), .val (.ref m1), .val (.ref ed), .val (.int p1)] [(.ref m1), (.int p1), (.ref ed)])) rfl rfl (K.d rfl)
  refine own_fs (st3 _ (Steps.refl _)) ?_
  have V3 : Arh Z h3 ed ke (.object "java/lang/Object") nn ((p1, .ref m1) :: hs) [] .null := Arh.push Ar2 q2 S2 O2 H2 G2 (v := .ref m1) rfl W3 hin2
  have N3 := Fr.snoc X3 N0 Y8
  show own_G _ _ _ _ (T3.setTop (mkF m 15 #[.val (.ref a1), .val (.ref m1), .val (.ref ed), .val (.int p1)] []))
  refine oA X3 K rfl rfl rfl <| oI X3 K rfl rfl <| oC (z := 1) X3 K rfl rfl <| oAdd X3 K rfl rfl ?_
  refine oPf (ty := .int) X3 K rfl (H 461) e3 (oFn W3 Y3 (own_neArh Y0 Y4 (H 424))) (Exa.wr W3 Y0) (Or.inl (H 462)) (H 424) (by decide) rfl rfl N3 Y7 fun T4 h4 L4 N4 X4 e4 W4 Fw4 => ?_
  exact oRv X4 K rfl e4 N4 (by decide) ⟨rfl, (((Keep.refl _ _).wr W3 (oM 1 rfl)).wr W4 (oM 0 rfl)), (Exa.wr W4 (Exa.wr W3 Y0)), (oFo W4 (oFn W3 Y1 (own_neArh Y0 Y4 (H 424))) (Or.inl (H 443)) (Or.inl (H 462)) (by decide)), (oFo W4 (oFn W3 Y2 (own_neArh Y0 Y4 (H 424))) (Or.inl (H 447)) (Or.inl (H 462)) (by decide)), Fw4, (V3.other W4 (Ne.symm (own_neArh Y0 Y4 (H 424)))), Y5⟩
theorem own_aadd (hw : own_HW a0 Z) {a1 m1 ed : Addr} {p1 nn mc : Int32} {ke : ClassId} {hs : List (Int32 × Value)} (Z0 : n0 <= h0.size) (Y0 : Exa Z h0 a1 "java/util/ArrayList") (Y1 : f42 Z h0 a1 (.int mc)) (Y2 : f43 Z h0 a1 (.ref ed)) (Y3 : f44 Z h0 a1 (.int p1)) (Y4 : Arh Z h0 ed ke (.object "java/lang/Object") nn hs [] .null) (Y5 : Ovr Z ke "java/lang/Object") (Y6 : Exa Z h0 m1 "convoke/model/Message") (Y7 : n0 <= a1) (Y8 : n0 <= ed) (hsz : ¬ (p1 < 0)) (hlt : p1 < nn) : own_M l ⟨"java/util/ArrayList", "add", "(Ljava/lang/Object;)Z"⟩ jdk_38_method_25_code 2 (some .boolean) ⟨1, 0, 0, 15⟩ ws Z h0 n0 #[(.ref a1), (.ref m1)] (fun v h => (v = some (.int 1) /\ Keep h0 h [a1, ed] /\ (Exa Z h a1 "java/util/ArrayList") /\ (f42 Z h a1 (.int (mc + (1 : Int32)))) /\ (f43 Z h a1 (.ref ed)) /\ (f44 Z h a1 (.int (p1 + (1 : Int32)))) /\ (Arh Z h ed ke (.object "java/lang/Object") nn ((p1, .ref m1) :: hs) [] .null) /\ (Ovr Z ke "java/lang/Object"))) := by
  refine own_beg (plainFor_of_name own_pn23) own_t61 #[.val (.ref a1), .val (.ref m1)] (own_e2_2 · ⟨rfl, rfl⟩) fun p e s m below meth c sa K X0 e0 => ?_
  have N0 := Fr.nil n0
  have H := oh hw
  refine oA X0 K rfl rfl rfl <| oDup X0 K rfl rfl ?_
  refine oGF X0 K rfl (host := "") (Or.inl (H 459)) (Via.of (H 460)) e0 Y1 fun T1 X1 e1 => ?_
  refine oC (z := 1) X1 K rfl rfl <| oAdd X1 K rfl rfl ?_
  refine oPF (ty := .int) X1 K rfl (host := "") (Or.inl (H 459)) (Via.of (H 460)) e1 Y1 Y0 (Or.inl (H 443)) (H 424) (by decide) rfl rfl N0 Y7 (Or.inl (H 459)) fun T2 h2 L2 N2 X2 e2 W2 Fw2 => ?_
  refine oA X2 K rfl rfl rfl <| oA X2 K rfl rfl rfl <| oA X2 K rfl rfl rfl ?_
  refine oGf X2 K rfl (H 446) e2 (oFo W2 Y2 (Or.inl (H 447)) (Or.inl (H 443)) (by decide)) fun T3 X3 e3 => ?_
  refine oA X3 K rfl rfl rfl ?_
  refine oGf X3 K rfl (H 461) e3 (oFo W2 Y3 (Or.inl (H 462)) (Or.inl (H 443)) (by decide)) fun T4 X4 e4 => ?_
  refine oPc X4 K rfl (H 463) (H 464) (H 466) (H 465) (H 467) (H 425) (by decide) e4 (Exa.wr W2 Y0) (own_addh hw (Nat.le_trans Z0 (Keep.of_wr W2).1) (Exa.wr W2 Y0) Fw2 (oFo W2 Y2 (Or.inl (H 447)) (Or.inl (H 443)) (by decide)) (oFo W2 Y3 (Or.inl (H 462)) (Or.inl (H 443)) (by decide)) (Y4.other W2 (Ne.symm (own_neArh Y0 Y4 (H 424)))) Y5 (Exa.wr W2 Y6) Y7 Y8 hsz hlt) rfl rfl (lenOf own_pd28 rfl) rfl N2 0 rfl (by decide) fun v6 T6 h6 L6 N6 q6 e6 X6 => ?_
  obtain ⟨rfl, K6, Y9, Y10, Y11, Y12, Y13, Y14⟩ := q6
  refine oC (z := 1) X6 K rfl rfl ?_
  exact oRn X6 K (by simp) rfl e6 N6 (by decide) ⟨rfl, (((Keep.refl _ _).wr W2 (oM 0 rfl)).trans K6 (allS (oM 0 rfl) (allS (oM 1 rfl) all0))), Y9, Y10, Y11, Y12, Y13, Y5⟩
section OwnIfUp
variable {args : Array Value} {first s : State} {o : Option Outcome} {idx : List Nat}
theorem own_linkFF {cls : String} {x : MethodName} {index d c : Nat} {ck ok : Class} {meth : Method} {mf : MethodId}
    (hd : s.vm.findClass cls = some d) (hc : s.vm.findClass x.cls = some c) (hck : s.vm.classes[c]? = some ck) (hvi : ck.isInterface = true) (hna : x.name ≠ "clone") (hnone : ck.findMethod x.name x.desc = none)
    (hf : s.methodFound? x.cls x.name x.desc = some mf) (hok : s.vm.classes[mf.cls]? = some ok) (hm : ok.methods[mf.idx]? = some meth) (hx : x.cls ≠ "java/lang/invoke/MethodHandle" /\ x.cls ≠ "java/lang/invoke/VarHandle")
    (h : (Cond.methodLink cls index x).holds args first o s idx = true) (pl : Platform) (hpl : pl.magicAccessors = ({} : Platform).magicAccessors) :
    ∃ ci, s.vm.MethodLinksFF pl d index ci c mf /\ s.rightAt d index (.method mf) = true := by
  obtain ⟨k₀, hk₀, hname⟩ := Vm.findClass_spec hc
  cases hck.symm.trans hk₀
  have hpoly : ∀ y, signaturePolymorphic ck y = false := fun y => by simp [signaturePolymorphic, hname, hx.1, hx.2]
  have hmeth : s.vm.method? mf = some meth := by simp [Vm.method?, hok, hm]
  have hff := State.faceFind_of_found hc hck hvi hpoly hnone hf
  simp only [Cond.holds, Cond.value, hd, hc] at h
  cases hme : s.memberEntry? cls index with
  | none => simp [hme] at h
  | some me =>
    obtain ⟨ci, via⟩ := me
    cases hcl : s.classLinks cls ci x.cls with
    | none => simp [hme, hcl, hf] at h
    | some linked =>
      cases hdk : s.vm.classes[d]? with
      | none => simp [hme, hcl, hdk, hf] at h
      | some dk =>
        simp only [hme, hcl, hdk, hck, hok, hmeth, hf, Option.bind_eq_bind, Option.bind_some, Option.pure_def, beq_iff_eq, bne_iff_ne, ne_eq, Option.some.injEq, Bool.and_eq_true, Option.isNone_iff_eq_none] at h
        obtain ⟨⟨⟨⟨⟨⟨⟨rfl, hnm⟩, hopen⟩, hvia⟩, -⟩, -⟩, hml⟩, hacc⟩ := h
        have hplain : s.vm.Plain meth.accessFlags mf.cls ok c d dk := by
          have e : (x.name == "clone") = false := by simpa using hna
          rw [e] at hacc
          simpa [plainAccess, Vm.Plain, or_assoc, and_assoc] using hacc
        rw [hvi] at hvia
        subst hvia
        obtain ⟨cr, hcr, hlinks⟩ := State.classLinks_spec hd hcl pl hpl
        cases hc.symm.trans hcr
        obtain ⟨cp, hcp, hnames⟩ := State.names_spec hnm
        obtain ⟨dk', cf, hdk', hcf, rfl⟩ := State.poolOf?_spec hd hcp
        cases hdk.symm.trans hdk'
        obtain ⟨ci', nt, hent, hnt, -⟩ := namesOf?_method hnames
        have hent' : ci' = ci /\ cf.constantPool[index]? = some (.interfaceMethodref ci nt) := by
          rcases hent with hent | hent
          · simp only [State.memberEntry?, hcp, Option.bind_eq_bind, Option.bind_some, hent, Option.some.injEq, Prod.mk.injEq] at hme
            exact absurd hme.2 (by simp)
          · simp only [State.memberEntry?, hcp, Option.bind_eq_bind, Option.bind_some, hent, Option.some.injEq, Prod.mk.injEq] at hme
            obtain ⟨rfl, -⟩ := hme
            exact ⟨rfl, hent⟩
        obtain ⟨rfl, hent''⟩ := hent'
        have hne : ci' ≠ index := by
          intro he
          obtain ⟨_, cf', name', _, hd', hcf', _, hname', _⟩ := hlinks.here
          cases hdk.symm.trans hd'
          cases hcf.symm.trans hcf'
          subst he
          simp [ConstantPool.className?, hent''] at hname'
        have hdl : dk.loader = none := by
          obtain ⟨dk', _, _, _, hd', _, hl', _⟩ := hlinks.here
          cases hdk.symm.trans hd'; exact hl'
        refine ⟨ci', ⟨dk, cf, nt, x.name, x.desc, ck, ok, meth, hdk, hcf, hent'', hnt, hlinks, hne, hck, hvi, hpoly, hnone, hff, hok, hm, hdl.trans hml.symm, hplain, State.openOr_spec hd hdk hopen⟩, ?_⟩
        simp [State.rightAt, hdk, hcf, hnames, hf]
end OwnIfUp
section OwnIfUp2
variable {p : Program} {l : Launch} {e : Env} {R : Room} {s : State} {m : MethodId} {args : Array Value} {below : List Frame} {meth : Method} {c : Code} {T : State} {locs : List Loc} {cells slots : Nat}
theorem own_ifUp (X : Stand p l e R s m args below meth c T locs cells slots) (hexec : p.tables.exec = Jvm.exec)
    {own J : String} {index count : Nat} {x : MethodName} (hown : s.vm.findClass own = some m.cls) (hlink : (Cond.methodLink own index x).before args s = true)
    (hface : (Cond.interfaceMethod x.cls J x.name x.desc).before args s = true) (hdecl : (Cond.declares ⟨J, x.name, x.desc⟩).before args s = true) (hclone : x.name ≠ "clone")
    (hxo : x.cls ≠ J) (hx : x.cls ≠ "java/lang/invoke/MethodHandle" /\ x.cls ≠ "java/lang/invoke/VarHandle")
    {a : Addr} {cell : Cell} {kcell : Class} {cI : ClassId} (hcI : s.vm.findClass x.cls = some cI) (hcell : T.heap[a]? = some cell) (hobj : ∀ c, cell.vm ≠ .statics c) (hkcell : s.vm.classes[cell.cls]? = some kcell)
    (hinst : s.vm.assignable cell.cls cI = true)
    {r0 m' : MethodId} {r meth' : Method} (hn : s.methodNamed? ⟨J, x.name, x.desc⟩ = some r0) (hrm : s.vm.method? r0 = some r)
    (hsel : selectMethod e.platform s.vm cell.cls r0 = .method m') (hm' : s.vm.method? m' = some meth')
    (hway : ((cell.cls :: s.vm.superclasses cell.cls).any fun k => (declaredIn s.vm r.name r.desc k).any fun (_, y) => y.isPrivate || y.isStatic) = false)
    (hpub : hasFlag meth'.accessFlags Acc.public_ = true) (habs : meth'.isAbstract = false)
    {g : JFrame} (hg : g.method = m) {argsL rest : List Value} (hlen : argsL.length = r.sig.parameters.length) (hstack : g.stack = argsL.reverse ++ .ref a :: rest)
    (hdg : decode c.code g.pc = .ok (.invokeinterface index count, 5)) :
    ∃ vm', Stand p l e R s m args below meth c (T.setVm vm') locs cells slots /\
      ∀ target, (∀ acts, Steps p.tables e below (doInvoke e ((T.setVm vm').setTop { g with stack := rest }) acts m' (.ref a :: argsL).toArray).1 target) -> Steps p.tables e below (T.setTop g) target := by
  have hpl : e.platform.magicAccessors = ({} : Platform).magicAccessors := by rw [X.admits.platform]
  obtain ⟨r0', r', hn', hrm', hstR, -⟩ := Cond.declares_spec hdecl
  cases hn.symm.trans hn'
  cases hrm.symm.trans hrm'
  obtain ⟨ok, hok, hokname⟩ := className_of_methodNamed hn
  have hmO : ok.methods[r0.idx]? = some r := by simpa [Vm.method?, hok] using hrm
  obtain ⟨cL, kL, r1, hcL, hkL, hiL, hfoundL, hn1⟩ := Cond.interfaceMethod_spec hface
  cases hcI.symm.trans hcL
  cases hn.symm.trans hn1
  obtain ⟨kL', hkL', hnameL⟩ := Vm.findClass_spec hcL
  cases hkL.symm.trans hkL'
  have hpolyL : ∀ y, signaturePolymorphic kL y = false := fun y => by simp [signaturePolymorphic, hnameL, hx.1, hx.2]
  have hnone : kL.findMethod x.name x.desc = none := by
    cases hj : kL.findMethod x.name x.desc with
    | none => rfl
    | some j =>
      exfalso
      have hsome : (kL.methods[j]?).isSome := by
        obtain ⟨hlt, -, -⟩ := Array.findIdx?_eq_some_iff_getElem.mp hj
        simp [hlt]
      have h2 := State.methodFound?_declared hcL hkL hpolyL hj hsome
      rw [hfoundL] at h2
      have e1 : r0 = ⟨cI, j⟩ := Option.some.inj h2
      have e2 : r0.cls = cI := by rw [e1]
      rw [e2] at hok
      cases hkL.symm.trans hok
      exact hxo (hnameL.symm.trans hokname)
  obtain ⟨ci, hl, hright⟩ := own_linkFF hown hcL hkL hiL hclone hnone hfoundL hok hmO hx hlink e.platform hpl
  have hE : s.MethodEntryUp e T.vm m.cls index cI r0 ci := State.methodEntryFF X.warmed hl hright
  obtain ⟨dk, cfile, nt, _, _, ck, _, _, hd, hcf, hcp, -, -, -, hck, hvia, -⟩ := hl.here
  cases hkL.symm.trans hck
  have alike := hE.warmed.alike
  obtain ⟨dk₂, hdk₂, hres⟩ := hE.classReady
  obtain ⟨dk₃, hdk₃, hed⟩ := alike.2.2 _ _ hd
  cases hdk₂.symm.trans hdk₃
  obtain ⟨ck₂, hck₂, hec⟩ := alike.2.2 _ _ hck
  obtain ⟨kcell₂, hkcell₂, -⟩ := alike.2.2 _ _ hkcell
  refine ⟨T.vm.calledUp m.cls ci index cI r0, X.noted hE.warmed, fun target hrest => ?_⟩
  subst hg
  jvm_step X.here [hexec, hdg, invokeinterface.wp_coldFace (e := e) (s := T) (s₀ := s) (f := g) (count := count) X.here.top X.warmed hE hd hcf (Or.inr hcp) hck hvia,
    invokeinterface.wp_ready (e := e) (s := T.setVm (T.vm.calledUp g.method.cls ci index cI r0)) (f := g) (count := count) (r := r) (meth := meth') (m := m') (args := argsL) (rest := rest) (cell := cell) (kcell := kcell₂) (ck := dk₂) (nk := ck₂) (cf := cfile) (ci := ci) (nt := nt) (named := cI)
      X.here.top hE.ready (by show (T.vm.calledUp g.method.cls ci index cI r0).method? r0 = some r; rw [alike.method?]; exact hrm) hstR hlen hstack hcell hobj hkcell₂ hdk₂ (by rw [hed]; exact hcf) hcp hres hck₂ (by rw [hec]; exact hvia)
      (by show (T.vm.calledUp g.method.cls ci index cI r0).assignable cell.cls cI = true; rw [alike.assignable]; exact hinst)
      (by show selectMethod e.platform (T.vm.calledUp g.method.cls ci index cI r0) cell.cls r0 = .method m'; rw [alike.selectMethod]; exact hsel)
      (by show (T.vm.calledUp g.method.cls ci index cI r0).method? m' = some meth'; rw [alike.method?]; exact hm')
      (Or.inr (Or.inr (by show ((cell.cls :: (T.vm.calledUp g.method.cls ci index cI r0).superclasses cell.cls).any fun k => (declaredIn (T.vm.calledUp g.method.cls ci index cI r0) r.name r.desc k).any fun (_, y) => y.isPrivate || y.isStatic) = false; simp only [alike.superclasses, alike.declaredIn]; exact hway)))
      (Or.inl hpub) habs]
  exact hrest
theorem own_ifBackUp (X : Stand p l e R s m args below meth c T locs cells slots) (hexec : p.tables.exec = Jvm.exec) {own C J : String} {index count : Nat} {xi y : MethodName}
    (hown : s.vm.findClass own = some m.cls) (hlink : (Cond.methodLink own index xi).before args s = true) (hdecl : (Cond.declares ⟨J, xi.name, xi.desc⟩).before args s = true) (hclone : xi.name ≠ "clone")
    (hface : (Cond.interfaceMethod xi.cls J xi.name xi.desc).before args s = true) (hxo : xi.cls ≠ J) (hsel : (Cond.selects C xi y).before args s = true) (hinst : (Cond.instanceMethod y).before args s = true)
    (hpub : (Cond.publicMethod y).before args s = true) (hunh : (Cond.unhidden C xi.name xi.desc).before args s = true) (hcast : (Cond.castable C xi.cls).before args s = true)
    (hx : xi.cls ≠ "java/lang/invoke/MethodHandle" /\ xi.cls ≠ "java/lang/invoke/VarHandle")
    {W : Nat} {Pre : Pt -> Array Value -> Prop} {Post : Pt -> Array Value -> Option Value -> Pt -> Prop} (hK : Back l R p e below s args y 5 W Pre Post)
    {b : Addr} {cB : ClassId} {kB : Class} (hcB : s.vm.findClass C = some cB) (hkB : s.vm.classes[cB]? = some kB) (hrecv : IsOf cB T b)
    {g : JFrame} (hg : g.method = m) (hsize : g.locals.size = c.maxLocals) {s₀ : State} (hcome : Steps p.tables e below s₀ (T.setTop g)) {argsL rest : List Value}
    (hlen : ∀ sig, parseMethodDescriptor xi.desc = some sig -> argsL.length = sig.parameters.length) (hstack : g.stack = argsL.reverse ++ .ref b :: rest) (hW : 2 * g.monitorRoom + (rest.map fun v => v.category).sum <= W)
    (hdg : decode c.code g.pc = .ok (.invokeinterface index count, 5)) (hpre : ∀ vm₁, s.WarmedH vm₁ -> Pre ⟨T.setVm vm₁, locs, cells, slots⟩ (.ref b :: argsL).toArray) :
    ∃ (v : Option Value) (vm₁ : Vm) (B : Pt), s.WarmedH vm₁ /\ Stand p l e R s m args below meth c B.U B.locs B.cells B.slots /\ Post ⟨T.setVm vm₁, locs, cells, slots⟩ (.ref b :: argsL).toArray v B /\
      Steps p.tables e below s₀ (B.U.setTop { g with pc := g.pc + 5, stack := v.toList ++ rest }) := by
  obtain ⟨cellB, hcellT, hclsB, hstatB⟩ := hrecv
  obtain ⟨r0, r, hn, hrm, hstR, hsigR⟩ := Cond.declares_spec hdecl
  obtain ⟨cL, kL, r1, hcL, hkL, hiL, hfoundL, hn1⟩ := Cond.interfaceMethod_spec hface
  cases hn.symm.trans hn1
  obtain ⟨hnameR, hdescR⟩ := name_of_methodNamed hn hrm
  obtain ⟨mk, methM, hnamed, hmethM, -, habM⟩ := Cond.instanceMethod_spec hinst
  obtain ⟨c2, r2, m2, q1, q2, q3, q4, -⟩ := Cond.selects_spec hsel
  cases hcB.symm.trans q1
  cases hfoundL.symm.trans q2
  cases hnamed.symm.trans q3
  have hselP : selectMethod e.platform s.vm cellB.cls r0 = .method mk := by rw [Launch.admits_selectMethod X.admits, hclsB]; exact q4
  have hpubM : hasFlag methM.accessFlags Acc.public_ = true := Cond.publicMethod_spec hnamed hmethM hpub
  have hway : ((cellB.cls :: s.vm.superclasses cellB.cls).any fun k => (declaredIn s.vm r.name r.desc k).any fun (_, z) => z.isPrivate || z.isStatic) = false := by
    rw [hnameR, hdescR, hclsB]; exact Cond.unhidden_spec hcB hunh
  obtain ⟨c3, t3, w1, w2, w3⟩ := Cond.castable_spec hcast
  cases hcB.symm.trans w1
  cases hcL.symm.trans w2
  obtain ⟨vm₁, X₁, hstep₁⟩ := own_ifUp X hexec (J := J) hown hlink hface hdecl hclone hxo hx (a := b) (cell := cellB) (kcell := kB) hcL hcellT
    (fun z h => by rw [h] at hstatB; cases hstatB) (by rw [hclsB]; exact hkB) (by rw [hclsB]; exact w3) hn hrm hselP hmethM hway hpubM habM (g := g) hg (argsL := argsL) (rest := rest) (hlen _ hsigR) hstack hdg
  obtain ⟨v, B, X', hpost, hsteps⟩ := hK m meth c ⟨T.setVm vm₁, locs, cells, slots⟩ { g with stack := rest } (.invokeinterface index count) mk (.ref b :: argsL).toArray X₁ hg hsize hdg hW (X₁.named hnamed) (hpre vm₁ X₁.warmed)
  exact ⟨v, vm₁, B, X₁.warmed, X', hpost, (hcome.trans (hstep₁ _ fun acts => by rw [doInvoke_state]; exact Steps.refl _)).trans hsteps⟩
end OwnIfUp2
theorem own_mvF {Z s : State} {a0 args : Array Value} {r o n d : String} (hZ : Z.Warmed39 s.vm) (w : (Cond.interfaceMethod r o n d).before a0 Z = true) : (Cond.interfaceMethod r o n d).before args s = true := by
  obtain ⟨c, k, m, h1, h2, h3, h4, h5⟩ := Cond.interfaceMethod_spec w
  have al := hZ.alike
  obtain ⟨k', hk', ek⟩ := al.2.2 _ _ h2
  have e1 : s.vm.findClass r = some c := by rw [al.findClass]; exact h1
  have e4 : s.methodFound? r n d = some m := by
    have q := State.methodFound?_setVm al r n d
    exact (show s.methodFound? r n d = _ from q).trans h4
  have e5 : s.methodNamed? ⟨o, n, d⟩ = some m := by
    have q := State.methodNamed?_setVm al (x := ⟨o, n, d⟩)
    exact (show s.methodNamed? ⟨o, n, d⟩ = _ from q).trans h5
  have hi : k'.isInterface = true := by rw [ek]; exact h3
  apply Cond.before_iff.mpr
  simp [Cond.value, e1, e4, e5, hk', hi]

section OwnMir
variable {p : Program} {l : Launch} {e : Env} {R : Room} {s : State} {m : MethodId} {args : Array Value} {below : List Frame} {meth : Method} {c : Code} {T : State} {locs : List Loc} {cells slots : Nat} {Z : State} {h : Heap} {a b : Addr} {k k' : ClassId} {ty : FieldType} {z : Int32} {hs : List (Int32 × Value)} {vs : List Value} {dv : Value}
theorem own_ldcM (X : Stand p l e R s m args below meth c T locs cells slots) (hx : p.tables.exec = Jvm.exec) (hZ : Z.Warmed39 s.vm) {a0 : Array Value} {own C : String} {index : Nat} (hown : s.vm.findClass own = some m.cls) (w : (Cond.classLink own index C).before a0 Z = true) (eT : T.heap = h) {mr : Addr} (M : own_Mi Z C mr)
    {g : JFrame} (hg : g.method = m) (hd : decode c.code g.pc = .ok (.ldc index, 2)) : ∃ T', Stand p l e R s m args below meth c T' locs cells slots /\ T'.heap = h /\ ∀ target, Steps p.tables e below (T'.setTop { g with pc := g.pc + 2, stack := .ref mr :: g.stack }) target -> Steps p.tables e below (T.setTop g) target := by
  obtain ⟨cc, kc, m1, m2, m3⟩ := M
  obtain ⟨k', q, ek⟩ := hZ.alike.2.2 _ _ m2
  have f : s.vm.findClass C = some cc := by rw [hZ.alike.findClass]; exact m1
  have m' : k'.mirror = some mr := by rw [ek]; exact m3
  obtain ⟨vm', X', st⟩ := X.ldcMirror (a := mr) hx hown (mv hZ w) (by simp [Term.eval, f, q, m']) hg hd
  exact ⟨_, X', eT, st⟩
theorem own_gcl (X : Stand p l e R s m args below meth c T locs cells slots) (hx : p.tables.exec = Jvm.exec) (hZ : Z.Warmed39 s.vm) {a0 : Array Value} {own C : String} {index : Nat} (hown : s.vm.findClass own = some m.cls)
    (w1 : (Cond.methodLink own index ⟨"java/lang/Object", "getClass", "()Ljava/lang/Class;"⟩).before a0 Z = true) (w2 : (Cond.declares ⟨"java/lang/Object", "getClass", "()Ljava/lang/Class;"⟩).before a0 Z = true) (w4 : (Cond.selects C ⟨"java/lang/Object", "getClass", "()Ljava/lang/Class;"⟩ ⟨"java/lang/Object", "getClass", "()Ljava/lang/Class;"⟩).before a0 Z = true)
    (w5 : (Cond.instanceMethod ⟨"java/lang/Object", "getClass", "()Ljava/lang/Class;"⟩).before a0 Z = true) (w6 : (Cond.native ⟨"java/lang/Object", "getClass", "()Ljava/lang/Class;"⟩).before a0 Z = true) (eT : T.heap = h) (E : Exa Z h a C) {mr : Addr} (M : own_Mi Z C mr)
    {g : JFrame} (hg : g.method = m) (hsize : g.locals.size = c.maxLocals) {rest : List Value} (hs : g.stack = .ref a :: rest) (hd : decode c.code g.pc = .ok (.invokevirtual index, 3)) (hf : 1 <= R.frames) {W : Nat} (hW : 2 * g.monitorRoom + (rest.map fun v => v.category).sum <= W) (hl : W + (nativeFrameWords "java/lang/Object" "getClass" 1 + 11) <= R.locals) :
    ∃ T', Stand p l e R s m args below meth c T' locs cells slots /\ T'.heap = h /\ ∀ target, Steps p.tables e below (T'.setTop { g with pc := g.pc + 3, stack := .ref mr :: rest }) target -> Steps p.tables e below (T.setTop g) target := by
  obtain ⟨cB, kB, i1, i2, i3⟩ := isOf hZ eT E
  obtain ⟨cc, kc, m1, m2, m3⟩ := M
  rw [hZ.alike.findClass] at i1
  cases i1.symm.trans m1
  obtain ⟨k', q, ek⟩ := hZ.alike.2.2 _ _ m2
  obtain ⟨vm', X', st⟩ := X.getClassOf hx hown (mvT hZ w1) (mvT hZ w2) (notFace_of_selects (args := #[]) (mvT hZ w4)) (mvT hZ w4) (mvT hZ w5) (mvT hZ w6) (by rw [hZ.alike.findClass]; exact m1) i3 q (by rw [ek]; exact m3) hg hsize hs hd hf (by omega)
  exact ⟨_, X', eT, st⟩
theorem own_gclI (X : Stand p l e R s m args below meth c T locs cells slots) (hx : p.tables.exec = Jvm.exec) (hZ : Z.Warmed39 s.vm) {a0 : Array Value} {own C I : String} {index count : Nat} (hown : s.vm.findClass own = some m.cls)
    (w1 : (Cond.methodLink own index ⟨I, "getClass", "()Ljava/lang/Class;"⟩).before a0 Z = true) (w2 : (Cond.declares ⟨"java/lang/Object", "getClass", "()Ljava/lang/Class;"⟩).before a0 Z = true) (w3 : (Cond.interfaceMethod I "java/lang/Object" "getClass" "()Ljava/lang/Class;").before a0 Z = true)
    (w4 : (Cond.selects C ⟨I, "getClass", "()Ljava/lang/Class;"⟩ ⟨"java/lang/Object", "getClass", "()Ljava/lang/Class;"⟩).before a0 Z = true) (w5 : (Cond.instanceMethod ⟨"java/lang/Object", "getClass", "()Ljava/lang/Class;"⟩).before a0 Z = true) (w6 : (Cond.publicMethod ⟨"java/lang/Object", "getClass", "()Ljava/lang/Class;"⟩).before a0 Z = true)
    (w7 : (Cond.unhidden C "getClass" "()Ljava/lang/Class;").before a0 Z = true) (w8 : (Cond.castable C I).before a0 Z = true) (w9 : (Cond.native ⟨"java/lang/Object", "getClass", "()Ljava/lang/Class;"⟩).before a0 Z = true) (hI : I ≠ "java/lang/invoke/MethodHandle" /\ I ≠ "java/lang/invoke/VarHandle") (hO : I ≠ "java/lang/Object") (eT : T.heap = h) (E : Exa Z h a C) {mr : Addr} (M : own_Mi Z C mr)
    {g : JFrame} (hg : g.method = m) (hsize : g.locals.size = c.maxLocals) {rest : List Value} (hs : g.stack = .ref a :: rest) (hd : decode c.code g.pc = .ok (.invokeinterface index count, 5)) (hf : 1 <= R.frames) {W : Nat} (hW : 2 * g.monitorRoom + (rest.map fun v => v.category).sum <= W) (hl : W + (nativeFrameWords "java/lang/Object" "getClass" 1 + 11) <= R.locals) :
    ∃ T', Stand p l e R s m args below meth c T' locs cells slots /\ T'.heap = h /\ ∀ target, Steps p.tables e below (T'.setTop { g with pc := g.pc + 5, stack := .ref mr :: rest }) target -> Steps p.tables e below (T.setTop g) target := by
  obtain ⟨cB, kB, i1, i2, i3⟩ := isOf hZ eT E
  obtain ⟨cc, kc, m1, m2, m3⟩ := M
  have j1 := i1
  rw [hZ.alike.findClass] at j1
  cases j1.symm.trans m1
  obtain ⟨k', q, ek⟩ := hZ.alike.2.2 _ _ m2
  cases i2.symm.trans q
  obtain ⟨vm', X', st⟩ := X.getClassOfI hx (xi := ⟨I, "getClass", "()Ljava/lang/Class;"⟩) hown (mvT hZ w1) (mvT hZ w2) (own_mvF hZ w3) (mvT hZ w4) (mvT hZ w5) (mvT hZ w6) (mvT hZ w7) (mvT hZ w8) (mvT hZ w9) hI hO rfl rfl i1 i2 i3 (by rw [ek]; exact m3) hg hsize hs hd hf (by omega)
  exact ⟨_, X', eT, st⟩
theorem own_arK {h' : Heap} {ws : List Addr} {cl : Cell} (A : Arr Z h a cl ty) (K : Keep h h' ws) (q : a ∉ ws) : Arr Z h' a cl ty := ⟨K.2.1 _ _ A.1 q, A.2⟩
theorem own_AhAv (F : Arh Z h a k ty z hs vs dv) : Arv Z h a k ty z ((List.range z.toNatClampNeg).map (getH hs vs dv)) dv := by
  obtain ⟨c, A, q1, S, q3, H, G⟩ := F
  have e : ∀ i, i < c.slots.size -> ((List.range z.toNatClampNeg).map (getH hs vs dv)).getD i dv = getH hs vs dv i := fun i hi => by
    rw [S] at hi
    simp [List.getD_eq_getElem?_getD, hi]
  exact ⟨c, A, q1, S, q3, fun i hi => by rw [e i hi]; exact H i hi, fun i hi => by rw [e i hi]; exact G i hi⟩
def own_Els (Z : State) (h : Heap) (hs : List (Int32 × Value)) : Prop := ∀ x ∈ hs, ∃ y : Addr, x.2 = .ref y /\ Exa Z h y "convoke/model/Message"
theorem own_Els.nil : own_Els Z h [] := fun _ q => nomatch q
theorem own_Els.cons {y : Addr} {j : Int32} (E : Exa Z h y "convoke/model/Message") (F : own_Els Z h hs) : own_Els Z h ((j, .ref y) :: hs) := fun x q => (List.mem_cons.mp q).elim (fun r => ⟨y, by rw [r], E⟩) (F x)
theorem own_Els.ext {h' : Heap} (F : own_Els Z h hs) (E : Ext h h') : own_Els Z h' hs := fun x q => by obtain ⟨y, r1, r2⟩ := F x q; exact ⟨y, r1, Exa.ext E r2⟩
theorem own_Els.keep {h' : Heap} {ws : List Addr} (F : own_Els Z h hs) (K : Keep h h' ws) : own_Els Z h' hs := fun x q => by obtain ⟨y, r1, r2⟩ := F x q; exact ⟨y, r1, r2.keep K⟩
theorem own_Els.wr {h' : Heap} {sl : Nat} {v : Value} (F : own_Els Z h hs) (W : Wr h h' a sl v) : own_Els Z h' hs := F.keep (Keep.of_wr W)
theorem own_Els.get : ∀ (hs : List (Int32 × Value)), own_Els Z h hs -> ∀ i : Nat, getH hs [] .null i = .null ∨ ∃ y : Addr, getH hs [] .null i = .ref y /\ Exa Z h y "convoke/model/Message"
  | [], _, _ => Or.inl (by simp [getH])
  | (j, v) :: r, F, i => by
    show (if j.toInt = (i : Int) then v else getH r [] .null i) = _ ∨ _
    by_cases c : j.toInt = (i : Int)
    · rw [if_pos c]
      obtain ⟨y, e1, e2⟩ := F (j, v) (List.mem_cons_self ..)
      exact Or.inr ⟨y, by show (if j.toInt = (i : Int) then v else _) = _; rw [if_pos c]; exact e1, e2⟩
    · rw [if_neg c]
      have e : getH ((j, v) :: r) [] .null i = getH r [] .null i := by show (if j.toInt = (i : Int) then v else _) = _; rw [if_neg c]
      rw [e]
      exact own_Els.get r (fun x q => F x (List.mem_cons_of_mem _ q)) i
theorem own_StoL : ∀ (us : List Value), (∀ v ∈ us, Sto Z h b v) -> StoL Z h b us
  | [], _ => trivial
  | v :: r, H => ⟨H v (List.mem_cons_self ..), own_StoL r fun x q => H x (List.mem_cons_of_mem _ q)⟩
theorem own_cpE (X : Stand p l e R s m args below meth c T locs cells slots) (hx : p.tables.exec = Jvm.exec) (hZ : Z.Warmed39 s.vm) {a0 : Array Value} {own : String} {index : Nat} (hown : s.vm.findClass own = some m.cls)
    (w1 : (Cond.methodLink own index Jvm.Stand.acN).before a0 Z = true) (w2 : (Cond.native Jvm.Stand.acN).before a0 Z = true) (w3 : (Cond.static Jvm.Stand.acN).before a0 Z = true) (w4 : (Cond.initialized "java/lang/System").before a0 Z = true) (eT : T.heap = h)
    (A : Arh Z h a k (.object "java/lang/Object") z hs [] .null) (El : own_Els Z h hs) (wc : (Cond.castable "convoke/model/Message" "java/lang/Object").before a0 Z = true) (B : Arv Z h b k' (.object "java/lang/Object") z [] .null) (O : Ovr Z k' "java/lang/Object") {n0 : Nat} (N : Fr n0 locs) (ge : n0 <= b)
    {g : JFrame} (hg : g.method = m) (hsize : g.locals.size = c.maxLocals) {rest : List Value} (hst : g.stack = .int z :: .int (0 : Int32) :: .ref b :: .int (0 : Int32) :: .ref a :: rest) (hd : decode c.code g.pc = .ok (.invokestatic index, 3))
    (hf : 1 <= R.frames) {W : Nat} (hW : 2 * g.monitorRoom + (rest.map fun v => v.category).sum <= W) (hlo : W + (nativeFrameWords "java/lang/System" "arraycopy" 5 + 11) <= R.locals) :
    ∃ T' h' L, Stand p l e R s m args below meth c T' L cells slots /\ T'.heap = h' /\ Fr n0 L /\ Keep h h' [b] /\ (∃ us, Arv Z h' b k' (.object "java/lang/Object") z us .null) /\
      ∀ target, Steps p.tables e below (T'.setTop { g with pc := g.pc + 3, stack := rest }) target -> Steps p.tables e below (T.setTop g) target := by
  have nz : ¬ z < 0 := by obtain ⟨_, _, _, _, q, _⟩ := A; exact q
  have z0 : (0 : Int32).toNatClampNeg = 0 := rfl
  have S : ∀ v ∈ (List.range z.toNatClampNeg).map (fun i => ((List.range z.toNatClampNeg).map (getH hs [] .null)).getD ((0 : Int32).toNatClampNeg + i) .null), Sto Z h b v := fun v hv => by
    obtain ⟨i, hi, rfl⟩ := List.mem_map.mp hv
    have hi' := List.mem_range.mp hi
    have e : ((List.range z.toNatClampNeg).map (getH hs [] .null)).getD ((0 : Int32).toNatClampNeg + i) .null = getH hs [] .null i := by
      rw [z0, Nat.zero_add]; simp [List.getD_eq_getElem?_getD, hi']
    rw [e]
    obtain ⟨cd, Ad, qd, -⟩ := B
    rcases own_Els.get hs El i with r | ⟨y, r, E⟩
    · rw [r]; exact Or.inl rfl
    · rw [r]; exact Sto.ofV Ad qd O (Ins.of_exa E wc)
  obtain ⟨T', h', L, X', e', N', K, V, st⟩ := cpA X hx hZ hown w1 w2 w3 w4 eT (own_AhAv A) (B.pad (pad_rep [] .null z.toNatClampNeg)) (us := _) (Or.inr ⟨rfl, rfl, own_StoL _ S⟩) (by decide) (by decide) nz (by rw [z0]; omega) (by rw [z0]; omega) rfl (by rw [z0]; simp) N ge hg hsize hst hd hf hW hlo
  exact ⟨T', h', L, X', e', N', K, ⟨_, V⟩, st⟩
theorem own_litB {EL : List (String × Nat)} {a0 : Array Value} {vm : Vm} {own text : String} {index : Nat} {cc : ClassId} (hW : Z.Warmed39 vm) (hf : vm.findClass own = some cc) (w : (Cond.stringLink own index text).before a0 Z = true) (hC : CHv Z EL vm h) (hmem : (own, index) ∈ EL) (hL : Lit (s.setVm vm) own index a)
    (PV : Fld Z h a "java/lang/String" "value" "[B" (.ref b)) : Exa Z h b "[B" := by
  have hal : Z.vm.Alike vm := hW.alike
  have w2 : (Cond.stringLink own index text).before a0 (Wst Z vm h) = true := mvS (s := { Z with heap := h }) hW w
  obtain ⟨k0', cf, i, units, hkx, hcf, hp, hu, -, htext, -⟩ := Cond.stringLink_spec (s := Wst Z vm h) hf w2
  have hres : k0'.resolved[index]? = some (some (.string a)) := by
    have q : (s.setVm vm).resolvedAt? own index = some (.string a) := hL
    have hk' : vm.classes[cc]? = some k0' := hkx
    simp [State.resolvedAt?, hf, hk'] at q
    cases hr : k0'.resolved[index]? with
    | none => rw [hr] at q; cases q
    | some o => rw [hr] at q; cases o with
      | none => cases q
      | some r => simpa using q
  have hB0 : Booksv vm own index units a := ⟨cc, k0', cf, i, hf, hkx, hcf, hp, hu, Or.inl hres⟩
  obtain ⟨q, hqa, F⟩ := SlB.of (hC _ hmem units a hB0)
  obtain ⟨cS, ⟨⟨s1, s2, s3, ⟨cv, kv, iv, s4, s4'⟩, -, s6, s7, s8, s9, s10, s11, s12, -⟩, hfS, hcS⟩, -, hB, -⟩ := F
  subst hqa
  obtain ⟨c1, cf1, k1, i1, f1, g1, g2, g3, g4, g5, g6, g7⟩ := PV
  obtain ⟨kv', z4⟩ := ff_back (U := Wst Z vm h) hal s4
  cases (show h[q.sa]? = some q.sC from s1).symm.trans g1
  cases z4.symm.trans g2
  cases (Option.some.inj (s8.symm.trans g7) : Value.ref q.sd = .ref b)
  have hB : vm.findClass "[B" = some q.SA.cls := hB
  have hBZ : Z.vm.findClass "[B" = some q.SA.cls := by rw [← hal.findClass]; exact hB
  obtain ⟨kb, hkb, -⟩ := Vm.findClass_spec hBZ
  obtain ⟨kb', hkb', ekb⟩ := hal.2.2 _ _ hkb
  obtain ⟨hst, k9, hk9, comp, hkind9⟩ := s11
  have hk9 : vm.classes[q.SA.cls]? = some k9 := hk9
  have ek9 : k9 = kb' := Option.some.inj (hk9.symm.trans hkb')
  refine ⟨q.SA, kb, s10, hBZ, hkb, ?_, fun ho => ?_⟩
  · cases hv : q.SA.vm with
    | statics x => exact absurd hv (hst x)
    | _ => rfl
  · rw [ek9, ekb] at hkind9
    have : kb.kind = .array comp .byte := hkind9
    rw [this] at ho; cases ho
end OwnMir

section OwnCalls3
variable {p : Program} {l : Launch} {e : Env} {R : Room} {s : State} {m : MethodId} {args : Array Value} {below : List Frame} {meth : Method} {c : Code} {T : State} {locs : List Loc} {cells slots : Nat} {Z : State} {a0 : Array Value} {h h0 : Heap} {Q : Outcome -> State -> Prop} {b : ByteArray} {pc nx t ml : Nat} {Ls : Array Slot} {S : List Value} {own nme : String} {rt : Option FieldType} {L : own_T} {C I : String} {index : Nat} {y z : MethodName} {bz : ByteArray} {mz : Nat} {rz : Option FieldType} {rm : Room} {QQ : Option Value -> Heap -> Prop} {as : Array Value} {rest : List Value} {o : Addr} {n0 : Nat}
theorem oGc (X : Stand p l e R s m args below meth c T locs cells slots) (K : own_K p c L Z s own m meth ml rt nme) {ct : Nat} (D : own_get L pc = some (.invokeinterface index ct, 5, nx, t)) (w1 : (Cond.methodLink own index y).before a0 Z = true) (w2 : (Cond.declares ⟨I, y.name, y.desc⟩).before a0 Z = true) (w5 : (Cond.interfaceMethod y.cls I y.name y.desc).before a0 Z = true) (w3 : (Cond.selects C y z).before a0 Z = true) (w4 : (Cond.instanceMethod z).before a0 Z = true) (w6 : (Cond.publicMethod z).before a0 Z = true) (w7 : (Cond.unhidden C y.name y.desc).before a0 Z = true) (w8 : (Cond.castable C y.cls).before a0 Z = true) (wc : (Cond.code z bz mz rz).before a0 Z = true) (wi : (Cond.initialized z.cls).before a0 Z = true) (hy : y.cls ≠ "java/lang/invoke/MethodHandle" /\ y.cls ≠ "java/lang/invoke/VarHandle") (hn0 : y.name ≠ "clone") (hn1 : y.cls ≠ I) (eT : T.heap = h) (E : Exa Z h o C) (M : own_M l z bz mz rz rm [] Z h n0 as QQ) (hst : S = (as.toList.drop 1).reverse ++ .ref o :: rest) (has : as = (.ref o :: as.toList.drop 1).toArray) (hln : ∀ sig, parseMethodDescriptor y.desc = some sig -> (as.toList.drop 1).length = sig.parameters.length) (hsz : Ls.size = ml) (N : Fr n0 locs) (W : Nat) (hW : (rest.map fun v => v.category).sum = W) (hr : (rm.frames + 1 <= R.frames /\ W + (mz + 11) + rm.locals <= R.locals) /\ cells + rm.cells <= R.cells /\ slots + rm.slots <= R.slots)
    (G : ∀ v T' h' L', Fr n0 L' -> QQ v h' -> T'.heap = h' -> Stand p l e R s m args below meth c T' L' (cells + rm.cells) (slots + rm.slots) -> own_G p.tables e below Q (T'.setTop (mkF m nx Ls (v.toList ++ rest)))) : own_G p.tables e below Q (T.setTop (mkF m pc Ls S)) := by
  cases K.n D
  subst hst
  obtain ⟨cB, kB, i1, i2, i3⟩ := isOf K.wz eT E
  exact own_cb N (own_ifBackUp X K.1 (J := I) (xi := y) (y := z) K.ow (mvT K.wz w1) (mvT K.wz w2) hn0 (own_mvF K.wz w5) hn1 (mvT K.wz w3) (mvT K.wz w4) (mvT K.wz w6) (mvT K.wz w7) (mvT K.wz w8) hy (backOf (W := W) (Q := fun v h L => QQ v h /\ Fr n0 L) M K.wz wc wi hr.1.1 hr.1.2) i1 i2 i3 (g := mkF m pc Ls ((as.toList.drop 1).reverse ++ .ref o :: rest)) rfl (hsz.trans K.lm.symm) (Steps.refl _) (argsL := (as.toList.drop 1)) hln rfl (by show 2 * 0 + _ <= _; omega) (K.d D) (fun _ _ => ⟨has.symm, eT, hr.2.1, hr.2.2⟩)) G
end OwnCalls3

section OwnOf
variable {k j m : Nat} {n : Int32}
theorem own_oft (h : j <= 9) : (Int32.ofNat j).toInt = j := Int32.toInt_ofNat_of_lt (by omega)
theorem own_ofS (j : Nat) : Int32.ofNat j + (1 : Int32) = Int32.ofNat (j + 1) := by rw [Int32.ofNat_add]; rfl
theorem own_ofj (h : k + 1 + j = n.toNatClampNeg) : j < n.toNatClampNeg := by omega
theorem own_ofv (h8 : 1 <= n.toInt /\ n.toInt <= 8) : n.toInt = n.toNatClampNeg /\ n.toNatClampNeg <= 8 := ⟨nat_of (own_nn8 h8).1, (own_nn8 h8).2⟩
theorem own_oflt (h : k + 1 + j = n.toNatClampNeg) (h8 : 1 <= n.toInt /\ n.toInt <= 8) : Int32.ofNat j < n := by
  have e := own_ofv h8
  rw [Int32.lt_iff_toInt_lt, own_oft (by omega)]; omega
theorem own_ofge (h : 0 + j = n.toNatClampNeg) (h8 : 1 <= n.toInt /\ n.toInt <= 8) : ¬ Int32.ofNat j < n := by
  have e := own_ofv h8
  rw [Int32.lt_iff_toInt_lt, own_oft (by omega)]; omega
theorem own_of0 (h : k + 1 + j = n.toNatClampNeg) (h8 : 1 <= n.toInt /\ n.toInt <= 8) : ¬ Int32.ofNat j < 0 := by
  have e := own_ofv h8
  rw [Int32.lt_iff_toInt_lt, own_oft (by omega), show (0 : Int32).toInt = 0 from by decide]; omega
theorem own_ofn (h : k + 1 + j = n.toNatClampNeg) (h8 : 1 <= n.toInt /\ n.toInt <= 8) : (Int32.ofNat j).toNatClampNeg = j := by
  have e := own_ofv h8
  have e1 := nat_of (own_of0 h h8)
  have e2 := own_oft (j := j) (by omega)
  omega
theorem own_ofin (h : k + 1 + j = n.toNatClampNeg) (h8 : 1 <= n.toInt /\ n.toInt <= 8) (S : m = n.toNatClampNeg) : ¬ (Int32.ofNat j < 0 ∨ m <= (Int32.ofNat j).toNatClampNeg) := by
  rintro (c | c)
  · exact own_of0 h h8 c
  · rw [own_ofn h h8] at c; omega
theorem own_ofN (h : 0 + j = n.toNatClampNeg) (h8 : 1 <= n.toInt /\ n.toInt <= 8) : Int32.ofNat j = n := by
  have e := own_ofv h8
  exact Int32.toInt_inj.mp (by rw [own_oft (by omega)]; omega)
theorem own_of1 (h : k + 1 + j = n.toNatClampNeg) (h8 : 1 <= n.toInt /\ n.toInt <= 8) : ¬ Int32.ofNat (j + 1) < (1 : Int32) := by
  have e := own_ofv h8
  rw [Int32.lt_iff_toInt_lt, own_oft (by omega), show (1 : Int32).toInt = 1 from by decide]; omega
theorem own_ofle (h : k + 1 + j = n.toNatClampNeg) (h8 : 1 <= n.toInt /\ n.toInt <= 8) : ¬ n < Int32.ofNat (j + 1) := by
  have e := own_ofv h8
  rw [Int32.lt_iff_toInt_lt, own_oft (by omega)]; omega
theorem own_ofgt (h : 0 + j = n.toNatClampNeg) (h8 : 1 <= n.toInt /\ n.toInt <= 8) : n < Int32.ofNat (j + 1) := by
  have e := own_ofv h8
  rw [Int32.lt_iff_toInt_lt, own_oft (by omega)]; omega
theorem own_ofm (j : Nat) : Int32.ofNat (j + 1) - (1 : Int32) = Int32.ofNat j := by rw [← own_ofS]; exact Int32.add_sub_cancel _ _
end OwnOf

def own_mul5_Q (Z : State) (p1 : Int32) (p2 : Int32) (p3 : Int32) (v1 : Addr) (q : own_P0) (h0 : Heap) (n0 : Nat) (v : Option Value) (h : Heap) : Prop := ∃ ar : Addr, ∃ ed : Addr, ∃ ke : ClassId, ∃ hh : List (Int32 × Value), (v = some (.ref ar) /\ Keep h0 h [] /\ (Exa Z h ar "java/util/ArrayList") /\ (f43 Z h ar (.ref ed)) /\ (f44 Z h ar (.int p1)) /\ (Arh Z h ed ke (.object "java/lang/Object") p1 hh [] .null) /\ (Ovr Z ke "java/lang/Object") /\ (h0.size <= ar) /\ (h0.size <= ed) /\ (Exa Z h ed "[Ljava/lang/Object;") /\ (own_Els Z h hh))
theorem own_mul5 (hw : own_HW a0 Z) {p1 p2 p3 : Int32} {v1 : Addr} {q : own_P0} (Z0 : n0 <= h0.size) (hn8 : 1 <= p1.toInt /\ p1.toInt <= 8) (hsf : ¬ (p2 < (1 : Int32))) (hix : ¬ (p3 < (1 : Int32))) (hq : own_Env Z q) (hOld : Old Z n0 h0) : own_MW own_EL l ⟨"convoke/protocol/Seat", "multicast", "(IIILconvoke/model/Message$Kind;Lconvoke/model/Value;)Ljava/util/List;"⟩ prog_80_method_5_code 7 (some (.object "java/util/List")) ⟨4, 42, 403, 50⟩ ws Z h0 n0 #[(.int p1), (.int p2), (.int p3), (.ref q.fKR), (.ref v1)] (own_mul5_Q Z p1 p2 p3 v1 q h0 n0) := by
  refine own_begW (plainFor_of_name own_pn6) own_t57 #[.val (.int p1), .val (.int p2), .val (.int p3), .val (.ref q.fKR), .val (.ref v1), .unset, .unset] (own_e5_7 · ⟨rfl, rfl, rfl, rfl, rfl⟩) fun p e s m below meth c sa K X0 e0 hh hS0 R0 => ?_
  have N0 := Fr.nil n0
  have H := oh hw
  have hEL := own_ew hw
  refine oNew X0 K rfl (H 423) (H 424) (H 425) e0 (Nat.le_refl _) (by decide) fun T1 h1 b1 g1 Y0 X1 e1 E1 A1 D1 => ?_
  have R2 := own_re R0 E1
  refine oDup X1 K rfl rfl <| oI X1 K rfl rfl ?_
  refine oNc X1 K rfl (H 426) (H 427) (H 428) (H 425) (by decide) rfl e1 (own_i_ALn hw (Nat.le_trans Z0 E1.1) A1 (D1 (Or.inl (H 443)) (ty := .int) (by decide)) (D1 (Or.inl (H 447)) (ty := (.array (.object "java/lang/Object"))) (by decide)) (D1 (Or.inl (H 462)) (ty := .int) (by decide)) (Nat.le_trans Z0 Y0) hn8) rfl rfl (lenOf own_pd1 rfl) rfl N0 1 rfl (by decide) fun v6 T6 h6 L6 N6 q6 e6 X6 => ?_
  obtain ⟨ed3, ke4, rfl, K6, Y1, Y2, Y3, Y4, Y5, Y6, Y7, Y8⟩ := q6
  have R7 := own_rk R2 K6 (sfS (oSx K.wz A1 (by decide)) sf0)
  have Y9 := Nat.le_trans E1.1 Y7
  refine oSA (L' := #[.val (.int p1), .val (.int p2), .val (.int p3), .val (.ref q.fKR), .val (.ref v1), .val (.ref b1), .unset]) X6 K rfl rfl rfl <| oC (z := 1) X6 K rfl rfl <| oSI (L' := #[.val (.int p1), .val (.int p2), .val (.int p3), .val (.ref q.fKR), .val (.ref v1), .val (.ref b1), .val (.int 1)]) X6 K rfl rfl ?_
  have hN8 := (own_nn8 hn8).2
  have J : ∀ (k j : Nat) (hkj : k + j = p1.toNatClampNeg) (mcj : Int32) (hsj : List (Int32 × Value)) (Lj : List Loc) (Tj : State) (hj : Heap) (vj : Vm) (nj : Nat) (K : own_K p c own_L57 Z (s.setVm vj) "convoke/protocol/Seat" m meth 7 (some (.object "java/util/List")) "multicast") (hSj : s.Since vj nj) (hkn : nj <= hj.size) (RRj : CHr Z own_EL s.vm h0 vj hj) (Xj : Stand p l e (⟨4, 42, 403, 50⟩ : Room) (s.setVm vj) m #[(.int p1), (.int p2), (.int p3), (.ref q.fKR), (.ref v1)] below meth c Tj Lj (2 + 5 * j) (11 + 49 * j)) (Nj : Fr n0 Lj) (ej : Tj.heap = hj) (Kj : Keep h0 hj []) (Fj0 : Exa Z hj b1 "java/util/ArrayList") (Fj1 : f42 Z hj b1 (.int mcj)) (Fj2 : f43 Z hj b1 (.ref ed3)) (Fj3 : f44 Z hj b1 (.int (Int32.ofNat j))) (Fj4 : Arh Z hj ed3 ke4 (.object "java/lang/Object") p1 hsj [] .null) (Fj5 : own_Els Z hj hsj) (Fj6 : Exa Z hj ed3 "[Ljava/lang/Object;"), own_G p.tables e below (own_PV Z own_EL s (own_mul5_Q Z p1 p2 p3 v1 q h0 n0) n0 (⟨4, 42, 403, 50⟩ : Room).cells (⟨4, 42, 403, 50⟩ : Room).slots) (Tj.setTop (mkF m 13 #[.val (.int p1), .val (.int p2), .val (.int p3), .val (.ref q.fKR), .val (.ref v1), .val (.ref b1), .val (.int (Int32.ofNat (j + 1)))] [])) := by
    intro k
    induction k with
    | zero =>
      intro j hkj mcj hsj Lj Tj hj vj nj K hSj hkn RRj Xj Nj ej Kj Fj0 Fj1 Fj2 Fj3 Fj4 Fj5 Fj6
      refine oJ Xj K rfl rfl <| oI Xj K rfl rfl <| oCY Xj K rfl (XT.ii_gt_t (own_ofgt hkj hn8)) <| oB Xj K rfl rfl rfl ?_
      exact oRaw Xj K rfl rfl rfl ej Nj (by refine ⟨?_, ?_⟩ <;> first | decide | (dsimp only; omega) | omega) hh hEL hSj hkn RRj ⟨b1, ed3, ke4, hsj, rfl, ((Keep.refl _ _).trans Kj all0), Fj0, Fj2, (by rw [← own_ofN hkj hn8]; exact Fj3), Fj4, Y6, Y0, Y9, Fj6, Fj5⟩
    | succ k ih =>
      intro j hkj mcj hsj Lj Tj hj vj nj K hSj hkn RRj Xj Nj ej Kj Fj0 Fj1 Fj2 Fj3 Fj4 Fj5 Fj6
      refine oJ Xj K rfl rfl <| oI Xj K rfl rfl <| oCN Xj K rfl (XT.ii_gt_f (own_ofle hkj hn8)) <| oB Xj K rfl rfl rfl ?_
      refine oNew Xj K rfl (H 448) (H 256) (H 257) ej Kj.1 (by refine ⟨?_, ?_⟩ <;> first | decide | (dsimp only; omega) | omega) fun T8 h8 b8 g8 Y10 X8 e8 E8 A8 D8 => ?_
      have R9 := own_re RRj E8
      refine oDup X8 K rfl rfl <| oI X8 K rfl rfl <| oJ X8 K rfl rfl <| oI X8 K rfl rfl <| oA X8 K rfl rfl rfl <| oB X8 K rfl rfl rfl ?_
      refine oNw X8 K hSj (Nat.le_trans hkn E8.1) hEL R9 rfl (H 449) (H 261) (H 262) (H 257) (by decide) rfl e8 (own_i_ME hw (Nat.le_trans Z0 (Nat.le_trans Kj.1 E8.1)) A8 (D8 (Or.inr (H 279)) (ty := .int) (by decide)) (D8 (Or.inr (H 281)) (ty := .int) (by decide)) (D8 (Or.inr (H 283)) (ty := .int) (by decide)) (D8 (Or.inr (H 285)) (ty := (.object "convoke/model/Message$Kind")) (by decide)) (D8 (Or.inr (H 287)) (ty := (.object "convoke/model/Value")) (by decide)) (Nat.le_trans Z0 Y10) hsf (own_of1 hkj hn8) hix hq (Old.ext (Old.keep hOld Kj all0) E8)) rfl rfl (lenOf own_pd29 rfl) rfl Nj 2 rfl (by refine ⟨?_, ?_⟩ <;> first | decide | (dsimp only; omega) | omega) fun v11 T11 h11 L11 N11 q11 e11 X11 hS11 K R11 => ?_
      obtain ⟨rfl, K11, Y11, Y12, Y13, Y14, Y15, Y16⟩ := q11
      have z13 := (Nat.le_trans (Nat.le_trans Kj.1 E8.1) K11.1)
      refine oFc X11 K rfl (H 450) (H 451) (mvT K.wz (H 452)) (H 453) (H 454) (H 455) (H 456) (H 457) (H 458) (H 425) (by decide) e11 ((Exa.ext E8 Fj0).keep K11) (own_aadd hw (Nat.le_trans Z0 z13) ((Exa.ext E8 Fj0).keep K11) ((Fld.ext E8 Fj1).keep K11 (ninS (oNe (Exa.lt Fj0) (Nat.le_of_eq g8.symm)) nin0)) ((Fld.ext E8 Fj2).keep K11 (ninS (oNe (Exa.lt Fj0) (Nat.le_of_eq g8.symm)) nin0)) ((Fld.ext E8 Fj3).keep K11 (ninS (oNe (Exa.lt Fj0) (Nat.le_of_eq g8.symm)) nin0)) ((Fj4.ext E8).keep K11 (ninS (oNe (Fj4).lt (Nat.le_of_eq g8.symm)) nin0)) Y6 Y11 (Nat.le_trans Z0 Y0) (Nat.le_trans Z0 Y9) (own_of0 hkj hn8) (own_oflt hkj hn8)) rfl rfl (lenOf own_pd30 rfl) rfl N11 0 rfl (by refine ⟨?_, ?_⟩ <;> first | decide | (dsimp only; omega) | omega) fun v14 T14 h14 L14 N14 q14 e14 X14 => ?_
      obtain ⟨rfl, K14, Y17, Y18, Y19, Y20, Y21, Y22⟩ := q14
      have R15 := own_rk R11 K14 (sfS (oSx K.wz ((Exa.ext E8 Fj0).keep K11) (by decide)) (sfS (oSx K.wz ((Exa.ext E8 Fj6).keep K11) (by decide)) sf0))
      refine oPop X14 K rfl rfl <| oInc (z := ((Int32.ofNat (j + 1)) + (1 : Int32))) (L' := #[.val (.int p1), .val (.int p2), .val (.int p3), .val (.ref q.fKR), .val (.ref v1), .val (.ref b1), .val (.int ((Int32.ofNat (j + 1)) + (1 : Int32)))]) X14 K rfl rfl rfl rfl <| oGo X14 K rfl ?_
      show own_G _ _ _ _ (T14.setTop (mkF m 13 #[.val (.int p1), .val (.int p2), .val (.int p3), .val (.ref q.fKR), .val (.ref v1), .val (.ref b1), .val (.int ((Int32.ofNat (j + 1)) + (1 : Int32)))] []))
      rw [own_ofS]
      exact ih (j + 1) (by omega) _ _ _ _ _ _ _ K hS11 (Nat.le_trans (Nat.le_refl _) K14.1) R15 (X14.more (by (try dsimp only); omega) (by (try dsimp only); omega)) N14 e14 (((((Keep.refl _ _).trans Kj all0).ext E8).trans K11 (allS (Or.inr Y10) all0)).trans K14 (allS (Or.inr Y0) (allS (Or.inr Y9) all0))) Y17 Y18 Y19 (own_ofS j ▸ Y20) Y21 (own_Els.cons (Y11.keep K14) (own_Els.keep (own_Els.keep (own_Els.ext Fj5 E8) K11) K14)) (((Exa.ext E8 Fj6).keep K11).keep K14)
  exact J _ 0 (Nat.add_zero _) _ _ _ _ _ _ _ K hS0 (Nat.le_trans (Nat.le_trans (Nat.zero_le _) E1.1) K6.1) R7 X6 N6 e6 (((Keep.refl _ _).ext E1).trans K6 (allS (Or.inr Y0) all0)) Y1 Y2 Y3 Y4 Y5 own_Els.nil Y8
theorem own_mul2 (hw : own_HW a0 Z) {a1 v1 : Addr} {p1 p2 p3 : Int32} {q : own_P0} (Z0 : n0 <= h0.size) (Y0 : Exa Z h0 a1 "convoke/protocol/Seat") (Y1 : f10 Z h0 a1 (.int p1)) (Y2 : f11 Z h0 a1 (.int p2)) (Y3 : f12 Z h0 a1 (.int p3)) (hn8 : 1 <= p1.toInt /\ p1.toInt <= 8) (hsf : ¬ (p2 < (1 : Int32))) (hix : ¬ (p3 < (1 : Int32))) (hq : own_Env Z q) (hOld : Old Z n0 h0) : own_MW own_EL l ⟨"convoke/protocol/Seat", "multicast", "(Lconvoke/model/Message$Kind;Lconvoke/model/Value;)Ljava/util/List;"⟩ prog_80_method_4_code 3 (some (.object "java/util/List")) ⟨5, 42, 403, 68⟩ ws Z h0 n0 #[(.ref a1), (.ref q.fKR), (.ref v1)] (fun v h => ∃ ar : Addr, ∃ ed : Addr, ∃ ke : ClassId, ∃ hh : List (Int32 × Value), (v = some (.ref ar) /\ Keep h0 h [] /\ (Exa Z h ar "java/util/ArrayList") /\ (f43 Z h ar (.ref ed)) /\ (f44 Z h ar (.int p1)) /\ (Arh Z h ed ke (.object "java/lang/Object") p1 hh [] .null) /\ (Ovr Z ke "java/lang/Object") /\ (h0.size <= ar) /\ (h0.size <= ed) /\ (Exa Z h ed "[Ljava/lang/Object;") /\ (own_Els Z h hh))) := by
  refine own_begW (plainFor_of_name own_pn6) own_t56 #[.val (.ref a1), .val (.ref q.fKR), .val (.ref v1)] (own_e3_3 · ⟨rfl, rfl, rfl⟩) fun p e s m below meth c sa K X0 e0 hh hS0 R0 => ?_
  have N0 := Fr.nil n0
  have H := oh hw
  have hEL := own_ew hw
  refine oA X0 K rfl rfl rfl ?_
  refine oGf X0 K rfl (H 93) e0 Y1 fun T1 X1 e1 => ?_
  refine oA X1 K rfl rfl rfl ?_
  refine oGf X1 K rfl (H 95) e1 Y2 fun T2 X2 e2 => ?_
  refine oA X2 K rfl rfl rfl ?_
  refine oGf X2 K rfl (H 97) e2 Y3 fun T3 X3 e3 => ?_
  refine oA X3 K rfl rfl rfl <| oA X3 K rfl rfl rfl ?_
  refine oTw X3 K hS0 (Nat.zero_le _) hEL R0 rfl (H 420) (H 421) (H 422) (H 80) (by decide) e3 (own_mul5 hw Z0 hn8 hsf hix hq hOld) rfl (lenOf own_pd31 rfl) rfl N0 0 rfl (by decide) fun v9 T9 h9 L9 N9 q9 e9 X9 hS9 K R9 => ?_
  obtain ⟨ar4, ed5, ke6, hh7, rfl, K9, Y4, Y5, Y6, Y7, Y8, Y9, Y10, Y11, Y12⟩ := q9
  have Y13 := Y9
  have Y14 := Y10
  exact oRaw X9 K rfl rfl rfl e9 N9 (by decide) hh hEL hS9 (Nat.le_refl _) R9 ⟨ar4, ed5, ke6, hh7, rfl, ((Keep.refl _ _).trans K9 all0), Y4, Y5, Y6, Y7, Y8, Y13, Y14, Y11, Y12⟩
theorem own_seat (hw : own_HW a0 Z) {a1 sd : Addr} (Z0 : n0 <= h0.size) (Y0 : f13 Z h0 a1 (.ref sd)) : own_M l ⟨"convoke/protocol/BrachaFamily", "seat", "()Lconvoke/protocol/Seat;"⟩ prog_63_method_9_code 1 (some (.object "convoke/protocol/Seat")) ⟨0, 0, 0, 0⟩ ws Z h0 n0 #[(.ref a1)] (fun v h => (v = some (.ref sd) /\ h = h0)) := by
  refine own_beg (plainFor_of_name own_pn8) own_t55 #[.val (.ref a1)] (own_e1_1 · rfl) fun p e s m below meth c sa K X0 e0 => ?_
  have N0 := Fr.nil n0
  have H := oh hw
  refine oA X0 K rfl rfl rfl ?_
  refine oGf X0 K rfl (H 112) e0 Y0 fun T1 X1 e1 => ?_
  exact oRa X1 K rfl rfl rfl e1 N0 (by decide) ⟨rfl, rfl⟩
theorem own_onrA (hw : own_HW a0 Z) {a1 sd ec rd va ca co : Addr} {kva kca kco : ClassId} {nn vt sf ix p1 : Int32} {hs : List (Int32 × Value)} {v1 : Addr} {tt : Int32} {q : own_P0} (Z0 : n0 <= h0.size) (Y0 : Exa Z h0 a1 "convoke/protocol/Bracha") (Y1 : f13 Z h0 a1 (.ref sd)) (Y2 : f15 Z h0 a1 (.ref q.fKI)) (Y3 : f37 Z h0 a1 (.int 0)) (Y4 : f38 Z h0 a1 (.int 0)) (Y5 : f45 Z h0 a1 .null) (Y6 : f17 Z h0 a1 (.int 0)) (Y7 : f19 Z h0 a1 (.int (tt + (1 : Int32)))) (Y8 : f20 Z h0 a1 (.int (((2 : Int32) * tt) + (1 : Int32)))) (Y9 : f21 Z h0 a1 (.int (((2 : Int32) * tt) + (1 : Int32)))) (Y10 : f25 Z h0 a1 (.ref ec)) (Y11 : f26 Z h0 a1 (.ref rd)) (Y12 : f27 Z h0 a1 .null) (Y13 : f41 Z h0 a1 (.int 0)) (Y14 : n0 <= a1) (Y15 : Exa Z h0 sd "convoke/protocol/Seat") (Y16 : f10 Z h0 sd (.int nn)) (Y17 : f11 Z h0 sd (.int sf)) (Y18 : f12 Z h0 sd (.int ix)) (Y19 : Exa Z h0 rd "convoke/protocol/Votes") (Y20 : f22 Z h0 rd (.ref va)) (Y21 : f23 Z h0 rd (.ref ca)) (Y22 : f24 Z h0 rd (.ref co)) (Y23 : f40 Z h0 rd (.int 0)) (Y24 : f39 Z h0 rd (.int vt)) (Y25 : Arv Z h0 va kva (.object "convoke/model/Value") (1 : Int32) [.null] .null) (Y26 : Ovr Z kva "convoke/model/Value") (Y27 : Arv Z h0 ca kca .int 1 [(.int 0)] (.int 0)) (Y28 : Arh Z h0 co kco .boolean (nn + (1 : Int32)) hs [] (.int 0)) (Y29 : n0 <= rd) (Y30 : n0 <= va) (Y31 : n0 <= ca) (Y32 : n0 <= co) (hp1 : ¬ (p1 < (1 : Int32))) (hp2 : ¬ (nn < p1)) (hn8 : 1 <= nn.toInt /\ nn.toInt <= 8) (hsf : ¬ (sf < (1 : Int32))) (hix : ¬ (ix < (1 : Int32))) (Y33 : Exa Z h0 v1 "convoke/model/Value") (hg : getH hs [] (.int 0) p1.toNatClampNeg = .int 0) (hA1 : (1 : Int32) < (tt + (1 : Int32))) (hA2 : (1 : Int32) < (((2 : Int32) * tt) + (1 : Int32))) (hq : own_Env Z q) (hOld : Old Z n0 h0) : own_M l ⟨"convoke/protocol/Bracha", "onReady", "(ILconvoke/model/Value;)Ljava/util/List;"⟩ prog_62_method_9_code 4 (some (.object "java/util/List")) ⟨4, 0, 0, 50⟩ ws Z h0 n0 #[(.ref a1), (.int p1), (.ref v1)] (fun v h => (v = some (.ref q.fEL) /\ Keep h0 h [rd, co, va, ca] /\ (Exa Z h rd "convoke/protocol/Votes") /\ (f22 Z h rd (.ref va)) /\ (f23 Z h rd (.ref ca)) /\ (f24 Z h rd (.ref co)) /\ (f40 Z h rd (.int 1)) /\ (f39 Z h rd (.int (vt + (1 : Int32)))) /\ (Arv Z h va kva (.object "convoke/model/Value") (1 : Int32) [(.ref v1)] .null) /\ (Ovr Z kva "convoke/model/Value") /\ (Arv Z h ca kca .int 1 [(.int 1)] (.int 0)) /\ (Arh Z h co kco .boolean (nn + (1 : Int32)) ((p1, .int 1) :: hs) [] (.int 0)))) := by
  refine own_beg (plainFor_of_name own_pn5) own_t49 #[.val (.ref a1), .val (.int p1), .val (.ref v1), .unset] (own_e3_4 · ⟨rfl, rfl, rfl⟩) fun p e s m below meth c sa K X0 e0 => ?_
  have N0 := Fr.nil n0
  have H := oh hw
  refine oA X0 K rfl rfl rfl ?_
  refine oGf X0 K rfl (H 150) e0 Y11 fun T1 X1 e1 => ?_
  refine oI X1 K rfl rfl <| oA X1 K rfl rfl rfl ?_
  refine oVc X1 K rfl (H 377) (H 378) (notFace_of_selects (args := #[]) (mvT K.wz (H 380))) (H 380) (H 379) (H 381) (H 133) (by decide) e1 Y19 (own_add0 hw Z0 Y19 Y20 Y21 Y22 Y23 Y24 Y25 Y26 Y27 Y28 Y29 Y30 Y31 Y32 hp1 hp2 hn8 hg Y33) rfl rfl (lenOf own_pd32 rfl) rfl N0 0 rfl (by decide) fun v3 T3 h3 L3 N3 q3 e3 X3 => ?_
  obtain ⟨rfl, K3, Y34, Y35, Y36, Y37, Y38, Y39, Y40, Y41, Y42, Y43⟩ := q3
  refine oFY X3 K rfl (XT.i0_ne_t (by decide : ¬ ((1 : Int32) = (0 : Int32)))) <| oA X3 K rfl rfl rfl ?_
  refine oGf X3 K rfl (H 120) e3 (Y6.keep K3 (ninS (Exa.ne Y0 Y19 (by decide)) (ninS (own_neArh Y0 Y28 (H 70)) (ninS (Exa.neArv Y0 Y25 (H 70)) (ninS (Exa.neArv Y0 Y27 (H 70)) nin0))))) fun T4 X4 e4 => ?_
  refine oFY X4 K rfl (XT.i0_eq_t (by decide : (0 : Int32) = (0 : Int32))) ?_
  refine oTc X4 K rfl (H 396) (H 397) (H 399) (H 398) (by decide) e4 (own_lof hw (Nat.le_trans Z0 K3.1) hq (Old.keep hOld K3 (allS Y29 (allS Y32 (allS Y30 (allS Y31 all0)))))) rfl (lenOf own_pd33 rfl) rfl N3 0 rfl (by decide) fun v6 T6 h6 L6 N6 q6 e6 X6 => ?_
  obtain ⟨rfl, y6⟩ := q6
  refine oSAn X6 K rfl rfl rfl <| oA X6 K rfl rfl rfl ?_
  refine oGf X6 K rfl (H 402) (e6.trans y6) (Y13.keep K3 (ninS (Exa.ne Y0 Y19 (by decide)) (ninS (own_neArh Y0 Y28 (H 70)) (ninS (Exa.neArv Y0 Y25 (H 70)) (ninS (Exa.neArv Y0 Y27 (H 70)) nin0))))) fun T7 X7 e7 => ?_
  refine oFN X7 K rfl (XT.i0_ne_f (by decide : (0 : Int32) = (0 : Int32))) <| oA X7 K rfl rfl rfl ?_
  refine oGf X7 K rfl (H 150) e7 (Y11.keep K3 (ninS (Exa.ne Y0 Y19 (by decide)) (ninS (own_neArh Y0 Y28 (H 70)) (ninS (Exa.neArv Y0 Y25 (H 70)) (ninS (Exa.neArv Y0 Y27 (H 70)) nin0))))) fun T8 X8 e8 => ?_
  refine oA X8 K rfl rfl rfl ?_
  refine oVc X8 K rfl (H 404) (H 405) (notFace_of_selects (args := #[]) (mvT K.wz (H 407))) (H 407) (H 406) (H 408) (H 133) (by decide) e8 Y34 (own_vcount hw (Nat.le_trans Z0 K3.1) Y34 Y38 Y35 Y36 Y40 Y42) rfl rfl (lenOf own_pd23 rfl) rfl N6 0 rfl (by decide) fun v10 T10 h10 L10 N10 q10 e10 X10 => ?_
  obtain ⟨rfl, y10⟩ := q10
  refine oA X10 K rfl rfl rfl ?_
  refine oGf X10 K rfl (H 125) (e10.trans y10) (Y7.keep K3 (ninS (Exa.ne Y0 Y19 (by decide)) (ninS (own_neArh Y0 Y28 (H 70)) (ninS (Exa.neArv Y0 Y25 (H 70)) (ninS (Exa.neArv Y0 Y27 (H 70)) nin0))))) fun T11 X11 e11 => ?_
  refine oCY X11 K rfl (XT.ii_lt_t hA1) <| oA X11 K rfl rfl rfl ?_
  refine oGf X11 K rfl (H 150) e11 (Y11.keep K3 (ninS (Exa.ne Y0 Y19 (by decide)) (ninS (own_neArh Y0 Y28 (H 70)) (ninS (Exa.neArv Y0 Y25 (H 70)) (ninS (Exa.neArv Y0 Y27 (H 70)) nin0))))) fun T12 X12 e12 => ?_
  refine oA X12 K rfl rfl rfl ?_
  refine oVc X12 K rfl (H 404) (H 405) (notFace_of_selects (args := #[]) (mvT K.wz (H 407))) (H 407) (H 406) (H 408) (H 133) (by decide) e12 Y34 (own_vcount hw (Nat.le_trans Z0 K3.1) Y34 Y38 Y35 Y36 Y40 Y42) rfl rfl (lenOf own_pd23 rfl) rfl N10 0 rfl (by decide) fun v14 T14 h14 L14 N14 q14 e14 X14 => ?_
  obtain ⟨rfl, y14⟩ := q14
  refine oA X14 K rfl rfl rfl ?_
  refine oGf X14 K rfl (H 129) (e14.trans y14) (Y9.keep K3 (ninS (Exa.ne Y0 Y19 (by decide)) (ninS (own_neArh Y0 Y28 (H 70)) (ninS (Exa.neArv Y0 Y25 (H 70)) (ninS (Exa.neArv Y0 Y27 (H 70)) nin0))))) fun T15 X15 e15 => ?_
  refine oCY X15 K rfl (XT.ii_lt_t hA2) <| oA X15 K rfl rfl rfl ?_
  refine oPc X15 K rfl (H 477) (H 478) (own_sel_64 hw) (H 479) (H 480) (H 37) (by decide) e15 (Y0.keep K3) (own_tid0 hw (Nat.le_trans Z0 K3.1) (Y0.keep K3) (Y5.keep K3 (ninS (Exa.ne Y0 Y19 (by decide)) (ninS (own_neArh Y0 Y28 (H 70)) (ninS (Exa.neArv Y0 Y25 (H 70)) (ninS (Exa.neArv Y0 Y27 (H 70)) nin0))))) hq (Old.keep hOld K3 (allS Y29 (allS Y32 (allS Y30 (allS Y31 all0)))))) rfl rfl (lenOf own_pd0 rfl) rfl N14 0 rfl (by decide) fun v17 T17 h17 L17 N17 q17 e17 X17 => ?_
  obtain ⟨rfl, y17⟩ := q17
  refine oA X17 K rfl rfl rfl ?_
  exact oRa X17 K rfl rfl rfl (e17.trans y17) N17 (by decide) ⟨rfl, ((Keep.refl _ _).trans K3 (allS (oM 0 rfl) (allS (oM 1 rfl) (allS (oM 2 rfl) (allS (oM 3 rfl) all0))))), Y34, Y35, Y36, Y37, Y38, Y39, Y40, Y41, Y42, Y43⟩
theorem own_onrB (hw : own_HW a0 Z) {a1 sd ec rd va ca co : Addr} {kva kca kco : ClassId} {nn vt sf ix p1 : Int32} {hs : List (Int32 × Value)} {v1 : Addr} {q : own_P0} (Z0 : n0 <= h0.size) (Y0 : Exa Z h0 a1 "convoke/protocol/Bracha") (Y1 : f13 Z h0 a1 (.ref sd)) (Y2 : f15 Z h0 a1 (.ref q.fKI)) (Y3 : f37 Z h0 a1 (.int 0)) (Y4 : f38 Z h0 a1 (.int 0)) (Y5 : f45 Z h0 a1 .null) (Y6 : f17 Z h0 a1 (.int 0)) (Y7 : f19 Z h0 a1 (.int 1)) (Y8 : f20 Z h0 a1 (.int 1)) (Y9 : f21 Z h0 a1 (.int 1)) (Y10 : f25 Z h0 a1 (.ref ec)) (Y11 : f26 Z h0 a1 (.ref rd)) (Y12 : f27 Z h0 a1 .null) (Y13 : f41 Z h0 a1 (.int 0)) (Y14 : n0 <= a1) (Y15 : Exa Z h0 sd "convoke/protocol/Seat") (Y16 : f10 Z h0 sd (.int nn)) (Y17 : f11 Z h0 sd (.int sf)) (Y18 : f12 Z h0 sd (.int ix)) (Y19 : Exa Z h0 rd "convoke/protocol/Votes") (Y20 : f22 Z h0 rd (.ref va)) (Y21 : f23 Z h0 rd (.ref ca)) (Y22 : f24 Z h0 rd (.ref co)) (Y23 : f40 Z h0 rd (.int 0)) (Y24 : f39 Z h0 rd (.int vt)) (Y25 : Arv Z h0 va kva (.object "convoke/model/Value") (1 : Int32) [.null] .null) (Y26 : Ovr Z kva "convoke/model/Value") (Y27 : Arv Z h0 ca kca .int 1 [(.int 0)] (.int 0)) (Y28 : Arh Z h0 co kco .boolean (nn + (1 : Int32)) hs [] (.int 0)) (Y29 : n0 <= rd) (Y30 : n0 <= va) (Y31 : n0 <= ca) (Y32 : n0 <= co) (hp1 : ¬ (p1 < (1 : Int32))) (hp2 : ¬ (nn < p1)) (hn8 : 1 <= nn.toInt /\ nn.toInt <= 8) (hsf : ¬ (sf < (1 : Int32))) (hix : ¬ (ix < (1 : Int32))) (Y33 : Exa Z h0 v1 "convoke/model/Value") (hg : getH hs [] (.int 0) p1.toNatClampNeg = .int 0) (hq : own_Env Z q) (hOld : Old Z n0 h0) : own_MW own_EL l ⟨"convoke/protocol/Bracha", "onReady", "(ILconvoke/model/Value;)Ljava/util/List;"⟩ prog_62_method_9_code 4 (some (.object "java/util/List")) ⟨6, 43, 404, 82⟩ ws Z h0 n0 #[(.ref a1), (.int p1), (.ref v1)] (fun v h => ∃ ar : Addr, ∃ ed : Addr, ∃ ke : ClassId, ∃ hh : List (Int32 × Value), (v = some (.ref ar) /\ Keep h0 h [a1, rd, co, va, ca] /\ (Exa Z h a1 "convoke/protocol/Bracha") /\ (f13 Z h a1 (.ref sd)) /\ (f15 Z h a1 (.ref q.fKI)) /\ (f37 Z h a1 (.int 1)) /\ (f38 Z h a1 (.int 0)) /\ (f45 Z h a1 (.ref v1)) /\ (f17 Z h a1 (.int 0)) /\ (f19 Z h a1 (.int 1)) /\ (f20 Z h a1 (.int 1)) /\ (f21 Z h a1 (.int 1)) /\ (f25 Z h a1 .null) /\ (f26 Z h a1 .null) /\ (f27 Z h a1 .null) /\ (f41 Z h a1 (.int 1)) /\ (Exa Z h ar "java/util/ArrayList") /\ (f43 Z h ar (.ref ed)) /\ (f44 Z h ar (.int nn)) /\ (Arh Z h ed ke (.object "java/lang/Object") nn hh [] .null) /\ (Ovr Z ke "java/lang/Object") /\ (h0.size <= ar) /\ (h0.size <= ed) /\ (Exa Z h ed "[Ljava/lang/Object;") /\ (own_Els Z h hh))) := by
  refine own_begW (plainFor_of_name own_pn5) own_t49 #[.val (.ref a1), .val (.int p1), .val (.ref v1), .unset] (own_e3_4 · ⟨rfl, rfl, rfl⟩) fun p e s m below meth c sa K X0 e0 hh hS0 R0 => ?_
  have N0 := Fr.nil n0
  have H := oh hw
  have hEL := own_ew hw
  refine oA X0 K rfl rfl rfl ?_
  refine oGf X0 K rfl (H 150) e0 Y11 fun T1 X1 e1 => ?_
  refine oI X1 K rfl rfl <| oA X1 K rfl rfl rfl ?_
  refine oVc X1 K rfl (H 377) (H 378) (notFace_of_selects (args := #[]) (mvT K.wz (H 380))) (H 380) (H 379) (H 381) (H 133) (by decide) e1 Y19 (own_add0 hw Z0 Y19 Y20 Y21 Y22 Y23 Y24 Y25 Y26 Y27 Y28 Y29 Y30 Y31 Y32 hp1 hp2 hn8 hg Y33) rfl rfl (lenOf own_pd32 rfl) rfl N0 0 rfl (by decide) fun v3 T3 h3 L3 N3 q3 e3 X3 => ?_
  obtain ⟨rfl, K3, Y34, Y35, Y36, Y37, Y38, Y39, Y40, Y41, Y42, Y43⟩ := q3
  have R4 := own_rk R0 K3 (sfS (oSx K.wz Y19 (by decide)) (sfS (own_safeH (vm := s.vm) K.wz.alike Y28 (by decide)) (sfS (own_safeV (vm := s.vm) K.wz.alike Y25 (by decide)) (sfS (own_safeV (vm := s.vm) K.wz.alike Y27 (by decide)) sf0))))
  refine oFY X3 K rfl (XT.i0_ne_t (by decide : ¬ ((1 : Int32) = (0 : Int32)))) <| oA X3 K rfl rfl rfl ?_
  refine oGf X3 K rfl (H 120) e3 (Y6.keep K3 (ninS (Exa.ne Y0 Y19 (by decide)) (ninS (own_neArh Y0 Y28 (H 70)) (ninS (Exa.neArv Y0 Y25 (H 70)) (ninS (Exa.neArv Y0 Y27 (H 70)) nin0))))) fun T5 X5 e5 => ?_
  refine oFY X5 K rfl (XT.i0_eq_t (by decide : (0 : Int32) = (0 : Int32))) ?_
  refine oTc X5 K rfl (H 396) (H 397) (H 399) (H 398) (by decide) e5 (own_lof hw (Nat.le_trans Z0 K3.1) hq (Old.keep hOld K3 (allS Y29 (allS Y32 (allS Y30 (allS Y31 all0)))))) rfl (lenOf own_pd33 rfl) rfl N3 0 rfl (by decide) fun v7 T7 h7 L7 N7 q7 e7 X7 => ?_
  obtain ⟨rfl, y7⟩ := q7
  refine oSAn X7 K rfl rfl rfl <| oA X7 K rfl rfl rfl ?_
  refine oGf X7 K rfl (H 402) (e7.trans y7) (Y13.keep K3 (ninS (Exa.ne Y0 Y19 (by decide)) (ninS (own_neArh Y0 Y28 (H 70)) (ninS (Exa.neArv Y0 Y25 (H 70)) (ninS (Exa.neArv Y0 Y27 (H 70)) nin0))))) fun T8 X8 e8 => ?_
  refine oFN X8 K rfl (XT.i0_ne_f (by decide : (0 : Int32) = (0 : Int32))) <| oA X8 K rfl rfl rfl ?_
  refine oGf X8 K rfl (H 150) e8 (Y11.keep K3 (ninS (Exa.ne Y0 Y19 (by decide)) (ninS (own_neArh Y0 Y28 (H 70)) (ninS (Exa.neArv Y0 Y25 (H 70)) (ninS (Exa.neArv Y0 Y27 (H 70)) nin0))))) fun T9 X9 e9 => ?_
  refine oA X9 K rfl rfl rfl ?_
  refine oVc X9 K rfl (H 404) (H 405) (notFace_of_selects (args := #[]) (mvT K.wz (H 407))) (H 407) (H 406) (H 408) (H 133) (by decide) e9 Y34 (own_vcount hw (Nat.le_trans Z0 K3.1) Y34 Y38 Y35 Y36 Y40 Y42) rfl rfl (lenOf own_pd23 rfl) rfl N7 0 rfl (by decide) fun v11 T11 h11 L11 N11 q11 e11 X11 => ?_
  obtain ⟨rfl, y11⟩ := q11
  refine oA X11 K rfl rfl rfl ?_
  refine oGf X11 K rfl (H 125) (e11.trans y11) (Y7.keep K3 (ninS (Exa.ne Y0 Y19 (by decide)) (ninS (own_neArh Y0 Y28 (H 70)) (ninS (Exa.neArv Y0 Y25 (H 70)) (ninS (Exa.neArv Y0 Y27 (H 70)) nin0))))) fun T12 X12 e12 => ?_
  refine oCN X12 K rfl (XT.ii_lt_f (by decide : ¬ ((1 : Int32) < (1 : Int32)))) <| oA X12 K rfl rfl rfl <| oC (z := 1) X12 K rfl rfl ?_
  refine oPf (ty := .boolean) (v' := (.int 1)) X12 K rfl (H 402) e12 (Y13.keep K3 (ninS (Exa.ne Y0 Y19 (by decide)) (ninS (own_neArh Y0 Y28 (H 70)) (ninS (Exa.neArv Y0 Y25 (H 70)) (ninS (Exa.neArv Y0 Y27 (H 70)) nin0))))) (Y0.keep K3) (Or.inl (H 403)) (H 70) (by decide) rfl rfl N11 Y14 fun T13 h13 L13 N13 X13 e13 W13 Fw13 => ?_
  have R14 := own_rw R4 W13 (oSx K.wz (Y0.keep K3) (by decide))
  refine oA X13 K rfl rfl rfl ?_
  refine oUc X13 K rfl (H 409) (H 410) (H 411) (H 413) (H 412) (H 414) (H 109) (by decide) e13 (Exa.wr W13 (Y0.keep K3)) (own_seat hw (Nat.le_trans Z0 (Nat.le_trans K3.1 (Keep.of_wr W13).1)) (oFo W13 (Y1.keep K3 (ninS (Exa.ne Y0 Y19 (by decide)) (ninS (own_neArh Y0 Y28 (H 70)) (ninS (Exa.neArv Y0 Y25 (H 70)) (ninS (Exa.neArv Y0 Y27 (H 70)) nin0))))) (Or.inr (H 113)) (Or.inl (H 403)) (by decide))) rfl rfl (lenOf own_pd34 rfl) rfl N13 0 rfl (by decide) fun v16 T16 h16 L16 N16 q16 e16 X16 => ?_
  obtain ⟨rfl, y16⟩ := q16
  refine oGs X16 K rfl (H 372) (e16.trans y16) (Sta.ext (Old.wr (Old.keep hOld K3 (allS Y29 (allS Y32 (allS Y30 (allS Y31 all0))))) W13 Y14).2 hq.sKR) fun T17 X17 e17 => ?_
  refine oA X17 K rfl rfl rfl ?_
  refine oVw X17 K hS0 (Nat.le_trans (Nat.le_trans (Nat.zero_le _) K3.1) (Keep.of_wr W13).1) hEL R14 rfl (H 415) (H 416) (notFace_of_selects (args := #[]) (mvT K.wz (H 418))) (H 418) (H 417) (H 419) (H 80) (by decide) e17 (Exa.wr W13 (Y15.keep K3)) (own_mul2 hw (Nat.le_trans Z0 (Nat.le_trans K3.1 (Keep.of_wr W13).1)) (Exa.wr W13 (Y15.keep K3)) (oFn W13 (Y16.keep K3 (ninS (Exa.ne Y15 Y19 (by decide)) (ninS (own_neArh Y15 Y28 (H 79)) (ninS (Exa.neArv Y15 Y25 (H 79)) (ninS (Exa.neArv Y15 Y27 (H 79)) nin0))))) (Exa.ne Y15 Y0 (by decide))) (oFn W13 (Y17.keep K3 (ninS (Exa.ne Y15 Y19 (by decide)) (ninS (own_neArh Y15 Y28 (H 79)) (ninS (Exa.neArv Y15 Y25 (H 79)) (ninS (Exa.neArv Y15 Y27 (H 79)) nin0))))) (Exa.ne Y15 Y0 (by decide))) (oFn W13 (Y18.keep K3 (ninS (Exa.ne Y15 Y19 (by decide)) (ninS (own_neArh Y15 Y28 (H 79)) (ninS (Exa.neArv Y15 Y25 (H 79)) (ninS (Exa.neArv Y15 Y27 (H 79)) nin0))))) (Exa.ne Y15 Y0 (by decide))) hn8 hsf hix hq (Old.wr (Old.keep hOld K3 (allS Y29 (allS Y32 (allS Y30 (allS Y31 all0))))) W13 Y14)) rfl rfl (lenOf own_pd35 rfl) rfl N16 0 rfl (by decide) fun v23 T23 h23 L23 N23 q23 e23 X23 hS23 K R23 => ?_
  obtain ⟨ar18, ed19, ke20, hh21, rfl, K23, Y44, Y45, Y46, Y47, Y48, Y49, Y50, Y51, Y52⟩ := q23
  have Y53 := Nat.le_trans (Nat.le_trans K3.1 (Keep.of_wr W13).1) Y49
  have Y54 := Nat.le_trans (Nat.le_trans K3.1 (Keep.of_wr W13).1) Y50
  refine oSAn X23 K rfl rfl rfl <| oA X23 K rfl rfl rfl ?_
  refine oGf X23 K rfl (H 150) e23 ((oFo W13 (Y11.keep K3 (ninS (Exa.ne Y0 Y19 (by decide)) (ninS (own_neArh Y0 Y28 (H 70)) (ninS (Exa.neArv Y0 Y25 (H 70)) (ninS (Exa.neArv Y0 Y27 (H 70)) nin0))))) (Or.inl (H 151)) (Or.inl (H 403)) (by decide)).keep K23 nin0) fun T24 X24 e24 => ?_
  refine oA X24 K rfl rfl rfl ?_
  have z26 := (Nat.le_trans (Nat.le_trans K3.1 (Keep.of_wr W13).1) K23.1)
  refine oVc X24 K rfl (H 404) (H 405) (notFace_of_selects (args := #[]) (mvT K.wz (H 407))) (H 407) (H 406) (H 408) (H 133) (by decide) e24 ((Exa.wr W13 Y34).keep K23) (own_vcount hw (Nat.le_trans Z0 z26) ((Exa.wr W13 Y34).keep K23) ((oFn W13 Y38 (Exa.ne Y19 Y0 (by decide))).keep K23 nin0) ((oFn W13 Y35 (Exa.ne Y19 Y0 (by decide))).keep K23 nin0) ((oFn W13 Y36 (Exa.ne Y19 Y0 (by decide))).keep K23 nin0) ((Y40.other W13 (Ne.symm (Exa.neArv Y0 Y25 (H 70)))).keep K23 nin0) ((Y42.other W13 (Ne.symm (Exa.neArv Y0 Y27 (H 70)))).keep K23 nin0)) rfl rfl (lenOf own_pd23 rfl) rfl N23 0 rfl (by decide) fun v27 T27 h27 L27 N27 q27 e27 X27 => ?_
  obtain ⟨rfl, y27⟩ := q27
  refine oA X27 K rfl rfl rfl ?_
  refine oGf X27 K rfl (H 129) (e27.trans y27) ((oFo W13 (Y9.keep K3 (ninS (Exa.ne Y0 Y19 (by decide)) (ninS (own_neArh Y0 Y28 (H 70)) (ninS (Exa.neArv Y0 Y25 (H 70)) (ninS (Exa.neArv Y0 Y27 (H 70)) nin0))))) (Or.inr (H 130)) (Or.inl (H 403)) (by decide)).keep K23 nin0) fun T28 X28 e28 => ?_
  refine oCN X28 K rfl (XT.ii_lt_f (by decide : ¬ ((1 : Int32) < (1 : Int32)))) <| oA X28 K rfl rfl rfl <| oA X28 K rfl rfl rfl ?_
  refine oUc X28 K rfl (H 469) (H 470) (H 471) (H 473) (H 472) (H 474) (H 109) (by decide) e28 ((Exa.wr W13 (Y0.keep K3)).keep K23) (own_outonce hw (Nat.le_trans Z0 z26) ((Exa.wr W13 (Y0.keep K3)).keep K23) ((oFo W13 (Y1.keep K3 (ninS (Exa.ne Y0 Y19 (by decide)) (ninS (own_neArh Y0 Y28 (H 70)) (ninS (Exa.neArv Y0 Y25 (H 70)) (ninS (Exa.neArv Y0 Y27 (H 70)) nin0))))) (Or.inr (H 113)) (Or.inl (H 403)) (by decide)).keep K23 nin0) ((oFo W13 (Y2.keep K3 (ninS (Exa.ne Y0 Y19 (by decide)) (ninS (own_neArh Y0 Y28 (H 70)) (ninS (Exa.neArv Y0 Y25 (H 70)) (ninS (Exa.neArv Y0 Y27 (H 70)) nin0))))) (Or.inr (H 117)) (Or.inl (H 403)) (by decide)).keep K23 nin0) ((oFo W13 (Y3.keep K3 (ninS (Exa.ne Y0 Y19 (by decide)) (ninS (own_neArh Y0 Y28 (H 70)) (ninS (Exa.neArv Y0 Y25 (H 70)) (ninS (Exa.neArv Y0 Y27 (H 70)) nin0))))) (Or.inl (H 348)) (Or.inl (H 403)) (by decide)).keep K23 nin0) ((oFo W13 (Y4.keep K3 (ninS (Exa.ne Y0 Y19 (by decide)) (ninS (own_neArh Y0 Y28 (H 70)) (ninS (Exa.neArv Y0 Y25 (H 70)) (ninS (Exa.neArv Y0 Y27 (H 70)) nin0))))) (Or.inl (H 350)) (Or.inl (H 403)) (by decide)).keep K23 nin0) ((oFo W13 (Y5.keep K3 (ninS (Exa.ne Y0 Y19 (by decide)) (ninS (own_neArh Y0 Y28 (H 70)) (ninS (Exa.neArv Y0 Y25 (H 70)) (ninS (Exa.neArv Y0 Y27 (H 70)) nin0))))) (Or.inl (H 476)) (Or.inl (H 403)) (by decide)).keep K23 nin0) ((oFo W13 (Y6.keep K3 (ninS (Exa.ne Y0 Y19 (by decide)) (ninS (own_neArh Y0 Y28 (H 70)) (ninS (Exa.neArv Y0 Y25 (H 70)) (ninS (Exa.neArv Y0 Y27 (H 70)) nin0))))) (Or.inr (H 121)) (Or.inl (H 403)) (by decide)).keep K23 nin0) ((oFo W13 (Y7.keep K3 (ninS (Exa.ne Y0 Y19 (by decide)) (ninS (own_neArh Y0 Y28 (H 70)) (ninS (Exa.neArv Y0 Y25 (H 70)) (ninS (Exa.neArv Y0 Y27 (H 70)) nin0))))) (Or.inr (H 126)) (Or.inl (H 403)) (by decide)).keep K23 nin0) ((oFo W13 (Y8.keep K3 (ninS (Exa.ne Y0 Y19 (by decide)) (ninS (own_neArh Y0 Y28 (H 70)) (ninS (Exa.neArv Y0 Y25 (H 70)) (ninS (Exa.neArv Y0 Y27 (H 70)) nin0))))) (Or.inr (H 128)) (Or.inl (H 403)) (by decide)).keep K23 nin0) ((oFo W13 (Y9.keep K3 (ninS (Exa.ne Y0 Y19 (by decide)) (ninS (own_neArh Y0 Y28 (H 70)) (ninS (Exa.neArv Y0 Y25 (H 70)) (ninS (Exa.neArv Y0 Y27 (H 70)) nin0))))) (Or.inr (H 130)) (Or.inl (H 403)) (by decide)).keep K23 nin0) ((oFo W13 (Y10.keep K3 (ninS (Exa.ne Y0 Y19 (by decide)) (ninS (own_neArh Y0 Y28 (H 70)) (ninS (Exa.neArv Y0 Y25 (H 70)) (ninS (Exa.neArv Y0 Y27 (H 70)) nin0))))) (Or.inl (H 149)) (Or.inl (H 403)) (by decide)).keep K23 nin0) ((oFo W13 (Y11.keep K3 (ninS (Exa.ne Y0 Y19 (by decide)) (ninS (own_neArh Y0 Y28 (H 70)) (ninS (Exa.neArv Y0 Y25 (H 70)) (ninS (Exa.neArv Y0 Y27 (H 70)) nin0))))) (Or.inl (H 151)) (Or.inl (H 403)) (by decide)).keep K23 nin0) ((oFo W13 (Y12.keep K3 (ninS (Exa.ne Y0 Y19 (by decide)) (ninS (own_neArh Y0 Y28 (H 70)) (ninS (Exa.neArv Y0 Y25 (H 70)) (ninS (Exa.neArv Y0 Y27 (H 70)) nin0))))) (Or.inl (H 153)) (Or.inl (H 403)) (by decide)).keep K23 nin0) (Fw13.keep K23 nin0) Y14) rfl rfl (lenOf own_pd36 rfl) rfl N27 0 rfl (by decide) fun v30 T30 h30 L30 N30 q30 e30 X30 => ?_
  obtain ⟨rfl, K30, Y55, Y56, Y57, Y58, Y59, Y60, Y61, Y62, Y63, Y64, Y65, Y66, Y67, Y68⟩ := q30
  have R31 := own_rk R23 K30 (sfS (oSx K.wz ((Exa.wr W13 (Y0.keep K3)).keep K23) (by decide)) sf0)
  refine oA X30 K rfl rfl rfl ?_
  refine oPc X30 K rfl (H 477) (H 478) (own_sel_64 hw) (H 479) (H 480) (H 37) (by decide) e30 Y55 (own_tid1 hw (Nat.le_trans Z0 (Nat.le_trans z26 K30.1)) Y55 Y56 Y57 Y58 Y59 Y60 Y61 Y62 Y63 Y64 Y65 Y66 Y67 Y68 Y14 (((Exa.wr W13 Y34).keep K23).keep K30) (((oFn W13 Y38 (Exa.ne Y19 Y0 (by decide))).keep K23 nin0).keep K30 (ninS (Exa.ne Y19 Y0 (by decide)) nin0)) (((oFn W13 Y35 (Exa.ne Y19 Y0 (by decide))).keep K23 nin0).keep K30 (ninS (Exa.ne Y19 Y0 (by decide)) nin0)) (((oFn W13 Y36 (Exa.ne Y19 Y0 (by decide))).keep K23 nin0).keep K30 (ninS (Exa.ne Y19 Y0 (by decide)) nin0)) (((Y40.other W13 (Ne.symm (Exa.neArv Y0 Y25 (H 70)))).keep K23 nin0).keep K30 (ninS (Ne.symm (Exa.neArv Y0 Y25 (H 70))) nin0)) (((Y42.other W13 (Ne.symm (Exa.neArv Y0 Y27 (H 70)))).keep K23 nin0).keep K30 (ninS (Ne.symm (Exa.neArv Y0 Y27 (H 70))) nin0)) (((Exa.wr W13 (Y33.keep K3)).keep K23).keep K30)) rfl rfl (lenOf own_pd0 rfl) rfl N30 0 rfl (by decide) fun v33 T33 h33 L33 N33 q33 e33 X33 => ?_
  obtain ⟨rfl, K33, Y69, Y70, Y71, Y72, Y73, Y74, Y75, Y76, Y77, Y78, Y79, Y80, Y81, Y82⟩ := q33
  have R34 := own_rk R31 K33 (sfS (oSx K.wz Y55 (by decide)) sf0)
  refine oA X33 K rfl rfl rfl ?_
  exact oRaw X33 K rfl rfl rfl e33 N33 (by decide) hh hEL hS23 (Nat.le_trans (Nat.le_trans (Nat.le_refl _) K30.1) K33.1) R34 ⟨ar18, ed19, ke20, hh21, rfl, ((((((Keep.refl _ _).trans K3 (allS (oM 1 rfl) (allS (oM 2 rfl) (allS (oM 3 rfl) (allS (oM 4 rfl) all0))))).wr W13 (oM 0 rfl)).trans K23 all0).trans K30 (allS (oM 0 rfl) all0)).trans K33 (allS (oM 0 rfl) all0)), Y69, Y70, Y71, Y72, Y73, Y74, Y75, Y76, Y77, Y78, Y79, Y80, Y81, Y82, ((Y44.keep K30).keep K33), ((Y45.keep K30 (ninS (Ne.symm (oNe (Exa.lt Y0) Y53)) nin0)).keep K33 (ninS (Ne.symm (oNe (Exa.lt Y0) Y53)) nin0)), ((Y46.keep K30 (ninS (Ne.symm (oNe (Exa.lt Y0) Y53)) nin0)).keep K33 (ninS (Ne.symm (oNe (Exa.lt Y0) Y53)) nin0)), ((Y47.keep K30 (ninS (Ne.symm (oNe (Exa.lt Y0) Y54)) nin0)).keep K33 (ninS (Ne.symm (oNe (Exa.lt Y0) Y54)) nin0)), Y48, Y53, Y54, ((Y51.keep K30).keep K33), (own_Els.keep (own_Els.keep Y52 K30) K33)⟩
theorem own_onrC (hw : own_HW a0 Z) {a1 sd ec rd va ca co : Addr} {kva kca kco : ClassId} {nn vt sf ix p1 : Int32} {hs : List (Int32 × Value)} {v1 : Addr} {tt : Int32} {q : own_P0} (Z0 : n0 <= h0.size) (Y0 : Exa Z h0 a1 "convoke/protocol/Bracha") (Y1 : f13 Z h0 a1 (.ref sd)) (Y2 : f15 Z h0 a1 (.ref q.fKI)) (Y3 : f37 Z h0 a1 (.int 0)) (Y4 : f38 Z h0 a1 (.int 0)) (Y5 : f45 Z h0 a1 .null) (Y6 : f17 Z h0 a1 (.int 0)) (Y7 : f19 Z h0 a1 (.int (tt + (1 : Int32)))) (Y8 : f20 Z h0 a1 (.int (((2 : Int32) * tt) + (1 : Int32)))) (Y9 : f21 Z h0 a1 (.int (((2 : Int32) * tt) + (1 : Int32)))) (Y10 : f25 Z h0 a1 (.ref ec)) (Y11 : f26 Z h0 a1 (.ref rd)) (Y12 : f27 Z h0 a1 .null) (Y13 : f41 Z h0 a1 (.int 0)) (Y14 : n0 <= a1) (Y15 : Exa Z h0 sd "convoke/protocol/Seat") (Y16 : f10 Z h0 sd (.int nn)) (Y17 : f11 Z h0 sd (.int sf)) (Y18 : f12 Z h0 sd (.int ix)) (Y19 : Exa Z h0 rd "convoke/protocol/Votes") (Y20 : f22 Z h0 rd (.ref va)) (Y21 : f23 Z h0 rd (.ref ca)) (Y22 : f24 Z h0 rd (.ref co)) (Y23 : f40 Z h0 rd (.int 1)) (Y24 : f39 Z h0 rd (.int vt)) (Y25 : Arv Z h0 va kva (.object "convoke/model/Value") (1 : Int32) [(.ref v1)] .null) (Y26 : Ovr Z kva "convoke/model/Value") (Y27 : Arv Z h0 ca kca .int 1 [(.int 1)] (.int 0)) (Y28 : Arh Z h0 co kco .boolean (nn + (1 : Int32)) hs [] (.int 0)) (Y29 : n0 <= rd) (Y30 : n0 <= va) (Y31 : n0 <= ca) (Y32 : n0 <= co) (hp1 : ¬ (p1 < (1 : Int32))) (hp2 : ¬ (nn < p1)) (hn8 : 1 <= nn.toInt /\ nn.toInt <= 8) (hsf : ¬ (sf < (1 : Int32))) (hix : ¬ (ix < (1 : Int32))) (Y33 : Exa Z h0 v1 "convoke/model/Value") (hg : getH hs [] (.int 0) p1.toNatClampNeg = .int 1) (hq : own_Env Z q) (hOld : Old Z n0 h0) : own_M l ⟨"convoke/protocol/Bracha", "onReady", "(ILconvoke/model/Value;)Ljava/util/List;"⟩ prog_62_method_9_code 4 (some (.object "java/util/List")) ⟨2, 0, 0, 28⟩ ws Z h0 n0 #[(.ref a1), (.int p1), (.ref v1)] (fun v h => (v = some (.ref q.fEL) /\ h = h0)) := by
  refine own_beg (plainFor_of_name own_pn5) own_t49 #[.val (.ref a1), .val (.int p1), .val (.ref v1), .unset] (own_e3_4 · ⟨rfl, rfl, rfl⟩) fun p e s m below meth c sa K X0 e0 => ?_
  have N0 := Fr.nil n0
  have H := oh hw
  refine oA X0 K rfl rfl rfl ?_
  refine oGf X0 K rfl (H 150) e0 Y11 fun T1 X1 e1 => ?_
  refine oI X1 K rfl rfl <| oA X1 K rfl rfl rfl ?_
  refine oVc X1 K rfl (H 377) (H 378) (notFace_of_selects (args := #[]) (mvT K.wz (H 380))) (H 380) (H 379) (H 381) (H 133) (by decide) e1 Y19 (own_addS hw Z0 Y19 Y20 Y21 Y22 Y23 Y24 Y25 Y26 Y27 Y28 hp1 hp2 hn8 hg) rfl rfl (lenOf own_pd32 rfl) rfl N0 0 rfl (by decide) fun v3 T3 h3 L3 N3 q3 e3 X3 => ?_
  obtain ⟨rfl, y3⟩ := q3
  refine oFN X3 K rfl (XT.i0_ne_f (by decide : (0 : Int32) = (0 : Int32))) ?_
  refine oTc X3 K rfl (H 396) (H 397) (H 399) (H 398) (by decide) (e3.trans y3) (own_lof hw Z0 hq hOld) rfl (lenOf own_pd33 rfl) rfl N3 0 rfl (by decide) fun v5 T5 h5 L5 N5 q5 e5 X5 => ?_
  obtain ⟨rfl, y5⟩ := q5
  exact oRa X5 K rfl rfl rfl (e5.trans y5) N5 (by decide) ⟨rfl, rfl⟩
theorem own_onrD (hw : own_HW a0 Z) {a1 sd ec rd va ca co : Addr} {kva kca kco : ClassId} {nn vt sf ix p1 : Int32} {hs : List (Int32 × Value)} {v1 : Addr} {tt : Int32} {q : own_P0} (Z0 : n0 <= h0.size) (Y0 : Exa Z h0 a1 "convoke/protocol/Bracha") (Y1 : f13 Z h0 a1 (.ref sd)) (Y2 : f15 Z h0 a1 (.ref q.fKI)) (Y3 : f37 Z h0 a1 (.int 0)) (Y4 : f38 Z h0 a1 (.int 0)) (Y5 : f45 Z h0 a1 .null) (Y6 : f17 Z h0 a1 (.int 0)) (Y7 : f19 Z h0 a1 (.int (tt + (1 : Int32)))) (Y8 : f20 Z h0 a1 (.int (((2 : Int32) * tt) + (1 : Int32)))) (Y9 : f21 Z h0 a1 (.int (((2 : Int32) * tt) + (1 : Int32)))) (Y10 : f25 Z h0 a1 (.ref ec)) (Y11 : f26 Z h0 a1 (.ref rd)) (Y12 : f27 Z h0 a1 .null) (Y13 : f41 Z h0 a1 (.int 0)) (Y14 : n0 <= a1) (Y15 : Exa Z h0 sd "convoke/protocol/Seat") (Y16 : f10 Z h0 sd (.int nn)) (Y17 : f11 Z h0 sd (.int sf)) (Y18 : f12 Z h0 sd (.int ix)) (Y19 : Exa Z h0 rd "convoke/protocol/Votes") (Y20 : f22 Z h0 rd (.ref va)) (Y21 : f23 Z h0 rd (.ref ca)) (Y22 : f24 Z h0 rd (.ref co)) (Y23 : f40 Z h0 rd (.int 1)) (Y24 : f39 Z h0 rd (.int vt)) (Y25 : Arv Z h0 va kva (.object "convoke/model/Value") (1 : Int32) [(.ref v1)] .null) (Y26 : Ovr Z kva "convoke/model/Value") (Y27 : Arv Z h0 ca kca .int 1 [(.int 1)] (.int 0)) (Y28 : Arh Z h0 co kco .boolean (nn + (1 : Int32)) hs [] (.int 0)) (Y29 : n0 <= rd) (Y30 : n0 <= va) (Y31 : n0 <= ca) (Y32 : n0 <= co) (hp1 : ¬ (p1 < (1 : Int32))) (hp2 : ¬ (nn < p1)) (hn8 : 1 <= nn.toInt /\ nn.toInt <= 8) (hsf : ¬ (sf < (1 : Int32))) (hix : ¬ (ix < (1 : Int32))) (Y33 : Exa Z h0 v1 "convoke/model/Value") (hg : getH hs [] (.int 0) p1.toNatClampNeg = .int 0) (hA2 : (2 : Int32) < (((2 : Int32) * tt) + (1 : Int32))) (hq : own_Env Z q) (hOld : Old Z n0 h0) : own_MW own_EL l ⟨"convoke/protocol/Bracha", "onReady", "(ILconvoke/model/Value;)Ljava/util/List;"⟩ prog_62_method_9_code 4 (some (.object "java/util/List")) ⟨6, 42, 403, 82⟩ ws Z h0 n0 #[(.ref a1), (.int p1), (.ref v1)] (fun v h => ∃ ar : Addr, ∃ rs : Int32, (v = some (.ref ar) /\ Keep h0 h [a1, rd, co, ca] /\ (Exa Z h a1 "convoke/protocol/Bracha") /\ (f13 Z h a1 (.ref sd)) /\ (f15 Z h a1 (.ref q.fKI)) /\ (f37 Z h a1 (.int 0)) /\ (f38 Z h a1 (.int 0)) /\ (f45 Z h a1 .null) /\ (f17 Z h a1 (.int 0)) /\ (f19 Z h a1 (.int (tt + (1 : Int32)))) /\ (f20 Z h a1 (.int (((2 : Int32) * tt) + (1 : Int32)))) /\ (f21 Z h a1 (.int (((2 : Int32) * tt) + (1 : Int32)))) /\ (f25 Z h a1 (.ref ec)) /\ (f26 Z h a1 (.ref rd)) /\ (f27 Z h a1 .null) /\ (f41 Z h a1 (.int rs)))) := by
  refine own_begW (plainFor_of_name own_pn5) own_t49 #[.val (.ref a1), .val (.int p1), .val (.ref v1), .unset] (own_e3_4 · ⟨rfl, rfl, rfl⟩) fun p e s m below meth c sa K X0 e0 hh hS0 R0 => ?_
  have N0 := Fr.nil n0
  have H := oh hw
  have hEL := own_ew hw
  refine oA X0 K rfl rfl rfl ?_
  refine oGf X0 K rfl (H 150) e0 Y11 fun T1 X1 e1 => ?_
  refine oI X1 K rfl rfl <| oA X1 K rfl rfl rfl ?_
  refine oVc X1 K rfl (H 377) (H 378) (notFace_of_selects (args := #[]) (mvT K.wz (H 380))) (H 380) (H 379) (H 381) (H 133) (by decide) e1 Y19 (own_add1 hw Z0 Y19 Y20 Y21 Y22 Y23 Y24 Y25 Y26 Y27 Y28 Y29 Y30 Y31 Y32 hp1 hp2 hn8 hg) rfl rfl (lenOf own_pd32 rfl) rfl N0 0 rfl (by decide) fun v3 T3 h3 L3 N3 q3 e3 X3 => ?_
  obtain ⟨rfl, K3, Y34, Y35, Y36, Y37, Y38, Y39, Y40, Y41, Y42, Y43⟩ := q3
  have R4 := own_rk R0 K3 (sfS (oSx K.wz Y19 (by decide)) (sfS (own_safeH (vm := s.vm) K.wz.alike Y28 (by decide)) (sfS (own_safeV (vm := s.vm) K.wz.alike Y27 (by decide)) sf0)))
  refine oFY X3 K rfl (XT.i0_ne_t (by decide : ¬ ((1 : Int32) = (0 : Int32)))) <| oA X3 K rfl rfl rfl ?_
  refine oGf X3 K rfl (H 120) e3 (Y6.keep K3 (ninS (Exa.ne Y0 Y19 (by decide)) (ninS (own_neArh Y0 Y28 (H 70)) (ninS (Exa.neArv Y0 Y27 (H 70)) nin0)))) fun T5 X5 e5 => ?_
  refine oFY X5 K rfl (XT.i0_eq_t (by decide : (0 : Int32) = (0 : Int32))) ?_
  refine oTc X5 K rfl (H 396) (H 397) (H 399) (H 398) (by decide) e5 (own_lof hw (Nat.le_trans Z0 K3.1) hq (Old.keep hOld K3 (allS Y29 (allS Y32 (allS Y31 all0))))) rfl (lenOf own_pd33 rfl) rfl N3 0 rfl (by decide) fun v7 T7 h7 L7 N7 q7 e7 X7 => ?_
  obtain ⟨rfl, y7⟩ := q7
  refine oSAn X7 K rfl rfl rfl <| oA X7 K rfl rfl rfl ?_
  refine oGf X7 K rfl (H 402) (e7.trans y7) (Y13.keep K3 (ninS (Exa.ne Y0 Y19 (by decide)) (ninS (own_neArh Y0 Y28 (H 70)) (ninS (Exa.neArv Y0 Y27 (H 70)) nin0)))) fun T8 X8 e8 => ?_
  refine oFN X8 K rfl (XT.i0_ne_f (by decide : (0 : Int32) = (0 : Int32))) <| oA X8 K rfl rfl rfl ?_
  refine oGf X8 K rfl (H 150) e8 (Y11.keep K3 (ninS (Exa.ne Y0 Y19 (by decide)) (ninS (own_neArh Y0 Y28 (H 70)) (ninS (Exa.neArv Y0 Y27 (H 70)) nin0)))) fun T9 X9 e9 => ?_
  refine oA X9 K rfl rfl rfl ?_
  refine oVc X9 K rfl (H 404) (H 405) (notFace_of_selects (args := #[]) (mvT K.wz (H 407))) (H 407) (H 406) (H 408) (H 133) (by decide) e9 Y34 (own_vcount hw (Nat.le_trans Z0 K3.1) Y34 Y38 Y35 Y36 Y40 Y42) rfl rfl (lenOf own_pd23 rfl) rfl N7 0 rfl (by decide) fun v11 T11 h11 L11 N11 q11 e11 X11 => ?_
  obtain ⟨rfl, y11⟩ := q11
  refine oA X11 K rfl rfl rfl ?_
  refine oGf X11 K rfl (H 125) (e11.trans y11) (Y7.keep K3 (ninS (Exa.ne Y0 Y19 (by decide)) (ninS (own_neArh Y0 Y28 (H 70)) (ninS (Exa.neArv Y0 Y27 (H 70)) nin0)))) fun T12 X12 e12 => ?_
  by_cases hc56 : (2 : Int32) < (tt + (1 : Int32))
  · refine oCY X12 K rfl (XT.ii_lt_t hc56) <| oA X12 K rfl rfl rfl ?_
    refine oGf X12 K rfl (H 150) e12 (Y11.keep K3 (ninS (Exa.ne Y0 Y19 (by decide)) (ninS (own_neArh Y0 Y28 (H 70)) (ninS (Exa.neArv Y0 Y27 (H 70)) nin0)))) fun T13 X13 e13 => ?_
    refine oA X13 K rfl rfl rfl ?_
    refine oVc X13 K rfl (H 404) (H 405) (notFace_of_selects (args := #[]) (mvT K.wz (H 407))) (H 407) (H 406) (H 408) (H 133) (by decide) e13 Y34 (own_vcount hw (Nat.le_trans Z0 K3.1) Y34 Y38 Y35 Y36 Y40 Y42) rfl rfl (lenOf own_pd23 rfl) rfl N11 0 rfl (by decide) fun v15 T15 h15 L15 N15 q15 e15 X15 => ?_
    obtain ⟨rfl, y15⟩ := q15
    refine oA X15 K rfl rfl rfl ?_
    refine oGf X15 K rfl (H 129) (e15.trans y15) (Y9.keep K3 (ninS (Exa.ne Y0 Y19 (by decide)) (ninS (own_neArh Y0 Y28 (H 70)) (ninS (Exa.neArv Y0 Y27 (H 70)) nin0)))) fun T16 X16 e16 => ?_
    refine oCY X16 K rfl (XT.ii_lt_t hA2) <| oA X16 K rfl rfl rfl ?_
    refine oPc X16 K rfl (H 477) (H 478) (own_sel_64 hw) (H 479) (H 480) (H 37) (by decide) e16 (Y0.keep K3) (own_tid0 hw (Nat.le_trans Z0 K3.1) (Y0.keep K3) (Y5.keep K3 (ninS (Exa.ne Y0 Y19 (by decide)) (ninS (own_neArh Y0 Y28 (H 70)) (ninS (Exa.neArv Y0 Y27 (H 70)) nin0)))) hq (Old.keep hOld K3 (allS Y29 (allS Y32 (allS Y31 all0))))) rfl rfl (lenOf own_pd0 rfl) rfl N15 0 rfl (by decide) fun v18 T18 h18 L18 N18 q18 e18 X18 => ?_
    obtain ⟨rfl, y18⟩ := q18
    refine oA X18 K rfl rfl rfl ?_
    exact oRaw X18 K rfl rfl rfl (e18.trans y18) N18 (by decide) hh hEL hS0 (Nat.le_trans (Nat.zero_le _) K3.1) R4 ⟨q.fEL, (0 : Int32), rfl, ((Keep.refl _ _).trans K3 (allS (oM 1 rfl) (allS (oM 2 rfl) (allS (oM 3 rfl) all0)))), (Y0.keep K3), (Y1.keep K3 (ninS (Exa.ne Y0 Y19 (by decide)) (ninS (own_neArh Y0 Y28 (H 70)) (ninS (Exa.neArv Y0 Y27 (H 70)) nin0)))), (Y2.keep K3 (ninS (Exa.ne Y0 Y19 (by decide)) (ninS (own_neArh Y0 Y28 (H 70)) (ninS (Exa.neArv Y0 Y27 (H 70)) nin0)))), (Y3.keep K3 (ninS (Exa.ne Y0 Y19 (by decide)) (ninS (own_neArh Y0 Y28 (H 70)) (ninS (Exa.neArv Y0 Y27 (H 70)) nin0)))), (Y4.keep K3 (ninS (Exa.ne Y0 Y19 (by decide)) (ninS (own_neArh Y0 Y28 (H 70)) (ninS (Exa.neArv Y0 Y27 (H 70)) nin0)))), (Y5.keep K3 (ninS (Exa.ne Y0 Y19 (by decide)) (ninS (own_neArh Y0 Y28 (H 70)) (ninS (Exa.neArv Y0 Y27 (H 70)) nin0)))), (Y6.keep K3 (ninS (Exa.ne Y0 Y19 (by decide)) (ninS (own_neArh Y0 Y28 (H 70)) (ninS (Exa.neArv Y0 Y27 (H 70)) nin0)))), (Y7.keep K3 (ninS (Exa.ne Y0 Y19 (by decide)) (ninS (own_neArh Y0 Y28 (H 70)) (ninS (Exa.neArv Y0 Y27 (H 70)) nin0)))), (Y8.keep K3 (ninS (Exa.ne Y0 Y19 (by decide)) (ninS (own_neArh Y0 Y28 (H 70)) (ninS (Exa.neArv Y0 Y27 (H 70)) nin0)))), (Y9.keep K3 (ninS (Exa.ne Y0 Y19 (by decide)) (ninS (own_neArh Y0 Y28 (H 70)) (ninS (Exa.neArv Y0 Y27 (H 70)) nin0)))), (Y10.keep K3 (ninS (Exa.ne Y0 Y19 (by decide)) (ninS (own_neArh Y0 Y28 (H 70)) (ninS (Exa.neArv Y0 Y27 (H 70)) nin0)))), (Y11.keep K3 (ninS (Exa.ne Y0 Y19 (by decide)) (ninS (own_neArh Y0 Y28 (H 70)) (ninS (Exa.neArv Y0 Y27 (H 70)) nin0)))), (Y12.keep K3 (ninS (Exa.ne Y0 Y19 (by decide)) (ninS (own_neArh Y0 Y28 (H 70)) (ninS (Exa.neArv Y0 Y27 (H 70)) nin0)))), (Y13.keep K3 (ninS (Exa.ne Y0 Y19 (by decide)) (ninS (own_neArh Y0 Y28 (H 70)) (ninS (Exa.neArv Y0 Y27 (H 70)) nin0))))⟩
  · refine oCN X12 K rfl (XT.ii_lt_f hc56) <| oA X12 K rfl rfl rfl <| oC (z := 1) X12 K rfl rfl ?_
    refine oPf (ty := .boolean) (v' := (.int 1)) X12 K rfl (H 402) e12 (Y13.keep K3 (ninS (Exa.ne Y0 Y19 (by decide)) (ninS (own_neArh Y0 Y28 (H 70)) (ninS (Exa.neArv Y0 Y27 (H 70)) nin0)))) (Y0.keep K3) (Or.inl (H 403)) (H 70) (by decide) rfl rfl N11 Y14 fun T19 h19 L19 N19 X19 e19 W19 Fw19 => ?_
    have R20 := own_rw R4 W19 (oSx K.wz (Y0.keep K3) (by decide))
    refine oA X19 K rfl rfl rfl ?_
    refine oUc X19 K rfl (H 409) (H 410) (H 411) (H 413) (H 412) (H 414) (H 109) (by decide) e19 (Exa.wr W19 (Y0.keep K3)) (own_seat hw (Nat.le_trans Z0 (Nat.le_trans K3.1 (Keep.of_wr W19).1)) (oFo W19 (Y1.keep K3 (ninS (Exa.ne Y0 Y19 (by decide)) (ninS (own_neArh Y0 Y28 (H 70)) (ninS (Exa.neArv Y0 Y27 (H 70)) nin0)))) (Or.inr (H 113)) (Or.inl (H 403)) (by decide))) rfl rfl (lenOf own_pd34 rfl) rfl N19 0 rfl (by decide) fun v22 T22 h22 L22 N22 q22 e22 X22 => ?_
    obtain ⟨rfl, y22⟩ := q22
    refine oGs X22 K rfl (H 372) (e22.trans y22) (Sta.ext (Old.wr (Old.keep hOld K3 (allS Y29 (allS Y32 (allS Y31 all0)))) W19 Y14).2 hq.sKR) fun T23 X23 e23 => ?_
    refine oA X23 K rfl rfl rfl ?_
    refine oVw X23 K hS0 (Nat.le_trans (Nat.le_trans (Nat.zero_le _) K3.1) (Keep.of_wr W19).1) hEL R20 rfl (H 415) (H 416) (notFace_of_selects (args := #[]) (mvT K.wz (H 418))) (H 418) (H 417) (H 419) (H 80) (by decide) e23 (Exa.wr W19 (Y15.keep K3)) (own_mul2 hw (Nat.le_trans Z0 (Nat.le_trans K3.1 (Keep.of_wr W19).1)) (Exa.wr W19 (Y15.keep K3)) (oFn W19 (Y16.keep K3 (ninS (Exa.ne Y15 Y19 (by decide)) (ninS (own_neArh Y15 Y28 (H 79)) (ninS (Exa.neArv Y15 Y27 (H 79)) nin0)))) (Exa.ne Y15 Y0 (by decide))) (oFn W19 (Y17.keep K3 (ninS (Exa.ne Y15 Y19 (by decide)) (ninS (own_neArh Y15 Y28 (H 79)) (ninS (Exa.neArv Y15 Y27 (H 79)) nin0)))) (Exa.ne Y15 Y0 (by decide))) (oFn W19 (Y18.keep K3 (ninS (Exa.ne Y15 Y19 (by decide)) (ninS (own_neArh Y15 Y28 (H 79)) (ninS (Exa.neArv Y15 Y27 (H 79)) nin0)))) (Exa.ne Y15 Y0 (by decide))) hn8 hsf hix hq (Old.wr (Old.keep hOld K3 (allS Y29 (allS Y32 (allS Y31 all0)))) W19 Y14)) rfl rfl (lenOf own_pd35 rfl) rfl N22 0 rfl (by decide) fun v29 T29 h29 L29 N29 q29 e29 X29 hS29 K R29 => ?_
    obtain ⟨ar24, ed25, ke26, hh27, rfl, K29, Y44, Y45, Y46, Y47, Y48, Y49, Y50, Y51, Y52⟩ := q29
    refine oSAn X29 K rfl rfl rfl <| oA X29 K rfl rfl rfl ?_
    refine oGf X29 K rfl (H 150) e29 ((oFo W19 (Y11.keep K3 (ninS (Exa.ne Y0 Y19 (by decide)) (ninS (own_neArh Y0 Y28 (H 70)) (ninS (Exa.neArv Y0 Y27 (H 70)) nin0)))) (Or.inl (H 151)) (Or.inl (H 403)) (by decide)).keep K29 nin0) fun T30 X30 e30 => ?_
    refine oA X30 K rfl rfl rfl ?_
    have z32 := (Nat.le_trans (Nat.le_trans K3.1 (Keep.of_wr W19).1) K29.1)
    refine oVc X30 K rfl (H 404) (H 405) (notFace_of_selects (args := #[]) (mvT K.wz (H 407))) (H 407) (H 406) (H 408) (H 133) (by decide) e30 ((Exa.wr W19 Y34).keep K29) (own_vcount hw (Nat.le_trans Z0 z32) ((Exa.wr W19 Y34).keep K29) ((oFn W19 Y38 (Exa.ne Y19 Y0 (by decide))).keep K29 nin0) ((oFn W19 Y35 (Exa.ne Y19 Y0 (by decide))).keep K29 nin0) ((oFn W19 Y36 (Exa.ne Y19 Y0 (by decide))).keep K29 nin0) ((Y40.other W19 (Ne.symm (Exa.neArv Y0 Y25 (H 70)))).keep K29 nin0) ((Y42.other W19 (Ne.symm (Exa.neArv Y0 Y27 (H 70)))).keep K29 nin0)) rfl rfl (lenOf own_pd23 rfl) rfl N29 0 rfl (by decide) fun v33 T33 h33 L33 N33 q33 e33 X33 => ?_
    obtain ⟨rfl, y33⟩ := q33
    refine oA X33 K rfl rfl rfl ?_
    refine oGf X33 K rfl (H 129) (e33.trans y33) ((oFo W19 (Y9.keep K3 (ninS (Exa.ne Y0 Y19 (by decide)) (ninS (own_neArh Y0 Y28 (H 70)) (ninS (Exa.neArv Y0 Y27 (H 70)) nin0)))) (Or.inr (H 130)) (Or.inl (H 403)) (by decide)).keep K29 nin0) fun T34 X34 e34 => ?_
    refine oCY X34 K rfl (XT.ii_lt_t hA2) <| oA X34 K rfl rfl rfl ?_
    refine oPc X34 K rfl (H 477) (H 478) (own_sel_64 hw) (H 479) (H 480) (H 37) (by decide) e34 ((Exa.wr W19 (Y0.keep K3)).keep K29) (own_tid0 hw (Nat.le_trans Z0 z32) ((Exa.wr W19 (Y0.keep K3)).keep K29) ((oFo W19 (Y5.keep K3 (ninS (Exa.ne Y0 Y19 (by decide)) (ninS (own_neArh Y0 Y28 (H 70)) (ninS (Exa.neArv Y0 Y27 (H 70)) nin0)))) (Or.inl (H 476)) (Or.inl (H 403)) (by decide)).keep K29 nin0) hq (Old.keep (Old.wr (Old.keep hOld K3 (allS Y29 (allS Y32 (allS Y31 all0)))) W19 Y14) K29 all0)) rfl rfl (lenOf own_pd0 rfl) rfl N33 0 rfl (by decide) fun v36 T36 h36 L36 N36 q36 e36 X36 => ?_
    obtain ⟨rfl, y36⟩ := q36
    refine oA X36 K rfl rfl rfl ?_
    exact oRaw X36 K rfl rfl rfl (e36.trans y36) N36 (by decide) hh hEL hS29 (Nat.le_refl _) R29 ⟨ar24, (1 : Int32), rfl, ((((Keep.refl _ _).trans K3 (allS (oM 1 rfl) (allS (oM 2 rfl) (allS (oM 3 rfl) all0)))).wr W19 (oM 0 rfl)).trans K29 all0), ((Exa.wr W19 (Y0.keep K3)).keep K29), ((oFo W19 (Y1.keep K3 (ninS (Exa.ne Y0 Y19 (by decide)) (ninS (own_neArh Y0 Y28 (H 70)) (ninS (Exa.neArv Y0 Y27 (H 70)) nin0)))) (Or.inr (H 113)) (Or.inl (H 403)) (by decide)).keep K29 nin0), ((oFo W19 (Y2.keep K3 (ninS (Exa.ne Y0 Y19 (by decide)) (ninS (own_neArh Y0 Y28 (H 70)) (ninS (Exa.neArv Y0 Y27 (H 70)) nin0)))) (Or.inr (H 117)) (Or.inl (H 403)) (by decide)).keep K29 nin0), ((oFo W19 (Y3.keep K3 (ninS (Exa.ne Y0 Y19 (by decide)) (ninS (own_neArh Y0 Y28 (H 70)) (ninS (Exa.neArv Y0 Y27 (H 70)) nin0)))) (Or.inl (H 348)) (Or.inl (H 403)) (by decide)).keep K29 nin0), ((oFo W19 (Y4.keep K3 (ninS (Exa.ne Y0 Y19 (by decide)) (ninS (own_neArh Y0 Y28 (H 70)) (ninS (Exa.neArv Y0 Y27 (H 70)) nin0)))) (Or.inl (H 350)) (Or.inl (H 403)) (by decide)).keep K29 nin0), ((oFo W19 (Y5.keep K3 (ninS (Exa.ne Y0 Y19 (by decide)) (ninS (own_neArh Y0 Y28 (H 70)) (ninS (Exa.neArv Y0 Y27 (H 70)) nin0)))) (Or.inl (H 476)) (Or.inl (H 403)) (by decide)).keep K29 nin0), ((oFo W19 (Y6.keep K3 (ninS (Exa.ne Y0 Y19 (by decide)) (ninS (own_neArh Y0 Y28 (H 70)) (ninS (Exa.neArv Y0 Y27 (H 70)) nin0)))) (Or.inr (H 121)) (Or.inl (H 403)) (by decide)).keep K29 nin0), ((oFo W19 (Y7.keep K3 (ninS (Exa.ne Y0 Y19 (by decide)) (ninS (own_neArh Y0 Y28 (H 70)) (ninS (Exa.neArv Y0 Y27 (H 70)) nin0)))) (Or.inr (H 126)) (Or.inl (H 403)) (by decide)).keep K29 nin0), ((oFo W19 (Y8.keep K3 (ninS (Exa.ne Y0 Y19 (by decide)) (ninS (own_neArh Y0 Y28 (H 70)) (ninS (Exa.neArv Y0 Y27 (H 70)) nin0)))) (Or.inr (H 128)) (Or.inl (H 403)) (by decide)).keep K29 nin0), ((oFo W19 (Y9.keep K3 (ninS (Exa.ne Y0 Y19 (by decide)) (ninS (own_neArh Y0 Y28 (H 70)) (ninS (Exa.neArv Y0 Y27 (H 70)) nin0)))) (Or.inr (H 130)) (Or.inl (H 403)) (by decide)).keep K29 nin0), ((oFo W19 (Y10.keep K3 (ninS (Exa.ne Y0 Y19 (by decide)) (ninS (own_neArh Y0 Y28 (H 70)) (ninS (Exa.neArv Y0 Y27 (H 70)) nin0)))) (Or.inl (H 149)) (Or.inl (H 403)) (by decide)).keep K29 nin0), ((oFo W19 (Y11.keep K3 (ninS (Exa.ne Y0 Y19 (by decide)) (ninS (own_neArh Y0 Y28 (H 70)) (ninS (Exa.neArv Y0 Y27 (H 70)) nin0)))) (Or.inl (H 151)) (Or.inl (H 403)) (by decide)).keep K29 nin0), ((oFo W19 (Y12.keep K3 (ninS (Exa.ne Y0 Y19 (by decide)) (ninS (own_neArh Y0 Y28 (H 70)) (ninS (Exa.neArv Y0 Y27 (H 70)) nin0)))) (Or.inl (H 153)) (Or.inl (H 403)) (by decide)).keep K29 nin0), (Fw19.keep K29 nin0)⟩
theorem own_rulA (hw : own_HW a0 Z) {a1 sd ec rd va ca co : Addr} {kva kca kco : ClassId} {nn vt sf ix p1 : Int32} {hs : List (Int32 × Value)} {v1 : Addr} {tt : Int32} {q : own_P0} (Z0 : n0 <= h0.size) (Y0 : Exa Z h0 a1 "convoke/protocol/Bracha") (Y1 : f13 Z h0 a1 (.ref sd)) (Y2 : f15 Z h0 a1 (.ref q.fKI)) (Y3 : f37 Z h0 a1 (.int 0)) (Y4 : f38 Z h0 a1 (.int 0)) (Y5 : f45 Z h0 a1 .null) (Y6 : f17 Z h0 a1 (.int 0)) (Y7 : f19 Z h0 a1 (.int (tt + (1 : Int32)))) (Y8 : f20 Z h0 a1 (.int (((2 : Int32) * tt) + (1 : Int32)))) (Y9 : f21 Z h0 a1 (.int (((2 : Int32) * tt) + (1 : Int32)))) (Y10 : f25 Z h0 a1 (.ref ec)) (Y11 : f26 Z h0 a1 (.ref rd)) (Y12 : f27 Z h0 a1 .null) (Y13 : f41 Z h0 a1 (.int 0)) (Y14 : n0 <= a1) (Y15 : Exa Z h0 sd "convoke/protocol/Seat") (Y16 : f10 Z h0 sd (.int nn)) (Y17 : f11 Z h0 sd (.int sf)) (Y18 : f12 Z h0 sd (.int ix)) (Y19 : Exa Z h0 rd "convoke/protocol/Votes") (Y20 : f22 Z h0 rd (.ref va)) (Y21 : f23 Z h0 rd (.ref ca)) (Y22 : f24 Z h0 rd (.ref co)) (Y23 : f40 Z h0 rd (.int 0)) (Y24 : f39 Z h0 rd (.int vt)) (Y25 : Arv Z h0 va kva (.object "convoke/model/Value") (1 : Int32) [.null] .null) (Y26 : Ovr Z kva "convoke/model/Value") (Y27 : Arv Z h0 ca kca .int 1 [(.int 0)] (.int 0)) (Y28 : Arh Z h0 co kco .boolean (nn + (1 : Int32)) hs [] (.int 0)) (Y29 : n0 <= rd) (Y30 : n0 <= va) (Y31 : n0 <= ca) (Y32 : n0 <= co) (hp1 : ¬ (p1 < (1 : Int32))) (hp2 : ¬ (nn < p1)) (hn8 : 1 <= nn.toInt /\ nn.toInt <= 8) (hsf : ¬ (sf < (1 : Int32))) (hix : ¬ (ix < (1 : Int32))) (Y33 : Exa Z h0 v1 "convoke/model/Value") (hg : getH hs [] (.int 0) p1.toNatClampNeg = .int 0) (hA1 : (1 : Int32) < (tt + (1 : Int32))) (hA2 : (1 : Int32) < (((2 : Int32) * tt) + (1 : Int32))) (hq : own_Env Z q) (hOld : Old Z n0 h0) : own_M l ⟨"convoke/protocol/Bracha", "rule", "(Lconvoke/model/Message$Kind;ILconvoke/model/Value;)Ljava/util/List;"⟩ prog_62_method_6_code 5 (some (.object "java/util/List")) ⟨5, 0, 0, 65⟩ ws Z h0 n0 #[(.ref a1), (.ref q.fKR), (.int p1), (.ref v1)] (fun v h => (v = some (.ref q.fEL) /\ Keep h0 h [rd, co, va, ca] /\ (Exa Z h rd "convoke/protocol/Votes") /\ (f22 Z h rd (.ref va)) /\ (f23 Z h rd (.ref ca)) /\ (f24 Z h rd (.ref co)) /\ (f40 Z h rd (.int 1)) /\ (f39 Z h rd (.int (vt + (1 : Int32)))) /\ (Arv Z h va kva (.object "convoke/model/Value") (1 : Int32) [(.ref v1)] .null) /\ (Ovr Z kva "convoke/model/Value") /\ (Arv Z h ca kca .int 1 [(.int 1)] (.int 0)) /\ (Arh Z h co kco .boolean (nn + (1 : Int32)) ((p1, .int 1) :: hs) [] (.int 0)))) := by
  refine own_beg (plainFor_of_name own_pn5) own_t48 #[.val (.ref a1), .val (.ref q.fKR), .val (.int p1), .val (.ref v1), .unset] (own_e4_5 · ⟨rfl, rfl, rfl, rfl⟩) fun p e s m below meth c sa K X0 e0 => ?_
  have N0 := Fr.nil n0
  have H := oh hw
  refine oA X0 K rfl rfl rfl ?_
  refine oGs X0 K rfl (H 104) e0 (Sta.ext hOld.2 hq.sKE) fun T1 X1 e1 => ?_
  refine own_fs (Jvm.RoadKit.acmp (g := (mkF m 4 #[.val (.ref a1), .val (.ref q.fKR), .val (.int p1), .val (.ref v1), .unset] [(.ref q.fKE), (.ref q.fKR)])) X1 K.1 rfl rfl rfl (pc0 := 4) (pc' := 18) (same := false) rfl (K.d rfl) rfl (decide_eq_false (fun q => (Ne.symm hq.nKE) (Value.ref.inj q))) (by decide) (by decide) (Steps.refl _)) ?_
  show own_G _ _ _ _ (T1.setTop (mkF m 18 #[.val (.ref a1), .val (.ref q.fKR), .val (.int p1), .val (.ref v1), .unset] []))
  refine oA X1 K rfl rfl rfl ?_
  refine oGs X1 K rfl (H 372) e1 (Sta.ext hOld.2 hq.sKR) fun T2 X2 e2 => ?_
  refine own_fs (Jvm.RoadKit.acmp (g := (mkF m 22 #[.val (.ref a1), .val (.ref q.fKR), .val (.int p1), .val (.ref v1), .unset] [(.ref q.fKR), (.ref q.fKR)])) X2 K.1 rfl rfl rfl (pc0 := 22) (pc' := 25) (same := true) rfl (K.d rfl) rfl (decide_eq_true (congrArg Value.ref rfl)) (by decide) (by decide) (Steps.refl _)) ?_
  show own_G _ _ _ _ (T2.setTop (mkF m 25 #[.val (.ref a1), .val (.ref q.fKR), .val (.int p1), .val (.ref v1), .unset] []))
  refine oA X2 K rfl rfl rfl <| oI X2 K rfl rfl <| oA X2 K rfl rfl rfl ?_
  refine oPc X2 K rfl (H 373) (H 374) (own_sel_49 hw) (H 375) (H 376) (H 37) (by decide) e2 Y0 (own_onrA hw Z0 (tt := tt) Y0 Y1 Y2 Y3 Y4 Y5 Y6 Y7 Y8 Y9 Y10 Y11 Y12 Y13 Y14 Y15 Y16 Y17 Y18 Y19 Y20 Y21 Y22 Y23 Y24 Y25 Y26 Y27 Y28 Y29 Y30 Y31 Y32 hp1 hp2 hn8 hsf hix Y33 hg hA1 hA2 hq hOld) rfl rfl (lenOf own_pd37 rfl) rfl N0 0 rfl (by decide) fun v4 T4 h4 L4 N4 q4 e4 X4 => ?_
  obtain ⟨rfl, K4, Y34, Y35, Y36, Y37, Y38, Y39, Y40, Y41, Y42, Y43⟩ := q4
  refine oSA X4 K rfl rfl rfl <| oGo X4 K rfl <| oB X4 K rfl rfl rfl ?_
  exact oRa X4 K rfl rfl rfl e4 N4 (by decide) ⟨rfl, ((Keep.refl _ _).trans K4 (allS (oM 0 rfl) (allS (oM 1 rfl) (allS (oM 2 rfl) (allS (oM 3 rfl) all0))))), Y34, Y35, Y36, Y37, Y38, Y39, Y40, Y41, Y42, Y43⟩
theorem own_rulB (hw : own_HW a0 Z) {a1 sd ec rd va ca co : Addr} {kva kca kco : ClassId} {nn vt sf ix p1 : Int32} {hs : List (Int32 × Value)} {v1 : Addr} {q : own_P0} (Z0 : n0 <= h0.size) (Y0 : Exa Z h0 a1 "convoke/protocol/Bracha") (Y1 : f13 Z h0 a1 (.ref sd)) (Y2 : f15 Z h0 a1 (.ref q.fKI)) (Y3 : f37 Z h0 a1 (.int 0)) (Y4 : f38 Z h0 a1 (.int 0)) (Y5 : f45 Z h0 a1 .null) (Y6 : f17 Z h0 a1 (.int 0)) (Y7 : f19 Z h0 a1 (.int 1)) (Y8 : f20 Z h0 a1 (.int 1)) (Y9 : f21 Z h0 a1 (.int 1)) (Y10 : f25 Z h0 a1 (.ref ec)) (Y11 : f26 Z h0 a1 (.ref rd)) (Y12 : f27 Z h0 a1 .null) (Y13 : f41 Z h0 a1 (.int 0)) (Y14 : n0 <= a1) (Y15 : Exa Z h0 sd "convoke/protocol/Seat") (Y16 : f10 Z h0 sd (.int nn)) (Y17 : f11 Z h0 sd (.int sf)) (Y18 : f12 Z h0 sd (.int ix)) (Y19 : Exa Z h0 rd "convoke/protocol/Votes") (Y20 : f22 Z h0 rd (.ref va)) (Y21 : f23 Z h0 rd (.ref ca)) (Y22 : f24 Z h0 rd (.ref co)) (Y23 : f40 Z h0 rd (.int 0)) (Y24 : f39 Z h0 rd (.int vt)) (Y25 : Arv Z h0 va kva (.object "convoke/model/Value") (1 : Int32) [.null] .null) (Y26 : Ovr Z kva "convoke/model/Value") (Y27 : Arv Z h0 ca kca .int 1 [(.int 0)] (.int 0)) (Y28 : Arh Z h0 co kco .boolean (nn + (1 : Int32)) hs [] (.int 0)) (Y29 : n0 <= rd) (Y30 : n0 <= va) (Y31 : n0 <= ca) (Y32 : n0 <= co) (hp1 : ¬ (p1 < (1 : Int32))) (hp2 : ¬ (nn < p1)) (hn8 : 1 <= nn.toInt /\ nn.toInt <= 8) (hsf : ¬ (sf < (1 : Int32))) (hix : ¬ (ix < (1 : Int32))) (Y33 : Exa Z h0 v1 "convoke/model/Value") (hg : getH hs [] (.int 0) p1.toNatClampNeg = .int 0) (hq : own_Env Z q) (hOld : Old Z n0 h0) : own_MW own_EL l ⟨"convoke/protocol/Bracha", "rule", "(Lconvoke/model/Message$Kind;ILconvoke/model/Value;)Ljava/util/List;"⟩ prog_62_method_6_code 5 (some (.object "java/util/List")) ⟨7, 43, 404, 97⟩ ws Z h0 n0 #[(.ref a1), (.ref q.fKR), (.int p1), (.ref v1)] (fun v h => ∃ ar : Addr, ∃ ed : Addr, ∃ ke : ClassId, ∃ hh : List (Int32 × Value), (v = some (.ref ar) /\ Keep h0 h [a1, rd, co, va, ca] /\ (Exa Z h a1 "convoke/protocol/Bracha") /\ (f13 Z h a1 (.ref sd)) /\ (f15 Z h a1 (.ref q.fKI)) /\ (f37 Z h a1 (.int 1)) /\ (f38 Z h a1 (.int 0)) /\ (f45 Z h a1 (.ref v1)) /\ (f17 Z h a1 (.int 0)) /\ (f19 Z h a1 (.int 1)) /\ (f20 Z h a1 (.int 1)) /\ (f21 Z h a1 (.int 1)) /\ (f25 Z h a1 .null) /\ (f26 Z h a1 .null) /\ (f27 Z h a1 .null) /\ (f41 Z h a1 (.int 1)) /\ (Exa Z h ar "java/util/ArrayList") /\ (f43 Z h ar (.ref ed)) /\ (f44 Z h ar (.int nn)) /\ (Arh Z h ed ke (.object "java/lang/Object") nn hh [] .null) /\ (Ovr Z ke "java/lang/Object") /\ (h0.size <= ar) /\ (h0.size <= ed) /\ (Exa Z h ed "[Ljava/lang/Object;") /\ (own_Els Z h hh))) := by
  refine own_begW (plainFor_of_name own_pn5) own_t48 #[.val (.ref a1), .val (.ref q.fKR), .val (.int p1), .val (.ref v1), .unset] (own_e4_5 · ⟨rfl, rfl, rfl, rfl⟩) fun p e s m below meth c sa K X0 e0 hh hS0 R0 => ?_
  have N0 := Fr.nil n0
  have H := oh hw
  have hEL := own_ew hw
  refine oA X0 K rfl rfl rfl ?_
  refine oGs X0 K rfl (H 104) e0 (Sta.ext hOld.2 hq.sKE) fun T1 X1 e1 => ?_
  refine own_fs (Jvm.RoadKit.acmp (g := (mkF m 4 #[.val (.ref a1), .val (.ref q.fKR), .val (.int p1), .val (.ref v1), .unset] [(.ref q.fKE), (.ref q.fKR)])) X1 K.1 rfl rfl rfl (pc0 := 4) (pc' := 18) (same := false) rfl (K.d rfl) rfl (decide_eq_false (fun q => (Ne.symm hq.nKE) (Value.ref.inj q))) (by decide) (by decide) (Steps.refl _)) ?_
  show own_G _ _ _ _ (T1.setTop (mkF m 18 #[.val (.ref a1), .val (.ref q.fKR), .val (.int p1), .val (.ref v1), .unset] []))
  refine oA X1 K rfl rfl rfl ?_
  refine oGs X1 K rfl (H 372) e1 (Sta.ext hOld.2 hq.sKR) fun T2 X2 e2 => ?_
  refine own_fs (Jvm.RoadKit.acmp (g := (mkF m 22 #[.val (.ref a1), .val (.ref q.fKR), .val (.int p1), .val (.ref v1), .unset] [(.ref q.fKR), (.ref q.fKR)])) X2 K.1 rfl rfl rfl (pc0 := 22) (pc' := 25) (same := true) rfl (K.d rfl) rfl (decide_eq_true (congrArg Value.ref rfl)) (by decide) (by decide) (Steps.refl _)) ?_
  show own_G _ _ _ _ (T2.setTop (mkF m 25 #[.val (.ref a1), .val (.ref q.fKR), .val (.int p1), .val (.ref v1), .unset] []))
  refine oA X2 K rfl rfl rfl <| oI X2 K rfl rfl <| oA X2 K rfl rfl rfl ?_
  refine oPw X2 K hS0 (Nat.zero_le _) hEL R0 rfl (H 373) (H 374) (own_sel_49 hw) (H 375) (H 376) (H 37) (by decide) e2 Y0 (own_onrB hw Z0 Y0 Y1 Y2 Y3 Y4 Y5 Y6 Y7 Y8 Y9 Y10 Y11 Y12 Y13 Y14 Y15 Y16 Y17 Y18 Y19 Y20 Y21 Y22 Y23 Y24 Y25 Y26 Y27 Y28 Y29 Y30 Y31 Y32 hp1 hp2 hn8 hsf hix Y33 hg hq hOld) rfl rfl (lenOf own_pd37 rfl) rfl N0 0 rfl (by decide) fun v8 T8 h8 L8 N8 q8 e8 X8 hS8 K R8 => ?_
  obtain ⟨ar3, ed4, ke5, hh6, rfl, K8, Y34, Y35, Y36, Y37, Y38, Y39, Y40, Y41, Y42, Y43, Y44, Y45, Y46, Y47, Y48, Y49, Y50, Y51, Y52, Y53, Y54, Y55, Y56⟩ := q8
  have Y57 := Y53
  have Y58 := Y54
  refine oSA X8 K rfl rfl rfl <| oGo X8 K rfl <| oB X8 K rfl rfl rfl ?_
  exact oRaw X8 K rfl rfl rfl e8 N8 (by decide) hh hEL hS8 (Nat.le_refl _) R8 ⟨ar3, ed4, ke5, hh6, rfl, ((Keep.refl _ _).trans K8 (allS (oM 0 rfl) (allS (oM 1 rfl) (allS (oM 2 rfl) (allS (oM 3 rfl) (allS (oM 4 rfl) all0)))))), Y34, Y35, Y36, Y37, Y38, Y39, Y40, Y41, Y42, Y43, Y44, Y45, Y46, Y47, Y48, Y49, Y50, Y51, Y52, Y57, Y58, Y55, Y56⟩
theorem own_rulC (hw : own_HW a0 Z) {a1 sd ec rd va ca co : Addr} {kva kca kco : ClassId} {nn vt sf ix p1 : Int32} {hs : List (Int32 × Value)} {v1 : Addr} {tt : Int32} {q : own_P0} (Z0 : n0 <= h0.size) (Y0 : Exa Z h0 a1 "convoke/protocol/Bracha") (Y1 : f13 Z h0 a1 (.ref sd)) (Y2 : f15 Z h0 a1 (.ref q.fKI)) (Y3 : f37 Z h0 a1 (.int 0)) (Y4 : f38 Z h0 a1 (.int 0)) (Y5 : f45 Z h0 a1 .null) (Y6 : f17 Z h0 a1 (.int 0)) (Y7 : f19 Z h0 a1 (.int (tt + (1 : Int32)))) (Y8 : f20 Z h0 a1 (.int (((2 : Int32) * tt) + (1 : Int32)))) (Y9 : f21 Z h0 a1 (.int (((2 : Int32) * tt) + (1 : Int32)))) (Y10 : f25 Z h0 a1 (.ref ec)) (Y11 : f26 Z h0 a1 (.ref rd)) (Y12 : f27 Z h0 a1 .null) (Y13 : f41 Z h0 a1 (.int 0)) (Y14 : n0 <= a1) (Y15 : Exa Z h0 sd "convoke/protocol/Seat") (Y16 : f10 Z h0 sd (.int nn)) (Y17 : f11 Z h0 sd (.int sf)) (Y18 : f12 Z h0 sd (.int ix)) (Y19 : Exa Z h0 rd "convoke/protocol/Votes") (Y20 : f22 Z h0 rd (.ref va)) (Y21 : f23 Z h0 rd (.ref ca)) (Y22 : f24 Z h0 rd (.ref co)) (Y23 : f40 Z h0 rd (.int 1)) (Y24 : f39 Z h0 rd (.int vt)) (Y25 : Arv Z h0 va kva (.object "convoke/model/Value") (1 : Int32) [(.ref v1)] .null) (Y26 : Ovr Z kva "convoke/model/Value") (Y27 : Arv Z h0 ca kca .int 1 [(.int 1)] (.int 0)) (Y28 : Arh Z h0 co kco .boolean (nn + (1 : Int32)) hs [] (.int 0)) (Y29 : n0 <= rd) (Y30 : n0 <= va) (Y31 : n0 <= ca) (Y32 : n0 <= co) (hp1 : ¬ (p1 < (1 : Int32))) (hp2 : ¬ (nn < p1)) (hn8 : 1 <= nn.toInt /\ nn.toInt <= 8) (hsf : ¬ (sf < (1 : Int32))) (hix : ¬ (ix < (1 : Int32))) (Y33 : Exa Z h0 v1 "convoke/model/Value") (hg : getH hs [] (.int 0) p1.toNatClampNeg = .int 1) (hq : own_Env Z q) (hOld : Old Z n0 h0) : own_M l ⟨"convoke/protocol/Bracha", "rule", "(Lconvoke/model/Message$Kind;ILconvoke/model/Value;)Ljava/util/List;"⟩ prog_62_method_6_code 5 (some (.object "java/util/List")) ⟨3, 0, 0, 43⟩ ws Z h0 n0 #[(.ref a1), (.ref q.fKR), (.int p1), (.ref v1)] (fun v h => (v = some (.ref q.fEL) /\ h = h0)) := by
  refine own_beg (plainFor_of_name own_pn5) own_t48 #[.val (.ref a1), .val (.ref q.fKR), .val (.int p1), .val (.ref v1), .unset] (own_e4_5 · ⟨rfl, rfl, rfl, rfl⟩) fun p e s m below meth c sa K X0 e0 => ?_
  have N0 := Fr.nil n0
  have H := oh hw
  refine oA X0 K rfl rfl rfl ?_
  refine oGs X0 K rfl (H 104) e0 (Sta.ext hOld.2 hq.sKE) fun T1 X1 e1 => ?_
  refine own_fs (Jvm.RoadKit.acmp (g := (mkF m 4 #[.val (.ref a1), .val (.ref q.fKR), .val (.int p1), .val (.ref v1), .unset] [(.ref q.fKE), (.ref q.fKR)])) X1 K.1 rfl rfl rfl (pc0 := 4) (pc' := 18) (same := false) rfl (K.d rfl) rfl (decide_eq_false (fun q => (Ne.symm hq.nKE) (Value.ref.inj q))) (by decide) (by decide) (Steps.refl _)) ?_
  show own_G _ _ _ _ (T1.setTop (mkF m 18 #[.val (.ref a1), .val (.ref q.fKR), .val (.int p1), .val (.ref v1), .unset] []))
  refine oA X1 K rfl rfl rfl ?_
  refine oGs X1 K rfl (H 372) e1 (Sta.ext hOld.2 hq.sKR) fun T2 X2 e2 => ?_
  refine own_fs (Jvm.RoadKit.acmp (g := (mkF m 22 #[.val (.ref a1), .val (.ref q.fKR), .val (.int p1), .val (.ref v1), .unset] [(.ref q.fKR), (.ref q.fKR)])) X2 K.1 rfl rfl rfl (pc0 := 22) (pc' := 25) (same := true) rfl (K.d rfl) rfl (decide_eq_true (congrArg Value.ref rfl)) (by decide) (by decide) (Steps.refl _)) ?_
  show own_G _ _ _ _ (T2.setTop (mkF m 25 #[.val (.ref a1), .val (.ref q.fKR), .val (.int p1), .val (.ref v1), .unset] []))
  refine oA X2 K rfl rfl rfl <| oI X2 K rfl rfl <| oA X2 K rfl rfl rfl ?_
  refine oPc X2 K rfl (H 373) (H 374) (own_sel_49 hw) (H 375) (H 376) (H 37) (by decide) e2 Y0 (own_onrC hw Z0 (tt := tt) Y0 Y1 Y2 Y3 Y4 Y5 Y6 Y7 Y8 Y9 Y10 Y11 Y12 Y13 Y14 Y15 Y16 Y17 Y18 Y19 Y20 Y21 Y22 Y23 Y24 Y25 Y26 Y27 Y28 Y29 Y30 Y31 Y32 hp1 hp2 hn8 hsf hix Y33 hg hq hOld) rfl rfl (lenOf own_pd37 rfl) rfl N0 0 rfl (by decide) fun v4 T4 h4 L4 N4 q4 e4 X4 => ?_
  obtain ⟨rfl, y4⟩ := q4
  refine oSA X4 K rfl rfl rfl <| oGo X4 K rfl <| oB X4 K rfl rfl rfl ?_
  exact oRa X4 K rfl rfl rfl (e4.trans y4) N4 (by decide) ⟨rfl, rfl⟩
theorem own_rulD (hw : own_HW a0 Z) {a1 sd ec rd va ca co : Addr} {kva kca kco : ClassId} {nn vt sf ix p1 : Int32} {hs : List (Int32 × Value)} {v1 : Addr} {tt : Int32} {q : own_P0} (Z0 : n0 <= h0.size) (Y0 : Exa Z h0 a1 "convoke/protocol/Bracha") (Y1 : f13 Z h0 a1 (.ref sd)) (Y2 : f15 Z h0 a1 (.ref q.fKI)) (Y3 : f37 Z h0 a1 (.int 0)) (Y4 : f38 Z h0 a1 (.int 0)) (Y5 : f45 Z h0 a1 .null) (Y6 : f17 Z h0 a1 (.int 0)) (Y7 : f19 Z h0 a1 (.int (tt + (1 : Int32)))) (Y8 : f20 Z h0 a1 (.int (((2 : Int32) * tt) + (1 : Int32)))) (Y9 : f21 Z h0 a1 (.int (((2 : Int32) * tt) + (1 : Int32)))) (Y10 : f25 Z h0 a1 (.ref ec)) (Y11 : f26 Z h0 a1 (.ref rd)) (Y12 : f27 Z h0 a1 .null) (Y13 : f41 Z h0 a1 (.int 0)) (Y14 : n0 <= a1) (Y15 : Exa Z h0 sd "convoke/protocol/Seat") (Y16 : f10 Z h0 sd (.int nn)) (Y17 : f11 Z h0 sd (.int sf)) (Y18 : f12 Z h0 sd (.int ix)) (Y19 : Exa Z h0 rd "convoke/protocol/Votes") (Y20 : f22 Z h0 rd (.ref va)) (Y21 : f23 Z h0 rd (.ref ca)) (Y22 : f24 Z h0 rd (.ref co)) (Y23 : f40 Z h0 rd (.int 1)) (Y24 : f39 Z h0 rd (.int vt)) (Y25 : Arv Z h0 va kva (.object "convoke/model/Value") (1 : Int32) [(.ref v1)] .null) (Y26 : Ovr Z kva "convoke/model/Value") (Y27 : Arv Z h0 ca kca .int 1 [(.int 1)] (.int 0)) (Y28 : Arh Z h0 co kco .boolean (nn + (1 : Int32)) hs [] (.int 0)) (Y29 : n0 <= rd) (Y30 : n0 <= va) (Y31 : n0 <= ca) (Y32 : n0 <= co) (hp1 : ¬ (p1 < (1 : Int32))) (hp2 : ¬ (nn < p1)) (hn8 : 1 <= nn.toInt /\ nn.toInt <= 8) (hsf : ¬ (sf < (1 : Int32))) (hix : ¬ (ix < (1 : Int32))) (Y33 : Exa Z h0 v1 "convoke/model/Value") (hg : getH hs [] (.int 0) p1.toNatClampNeg = .int 0) (hA2 : (2 : Int32) < (((2 : Int32) * tt) + (1 : Int32))) (hq : own_Env Z q) (hOld : Old Z n0 h0) : own_MW own_EL l ⟨"convoke/protocol/Bracha", "rule", "(Lconvoke/model/Message$Kind;ILconvoke/model/Value;)Ljava/util/List;"⟩ prog_62_method_6_code 5 (some (.object "java/util/List")) ⟨7, 42, 403, 97⟩ ws Z h0 n0 #[(.ref a1), (.ref q.fKR), (.int p1), (.ref v1)] (fun v h => ∃ ar : Addr, ∃ rs : Int32, (v = some (.ref ar) /\ Keep h0 h [a1, rd, co, ca] /\ (Exa Z h a1 "convoke/protocol/Bracha") /\ (f13 Z h a1 (.ref sd)) /\ (f15 Z h a1 (.ref q.fKI)) /\ (f37 Z h a1 (.int 0)) /\ (f38 Z h a1 (.int 0)) /\ (f45 Z h a1 .null) /\ (f17 Z h a1 (.int 0)) /\ (f19 Z h a1 (.int (tt + (1 : Int32)))) /\ (f20 Z h a1 (.int (((2 : Int32) * tt) + (1 : Int32)))) /\ (f21 Z h a1 (.int (((2 : Int32) * tt) + (1 : Int32)))) /\ (f25 Z h a1 (.ref ec)) /\ (f26 Z h a1 (.ref rd)) /\ (f27 Z h a1 .null) /\ (f41 Z h a1 (.int rs)))) := by
  refine own_begW (plainFor_of_name own_pn5) own_t48 #[.val (.ref a1), .val (.ref q.fKR), .val (.int p1), .val (.ref v1), .unset] (own_e4_5 · ⟨rfl, rfl, rfl, rfl⟩) fun p e s m below meth c sa K X0 e0 hh hS0 R0 => ?_
  have N0 := Fr.nil n0
  have H := oh hw
  have hEL := own_ew hw
  refine oA X0 K rfl rfl rfl ?_
  refine oGs X0 K rfl (H 104) e0 (Sta.ext hOld.2 hq.sKE) fun T1 X1 e1 => ?_
  refine own_fs (Jvm.RoadKit.acmp (g := (mkF m 4 #[.val (.ref a1), .val (.ref q.fKR), .val (.int p1), .val (.ref v1), .unset] [(.ref q.fKE), (.ref q.fKR)])) X1 K.1 rfl rfl rfl (pc0 := 4) (pc' := 18) (same := false) rfl (K.d rfl) rfl (decide_eq_false (fun q => (Ne.symm hq.nKE) (Value.ref.inj q))) (by decide) (by decide) (Steps.refl _)) ?_
  show own_G _ _ _ _ (T1.setTop (mkF m 18 #[.val (.ref a1), .val (.ref q.fKR), .val (.int p1), .val (.ref v1), .unset] []))
  refine oA X1 K rfl rfl rfl ?_
  refine oGs X1 K rfl (H 372) e1 (Sta.ext hOld.2 hq.sKR) fun T2 X2 e2 => ?_
  refine own_fs (Jvm.RoadKit.acmp (g := (mkF m 22 #[.val (.ref a1), .val (.ref q.fKR), .val (.int p1), .val (.ref v1), .unset] [(.ref q.fKR), (.ref q.fKR)])) X2 K.1 rfl rfl rfl (pc0 := 22) (pc' := 25) (same := true) rfl (K.d rfl) rfl (decide_eq_true (congrArg Value.ref rfl)) (by decide) (by decide) (Steps.refl _)) ?_
  show own_G _ _ _ _ (T2.setTop (mkF m 25 #[.val (.ref a1), .val (.ref q.fKR), .val (.int p1), .val (.ref v1), .unset] []))
  refine oA X2 K rfl rfl rfl <| oI X2 K rfl rfl <| oA X2 K rfl rfl rfl ?_
  refine oPw X2 K hS0 (Nat.zero_le _) hEL R0 rfl (H 373) (H 374) (own_sel_49 hw) (H 375) (H 376) (H 37) (by decide) e2 Y0 (own_onrD hw Z0 (tt := tt) Y0 Y1 Y2 Y3 Y4 Y5 Y6 Y7 Y8 Y9 Y10 Y11 Y12 Y13 Y14 Y15 Y16 Y17 Y18 Y19 Y20 Y21 Y22 Y23 Y24 Y25 Y26 Y27 Y28 Y29 Y30 Y31 Y32 hp1 hp2 hn8 hsf hix Y33 hg hA2 hq hOld) rfl rfl (lenOf own_pd37 rfl) rfl N0 0 rfl (by decide) fun v6 T6 h6 L6 N6 q6 e6 X6 hS6 K R6 => ?_
  obtain ⟨ar3, rs4, rfl, K6, Y34, Y35, Y36, Y37, Y38, Y39, Y40, Y41, Y42, Y43, Y44, Y45, Y46, Y47⟩ := q6
  refine oSA X6 K rfl rfl rfl <| oGo X6 K rfl <| oB X6 K rfl rfl rfl ?_
  exact oRaw X6 K rfl rfl rfl e6 N6 (by decide) hh hEL hS6 (Nat.le_refl _) R6 ⟨ar3, rs4, rfl, ((Keep.refl _ _).trans K6 (allS (oM 0 rfl) (allS (oM 1 rfl) (allS (oM 2 rfl) (allS (oM 3 rfl) all0))))), Y34, Y35, Y36, Y37, Y38, Y39, Y40, Y41, Y42, Y43, Y44, Y45, Y46, Y47⟩
theorem own_hanA (hw : own_HW a0 Z) {a1 sd ec rd va ca co : Addr} {kva kca kco : ClassId} {nn vt sf ix p1 : Int32} {hs : List (Int32 × Value)} {v1 : Addr} {tt : Int32} {q : own_P0} {m1 : Addr} (Z0 : n0 <= h0.size) (Y0 : Exa Z h0 a1 "convoke/protocol/Bracha") (Y1 : f13 Z h0 a1 (.ref sd)) (Y2 : f15 Z h0 a1 (.ref q.fKI)) (Y3 : f37 Z h0 a1 (.int 0)) (Y4 : f38 Z h0 a1 (.int 0)) (Y5 : f45 Z h0 a1 .null) (Y6 : f17 Z h0 a1 (.int 0)) (Y7 : f19 Z h0 a1 (.int (tt + (1 : Int32)))) (Y8 : f20 Z h0 a1 (.int (((2 : Int32) * tt) + (1 : Int32)))) (Y9 : f21 Z h0 a1 (.int (((2 : Int32) * tt) + (1 : Int32)))) (Y10 : f25 Z h0 a1 (.ref ec)) (Y11 : f26 Z h0 a1 (.ref rd)) (Y12 : f27 Z h0 a1 .null) (Y13 : f41 Z h0 a1 (.int 0)) (Y14 : n0 <= a1) (Y15 : Exa Z h0 sd "convoke/protocol/Seat") (Y16 : f10 Z h0 sd (.int nn)) (Y17 : f11 Z h0 sd (.int sf)) (Y18 : f12 Z h0 sd (.int ix)) (Y19 : Exa Z h0 rd "convoke/protocol/Votes") (Y20 : f22 Z h0 rd (.ref va)) (Y21 : f23 Z h0 rd (.ref ca)) (Y22 : f24 Z h0 rd (.ref co)) (Y23 : f40 Z h0 rd (.int 0)) (Y24 : f39 Z h0 rd (.int vt)) (Y25 : Arv Z h0 va kva (.object "convoke/model/Value") (1 : Int32) [.null] .null) (Y26 : Ovr Z kva "convoke/model/Value") (Y27 : Arv Z h0 ca kca .int 1 [(.int 0)] (.int 0)) (Y28 : Arh Z h0 co kco .boolean (nn + (1 : Int32)) hs [] (.int 0)) (Y29 : n0 <= rd) (Y30 : n0 <= va) (Y31 : n0 <= ca) (Y32 : n0 <= co) (hp1 : ¬ (p1 < (1 : Int32))) (hp2 : ¬ (nn < p1)) (hn8 : 1 <= nn.toInt /\ nn.toInt <= 8) (hsf : ¬ (sf < (1 : Int32))) (hix : ¬ (ix < (1 : Int32))) (Y33 : Exa Z h0 v1 "convoke/model/Value") (hg : getH hs [] (.int 0) p1.toNatClampNeg = .int 0) (hA1 : (1 : Int32) < (tt + (1 : Int32))) (hA2 : (1 : Int32) < (((2 : Int32) * tt) + (1 : Int32))) (hq : own_Env Z q) (hOld : Old Z n0 h0) (Y34 : Exa Z h0 m1 "convoke/model/Message") (Y35 : f34 Z h0 m1 (.ref q.fKR)) (Y36 : f31 Z h0 m1 (.int p1)) (Y37 : f35 Z h0 m1 (.ref v1)) : own_M l ⟨"convoke/protocol/BrachaFamily", "handle", "(Lconvoke/model/Message;)Ljava/util/List;"⟩ prog_63_method_5_code 3 (some (.object "java/util/List")) ⟨6, 0, 0, 81⟩ ws Z h0 n0 #[(.ref a1), (.ref m1)] (fun v h => (v = some (.ref q.fEL) /\ Keep h0 h [rd, co, va, ca] /\ (Exa Z h rd "convoke/protocol/Votes") /\ (f22 Z h rd (.ref va)) /\ (f23 Z h rd (.ref ca)) /\ (f24 Z h rd (.ref co)) /\ (f40 Z h rd (.int 1)) /\ (f39 Z h rd (.int (vt + (1 : Int32)))) /\ (Arv Z h va kva (.object "convoke/model/Value") (1 : Int32) [(.ref v1)] .null) /\ (Ovr Z kva "convoke/model/Value") /\ (Arv Z h ca kca .int 1 [(.int 1)] (.int 0)) /\ (Arh Z h co kco .boolean (nn + (1 : Int32)) ((p1, .int 1) :: hs) [] (.int 0)))) := by
  refine own_beg (plainFor_of_name own_pn8) own_t44 #[.val (.ref a1), .val (.ref m1), .unset] (own_e2_3 · ⟨rfl, rfl⟩) fun p e s m below meth c sa K X0 e0 => ?_
  have N0 := Fr.nil n0
  have H := oh hw
  refine oA X0 K rfl rfl rfl ?_
  refine oPc X0 K rfl (H 343) (H 344) (own_sel_45 hw) (H 345) (H 346) (H 109) (by decide) e0 Y0 (own_stopped hw Z0 Y0 Y3 Y4) rfl rfl (lenOf own_pd9 rfl) rfl N0 0 rfl (by decide) fun v2 T2 h2 L2 N2 q2 e2 X2 => ?_
  obtain ⟨rfl, y2⟩ := q2
  refine oFY X2 K rfl (XT.i0_eq_t (by decide : (0 : Int32) = (0 : Int32))) <| oA X2 K rfl rfl rfl ?_
  refine oVc X2 K rfl (H 351) (H 319) (notFace_of_selects (args := #[]) (mvT K.wz (H 321))) (H 321) (H 320) (H 322) (H 257) (by decide) (e2.trans y2) Y34 (own_m_kind hw Z0 Y35) rfl rfl (lenOf own_pd38 rfl) rfl N2 0 rfl (by decide) fun v4 T4 h4 L4 N4 q4 e4 X4 => ?_
  obtain ⟨rfl, y4⟩ := q4
  refine oA X4 K rfl rfl rfl ?_
  refine oGf X4 K rfl (H 116) (e4.trans y4) Y2 fun T5 X5 e5 => ?_
  refine oGc X5 K rfl (H 352) (H 353) (H 354) (H 355) (H 356) (H 357) (H 358) (H 273) (H 360) (H 359) (by decide) (by decide) (by decide) e5 (Exa.ext hOld.2 hq.eKR) (own_enumeq hw Z0 hq hOld) rfl rfl (lenOf own_pd30 rfl) rfl N4 0 rfl (by decide) fun v7 T7 h7 L7 N7 q7 e7 X7 => ?_
  obtain ⟨rfl, y7⟩ := q7
  refine oFY X7 K rfl (XT.i0_eq_t (by decide : (0 : Int32) = (0 : Int32))) <| oA X7 K rfl rfl rfl <| oA X7 K rfl rfl rfl ?_
  refine oVc X7 K rfl (H 351) (H 319) (notFace_of_selects (args := #[]) (mvT K.wz (H 321))) (H 321) (H 320) (H 322) (H 257) (by decide) (e7.trans y7) Y34 (own_m_kind hw Z0 Y35) rfl rfl (lenOf own_pd38 rfl) rfl N7 1 rfl (by decide) fun v9 T9 h9 L9 N9 q9 e9 X9 => ?_
  obtain ⟨rfl, y9⟩ := q9
  refine oA X9 K rfl rfl rfl ?_
  refine oVc X9 K rfl (H 361) (H 308) (notFace_of_selects (args := #[]) (mvT K.wz (H 310))) (H 310) (H 309) (H 311) (H 257) (by decide) (e9.trans y9) Y34 (own_m_from hw Z0 Y36) rfl rfl (lenOf own_pd11 rfl) rfl N9 2 rfl (by decide) fun v11 T11 h11 L11 N11 q11 e11 X11 => ?_
  obtain ⟨rfl, y11⟩ := q11
  refine oA X11 K rfl rfl rfl ?_
  refine oVc X11 K rfl (H 362) (H 363) (notFace_of_selects (args := #[]) (mvT K.wz (H 365))) (H 365) (H 364) (H 366) (H 257) (by decide) (e11.trans y11) Y34 (own_m_value hw Z0 Y37) rfl rfl (lenOf own_pd39 rfl) rfl N11 3 rfl (by decide) fun v13 T13 h13 L13 N13 q13 e13 X13 => ?_
  obtain ⟨rfl, y13⟩ := q13
  refine oVc X13 K rfl (H 367) (H 368) (own_nfz (args := #[]) (mvT K.wz (H 341)) rfl) (H 369) (H 370) (H 371) (H 37) (by decide) (e13.trans y13) Y0 (own_rulA hw Z0 (tt := tt) Y0 Y1 Y2 Y3 Y4 Y5 Y6 Y7 Y8 Y9 Y10 Y11 Y12 Y13 Y14 Y15 Y16 Y17 Y18 Y19 Y20 Y21 Y22 Y23 Y24 Y25 Y26 Y27 Y28 Y29 Y30 Y31 Y32 hp1 hp2 hn8 hsf hix Y33 hg hA1 hA2 hq hOld) rfl rfl (lenOf own_pd40 rfl) rfl N13 0 rfl (by decide) fun v15 T15 h15 L15 N15 q15 e15 X15 => ?_
  obtain ⟨rfl, K15, Y38, Y39, Y40, Y41, Y42, Y43, Y44, Y45, Y46, Y47⟩ := q15
  refine oSAn X15 K rfl rfl rfl <| oA X15 K rfl rfl rfl ?_
  exact oRa X15 K rfl rfl rfl e15 N15 (by decide) ⟨rfl, ((Keep.refl _ _).trans K15 (allS (oM 0 rfl) (allS (oM 1 rfl) (allS (oM 2 rfl) (allS (oM 3 rfl) all0))))), Y38, Y39, Y40, Y41, Y42, Y43, Y44, Y45, Y46, Y47⟩
theorem own_hanB (hw : own_HW a0 Z) {a1 sd ec rd va ca co : Addr} {kva kca kco : ClassId} {nn vt sf ix p1 : Int32} {hs : List (Int32 × Value)} {v1 : Addr} {q : own_P0} {m1 : Addr} (Z0 : n0 <= h0.size) (Y0 : Exa Z h0 a1 "convoke/protocol/Bracha") (Y1 : f13 Z h0 a1 (.ref sd)) (Y2 : f15 Z h0 a1 (.ref q.fKI)) (Y3 : f37 Z h0 a1 (.int 0)) (Y4 : f38 Z h0 a1 (.int 0)) (Y5 : f45 Z h0 a1 .null) (Y6 : f17 Z h0 a1 (.int 0)) (Y7 : f19 Z h0 a1 (.int 1)) (Y8 : f20 Z h0 a1 (.int 1)) (Y9 : f21 Z h0 a1 (.int 1)) (Y10 : f25 Z h0 a1 (.ref ec)) (Y11 : f26 Z h0 a1 (.ref rd)) (Y12 : f27 Z h0 a1 .null) (Y13 : f41 Z h0 a1 (.int 0)) (Y14 : n0 <= a1) (Y15 : Exa Z h0 sd "convoke/protocol/Seat") (Y16 : f10 Z h0 sd (.int nn)) (Y17 : f11 Z h0 sd (.int sf)) (Y18 : f12 Z h0 sd (.int ix)) (Y19 : Exa Z h0 rd "convoke/protocol/Votes") (Y20 : f22 Z h0 rd (.ref va)) (Y21 : f23 Z h0 rd (.ref ca)) (Y22 : f24 Z h0 rd (.ref co)) (Y23 : f40 Z h0 rd (.int 0)) (Y24 : f39 Z h0 rd (.int vt)) (Y25 : Arv Z h0 va kva (.object "convoke/model/Value") (1 : Int32) [.null] .null) (Y26 : Ovr Z kva "convoke/model/Value") (Y27 : Arv Z h0 ca kca .int 1 [(.int 0)] (.int 0)) (Y28 : Arh Z h0 co kco .boolean (nn + (1 : Int32)) hs [] (.int 0)) (Y29 : n0 <= rd) (Y30 : n0 <= va) (Y31 : n0 <= ca) (Y32 : n0 <= co) (hp1 : ¬ (p1 < (1 : Int32))) (hp2 : ¬ (nn < p1)) (hn8 : 1 <= nn.toInt /\ nn.toInt <= 8) (hsf : ¬ (sf < (1 : Int32))) (hix : ¬ (ix < (1 : Int32))) (Y33 : Exa Z h0 v1 "convoke/model/Value") (hg : getH hs [] (.int 0) p1.toNatClampNeg = .int 0) (hq : own_Env Z q) (hOld : Old Z n0 h0) (Y34 : Exa Z h0 m1 "convoke/model/Message") (Y35 : f34 Z h0 m1 (.ref q.fKR)) (Y36 : f31 Z h0 m1 (.int p1)) (Y37 : f35 Z h0 m1 (.ref v1)) : own_MW own_EL l ⟨"convoke/protocol/BrachaFamily", "handle", "(Lconvoke/model/Message;)Ljava/util/List;"⟩ prog_63_method_5_code 3 (some (.object "java/util/List")) ⟨8, 43, 404, 113⟩ ws Z h0 n0 #[(.ref a1), (.ref m1)] (fun v h => ∃ ar : Addr, ∃ ed : Addr, ∃ ke : ClassId, ∃ hh : List (Int32 × Value), (v = some (.ref ar) /\ Keep h0 h [a1, rd, co, va, ca] /\ (Exa Z h a1 "convoke/protocol/Bracha") /\ (f13 Z h a1 (.ref sd)) /\ (f15 Z h a1 (.ref q.fKI)) /\ (f37 Z h a1 (.int 1)) /\ (f38 Z h a1 (.int 0)) /\ (f45 Z h a1 (.ref v1)) /\ (f17 Z h a1 (.int 0)) /\ (f19 Z h a1 (.int 1)) /\ (f20 Z h a1 (.int 1)) /\ (f21 Z h a1 (.int 1)) /\ (f25 Z h a1 .null) /\ (f26 Z h a1 .null) /\ (f27 Z h a1 .null) /\ (f41 Z h a1 (.int 1)) /\ (Exa Z h ar "java/util/ArrayList") /\ (f43 Z h ar (.ref ed)) /\ (f44 Z h ar (.int nn)) /\ (Arh Z h ed ke (.object "java/lang/Object") nn hh [] .null) /\ (Ovr Z ke "java/lang/Object") /\ (h0.size <= ar) /\ (h0.size <= ed) /\ (Exa Z h ed "[Ljava/lang/Object;") /\ (own_Els Z h hh))) := by
  refine own_begW (plainFor_of_name own_pn8) own_t44 #[.val (.ref a1), .val (.ref m1), .unset] (own_e2_3 · ⟨rfl, rfl⟩) fun p e s m below meth c sa K X0 e0 hh hS0 R0 => ?_
  have N0 := Fr.nil n0
  have H := oh hw
  have hEL := own_ew hw
  refine oA X0 K rfl rfl rfl ?_
  refine oPc X0 K rfl (H 343) (H 344) (own_sel_45 hw) (H 345) (H 346) (H 109) (by decide) e0 Y0 (own_stopped hw Z0 Y0 Y3 Y4) rfl rfl (lenOf own_pd9 rfl) rfl N0 0 rfl (by decide) fun v2 T2 h2 L2 N2 q2 e2 X2 => ?_
  obtain ⟨rfl, y2⟩ := q2
  refine oFY X2 K rfl (XT.i0_eq_t (by decide : (0 : Int32) = (0 : Int32))) <| oA X2 K rfl rfl rfl ?_
  refine oVc X2 K rfl (H 351) (H 319) (notFace_of_selects (args := #[]) (mvT K.wz (H 321))) (H 321) (H 320) (H 322) (H 257) (by decide) (e2.trans y2) Y34 (own_m_kind hw Z0 Y35) rfl rfl (lenOf own_pd38 rfl) rfl N2 0 rfl (by decide) fun v4 T4 h4 L4 N4 q4 e4 X4 => ?_
  obtain ⟨rfl, y4⟩ := q4
  refine oA X4 K rfl rfl rfl ?_
  refine oGf X4 K rfl (H 116) (e4.trans y4) Y2 fun T5 X5 e5 => ?_
  refine oGc X5 K rfl (H 352) (H 353) (H 354) (H 355) (H 356) (H 357) (H 358) (H 273) (H 360) (H 359) (by decide) (by decide) (by decide) e5 (Exa.ext hOld.2 hq.eKR) (own_enumeq hw Z0 hq hOld) rfl rfl (lenOf own_pd30 rfl) rfl N4 0 rfl (by decide) fun v7 T7 h7 L7 N7 q7 e7 X7 => ?_
  obtain ⟨rfl, y7⟩ := q7
  refine oFY X7 K rfl (XT.i0_eq_t (by decide : (0 : Int32) = (0 : Int32))) <| oA X7 K rfl rfl rfl <| oA X7 K rfl rfl rfl ?_
  refine oVc X7 K rfl (H 351) (H 319) (notFace_of_selects (args := #[]) (mvT K.wz (H 321))) (H 321) (H 320) (H 322) (H 257) (by decide) (e7.trans y7) Y34 (own_m_kind hw Z0 Y35) rfl rfl (lenOf own_pd38 rfl) rfl N7 1 rfl (by decide) fun v9 T9 h9 L9 N9 q9 e9 X9 => ?_
  obtain ⟨rfl, y9⟩ := q9
  refine oA X9 K rfl rfl rfl ?_
  refine oVc X9 K rfl (H 361) (H 308) (notFace_of_selects (args := #[]) (mvT K.wz (H 310))) (H 310) (H 309) (H 311) (H 257) (by decide) (e9.trans y9) Y34 (own_m_from hw Z0 Y36) rfl rfl (lenOf own_pd11 rfl) rfl N9 2 rfl (by decide) fun v11 T11 h11 L11 N11 q11 e11 X11 => ?_
  obtain ⟨rfl, y11⟩ := q11
  refine oA X11 K rfl rfl rfl ?_
  refine oVc X11 K rfl (H 362) (H 363) (notFace_of_selects (args := #[]) (mvT K.wz (H 365))) (H 365) (H 364) (H 366) (H 257) (by decide) (e11.trans y11) Y34 (own_m_value hw Z0 Y37) rfl rfl (lenOf own_pd39 rfl) rfl N11 3 rfl (by decide) fun v13 T13 h13 L13 N13 q13 e13 X13 => ?_
  obtain ⟨rfl, y13⟩ := q13
  refine oVw X13 K hS0 (Nat.zero_le _) hEL R0 rfl (H 367) (H 368) (own_nfz (args := #[]) (mvT K.wz (H 341)) rfl) (H 369) (H 370) (H 371) (H 37) (by decide) (e13.trans y13) Y0 (own_rulB hw Z0 Y0 Y1 Y2 Y3 Y4 Y5 Y6 Y7 Y8 Y9 Y10 Y11 Y12 Y13 Y14 Y15 Y16 Y17 Y18 Y19 Y20 Y21 Y22 Y23 Y24 Y25 Y26 Y27 Y28 Y29 Y30 Y31 Y32 hp1 hp2 hn8 hsf hix Y33 hg hq hOld) rfl rfl (lenOf own_pd40 rfl) rfl N13 0 rfl (by decide) fun v19 T19 h19 L19 N19 q19 e19 X19 hS19 K R19 => ?_
  obtain ⟨ar14, ed15, ke16, hh17, rfl, K19, Y38, Y39, Y40, Y41, Y42, Y43, Y44, Y45, Y46, Y47, Y48, Y49, Y50, Y51, Y52, Y53, Y54, Y55, Y56, Y57, Y58, Y59, Y60⟩ := q19
  have Y61 := Y57
  have Y62 := Y58
  refine oSAn X19 K rfl rfl rfl <| oA X19 K rfl rfl rfl ?_
  exact oRaw X19 K rfl rfl rfl e19 N19 (by decide) hh hEL hS19 (Nat.le_refl _) R19 ⟨ar14, ed15, ke16, hh17, rfl, ((Keep.refl _ _).trans K19 (allS (oM 0 rfl) (allS (oM 1 rfl) (allS (oM 2 rfl) (allS (oM 3 rfl) (allS (oM 4 rfl) all0)))))), Y38, Y39, Y40, Y41, Y42, Y43, Y44, Y45, Y46, Y47, Y48, Y49, Y50, Y51, Y52, Y53, Y54, Y55, Y56, Y61, Y62, Y59, Y60⟩
theorem own_hanC (hw : own_HW a0 Z) {a1 sd ec rd va ca co : Addr} {kva kca kco : ClassId} {nn vt sf ix p1 : Int32} {hs : List (Int32 × Value)} {v1 : Addr} {tt : Int32} {q : own_P0} {m1 : Addr} (Z0 : n0 <= h0.size) (Y0 : Exa Z h0 a1 "convoke/protocol/Bracha") (Y1 : f13 Z h0 a1 (.ref sd)) (Y2 : f15 Z h0 a1 (.ref q.fKI)) (Y3 : f37 Z h0 a1 (.int 0)) (Y4 : f38 Z h0 a1 (.int 0)) (Y5 : f45 Z h0 a1 .null) (Y6 : f17 Z h0 a1 (.int 0)) (Y7 : f19 Z h0 a1 (.int (tt + (1 : Int32)))) (Y8 : f20 Z h0 a1 (.int (((2 : Int32) * tt) + (1 : Int32)))) (Y9 : f21 Z h0 a1 (.int (((2 : Int32) * tt) + (1 : Int32)))) (Y10 : f25 Z h0 a1 (.ref ec)) (Y11 : f26 Z h0 a1 (.ref rd)) (Y12 : f27 Z h0 a1 .null) (Y13 : f41 Z h0 a1 (.int 0)) (Y14 : n0 <= a1) (Y15 : Exa Z h0 sd "convoke/protocol/Seat") (Y16 : f10 Z h0 sd (.int nn)) (Y17 : f11 Z h0 sd (.int sf)) (Y18 : f12 Z h0 sd (.int ix)) (Y19 : Exa Z h0 rd "convoke/protocol/Votes") (Y20 : f22 Z h0 rd (.ref va)) (Y21 : f23 Z h0 rd (.ref ca)) (Y22 : f24 Z h0 rd (.ref co)) (Y23 : f40 Z h0 rd (.int 1)) (Y24 : f39 Z h0 rd (.int vt)) (Y25 : Arv Z h0 va kva (.object "convoke/model/Value") (1 : Int32) [(.ref v1)] .null) (Y26 : Ovr Z kva "convoke/model/Value") (Y27 : Arv Z h0 ca kca .int 1 [(.int 1)] (.int 0)) (Y28 : Arh Z h0 co kco .boolean (nn + (1 : Int32)) hs [] (.int 0)) (Y29 : n0 <= rd) (Y30 : n0 <= va) (Y31 : n0 <= ca) (Y32 : n0 <= co) (hp1 : ¬ (p1 < (1 : Int32))) (hp2 : ¬ (nn < p1)) (hn8 : 1 <= nn.toInt /\ nn.toInt <= 8) (hsf : ¬ (sf < (1 : Int32))) (hix : ¬ (ix < (1 : Int32))) (Y33 : Exa Z h0 v1 "convoke/model/Value") (hg : getH hs [] (.int 0) p1.toNatClampNeg = .int 1) (hq : own_Env Z q) (hOld : Old Z n0 h0) (Y34 : Exa Z h0 m1 "convoke/model/Message") (Y35 : f34 Z h0 m1 (.ref q.fKR)) (Y36 : f31 Z h0 m1 (.int p1)) (Y37 : f35 Z h0 m1 (.ref v1)) : own_M l ⟨"convoke/protocol/BrachaFamily", "handle", "(Lconvoke/model/Message;)Ljava/util/List;"⟩ prog_63_method_5_code 3 (some (.object "java/util/List")) ⟨4, 0, 0, 59⟩ ws Z h0 n0 #[(.ref a1), (.ref m1)] (fun v h => (v = some (.ref q.fEL) /\ h = h0)) := by
  refine own_beg (plainFor_of_name own_pn8) own_t44 #[.val (.ref a1), .val (.ref m1), .unset] (own_e2_3 · ⟨rfl, rfl⟩) fun p e s m below meth c sa K X0 e0 => ?_
  have N0 := Fr.nil n0
  have H := oh hw
  refine oA X0 K rfl rfl rfl ?_
  refine oPc X0 K rfl (H 343) (H 344) (own_sel_45 hw) (H 345) (H 346) (H 109) (by decide) e0 Y0 (own_stopped hw Z0 Y0 Y3 Y4) rfl rfl (lenOf own_pd9 rfl) rfl N0 0 rfl (by decide) fun v2 T2 h2 L2 N2 q2 e2 X2 => ?_
  obtain ⟨rfl, y2⟩ := q2
  refine oFY X2 K rfl (XT.i0_eq_t (by decide : (0 : Int32) = (0 : Int32))) <| oA X2 K rfl rfl rfl ?_
  refine oVc X2 K rfl (H 351) (H 319) (notFace_of_selects (args := #[]) (mvT K.wz (H 321))) (H 321) (H 320) (H 322) (H 257) (by decide) (e2.trans y2) Y34 (own_m_kind hw Z0 Y35) rfl rfl (lenOf own_pd38 rfl) rfl N2 0 rfl (by decide) fun v4 T4 h4 L4 N4 q4 e4 X4 => ?_
  obtain ⟨rfl, y4⟩ := q4
  refine oA X4 K rfl rfl rfl ?_
  refine oGf X4 K rfl (H 116) (e4.trans y4) Y2 fun T5 X5 e5 => ?_
  refine oGc X5 K rfl (H 352) (H 353) (H 354) (H 355) (H 356) (H 357) (H 358) (H 273) (H 360) (H 359) (by decide) (by decide) (by decide) e5 (Exa.ext hOld.2 hq.eKR) (own_enumeq hw Z0 hq hOld) rfl rfl (lenOf own_pd30 rfl) rfl N4 0 rfl (by decide) fun v7 T7 h7 L7 N7 q7 e7 X7 => ?_
  obtain ⟨rfl, y7⟩ := q7
  refine oFY X7 K rfl (XT.i0_eq_t (by decide : (0 : Int32) = (0 : Int32))) <| oA X7 K rfl rfl rfl <| oA X7 K rfl rfl rfl ?_
  refine oVc X7 K rfl (H 351) (H 319) (notFace_of_selects (args := #[]) (mvT K.wz (H 321))) (H 321) (H 320) (H 322) (H 257) (by decide) (e7.trans y7) Y34 (own_m_kind hw Z0 Y35) rfl rfl (lenOf own_pd38 rfl) rfl N7 1 rfl (by decide) fun v9 T9 h9 L9 N9 q9 e9 X9 => ?_
  obtain ⟨rfl, y9⟩ := q9
  refine oA X9 K rfl rfl rfl ?_
  refine oVc X9 K rfl (H 361) (H 308) (notFace_of_selects (args := #[]) (mvT K.wz (H 310))) (H 310) (H 309) (H 311) (H 257) (by decide) (e9.trans y9) Y34 (own_m_from hw Z0 Y36) rfl rfl (lenOf own_pd11 rfl) rfl N9 2 rfl (by decide) fun v11 T11 h11 L11 N11 q11 e11 X11 => ?_
  obtain ⟨rfl, y11⟩ := q11
  refine oA X11 K rfl rfl rfl ?_
  refine oVc X11 K rfl (H 362) (H 363) (notFace_of_selects (args := #[]) (mvT K.wz (H 365))) (H 365) (H 364) (H 366) (H 257) (by decide) (e11.trans y11) Y34 (own_m_value hw Z0 Y37) rfl rfl (lenOf own_pd39 rfl) rfl N11 3 rfl (by decide) fun v13 T13 h13 L13 N13 q13 e13 X13 => ?_
  obtain ⟨rfl, y13⟩ := q13
  refine oVc X13 K rfl (H 367) (H 368) (own_nfz (args := #[]) (mvT K.wz (H 341)) rfl) (H 369) (H 370) (H 371) (H 37) (by decide) (e13.trans y13) Y0 (own_rulC hw Z0 (tt := tt) Y0 Y1 Y2 Y3 Y4 Y5 Y6 Y7 Y8 Y9 Y10 Y11 Y12 Y13 Y14 Y15 Y16 Y17 Y18 Y19 Y20 Y21 Y22 Y23 Y24 Y25 Y26 Y27 Y28 Y29 Y30 Y31 Y32 hp1 hp2 hn8 hsf hix Y33 hg hq hOld) rfl rfl (lenOf own_pd40 rfl) rfl N13 0 rfl (by decide) fun v15 T15 h15 L15 N15 q15 e15 X15 => ?_
  obtain ⟨rfl, y15⟩ := q15
  refine oSAn X15 K rfl rfl rfl <| oA X15 K rfl rfl rfl ?_
  exact oRa X15 K rfl rfl rfl (e15.trans y15) N15 (by decide) ⟨rfl, rfl⟩
theorem own_hanD (hw : own_HW a0 Z) {a1 sd ec rd va ca co : Addr} {kva kca kco : ClassId} {nn vt sf ix p1 : Int32} {hs : List (Int32 × Value)} {v1 : Addr} {tt : Int32} {q : own_P0} {m1 : Addr} (Z0 : n0 <= h0.size) (Y0 : Exa Z h0 a1 "convoke/protocol/Bracha") (Y1 : f13 Z h0 a1 (.ref sd)) (Y2 : f15 Z h0 a1 (.ref q.fKI)) (Y3 : f37 Z h0 a1 (.int 0)) (Y4 : f38 Z h0 a1 (.int 0)) (Y5 : f45 Z h0 a1 .null) (Y6 : f17 Z h0 a1 (.int 0)) (Y7 : f19 Z h0 a1 (.int (tt + (1 : Int32)))) (Y8 : f20 Z h0 a1 (.int (((2 : Int32) * tt) + (1 : Int32)))) (Y9 : f21 Z h0 a1 (.int (((2 : Int32) * tt) + (1 : Int32)))) (Y10 : f25 Z h0 a1 (.ref ec)) (Y11 : f26 Z h0 a1 (.ref rd)) (Y12 : f27 Z h0 a1 .null) (Y13 : f41 Z h0 a1 (.int 0)) (Y14 : n0 <= a1) (Y15 : Exa Z h0 sd "convoke/protocol/Seat") (Y16 : f10 Z h0 sd (.int nn)) (Y17 : f11 Z h0 sd (.int sf)) (Y18 : f12 Z h0 sd (.int ix)) (Y19 : Exa Z h0 rd "convoke/protocol/Votes") (Y20 : f22 Z h0 rd (.ref va)) (Y21 : f23 Z h0 rd (.ref ca)) (Y22 : f24 Z h0 rd (.ref co)) (Y23 : f40 Z h0 rd (.int 1)) (Y24 : f39 Z h0 rd (.int vt)) (Y25 : Arv Z h0 va kva (.object "convoke/model/Value") (1 : Int32) [(.ref v1)] .null) (Y26 : Ovr Z kva "convoke/model/Value") (Y27 : Arv Z h0 ca kca .int 1 [(.int 1)] (.int 0)) (Y28 : Arh Z h0 co kco .boolean (nn + (1 : Int32)) hs [] (.int 0)) (Y29 : n0 <= rd) (Y30 : n0 <= va) (Y31 : n0 <= ca) (Y32 : n0 <= co) (hp1 : ¬ (p1 < (1 : Int32))) (hp2 : ¬ (nn < p1)) (hn8 : 1 <= nn.toInt /\ nn.toInt <= 8) (hsf : ¬ (sf < (1 : Int32))) (hix : ¬ (ix < (1 : Int32))) (Y33 : Exa Z h0 v1 "convoke/model/Value") (hg : getH hs [] (.int 0) p1.toNatClampNeg = .int 0) (hA2 : (2 : Int32) < (((2 : Int32) * tt) + (1 : Int32))) (hq : own_Env Z q) (hOld : Old Z n0 h0) (Y34 : Exa Z h0 m1 "convoke/model/Message") (Y35 : f34 Z h0 m1 (.ref q.fKR)) (Y36 : f31 Z h0 m1 (.int p1)) (Y37 : f35 Z h0 m1 (.ref v1)) : own_MW own_EL l ⟨"convoke/protocol/BrachaFamily", "handle", "(Lconvoke/model/Message;)Ljava/util/List;"⟩ prog_63_method_5_code 3 (some (.object "java/util/List")) ⟨8, 42, 403, 113⟩ ws Z h0 n0 #[(.ref a1), (.ref m1)] (fun v h => ∃ ar : Addr, ∃ rs : Int32, (v = some (.ref ar) /\ Keep h0 h [a1, rd, co, ca] /\ (Exa Z h a1 "convoke/protocol/Bracha") /\ (f13 Z h a1 (.ref sd)) /\ (f15 Z h a1 (.ref q.fKI)) /\ (f37 Z h a1 (.int 0)) /\ (f38 Z h a1 (.int 0)) /\ (f45 Z h a1 .null) /\ (f17 Z h a1 (.int 0)) /\ (f19 Z h a1 (.int (tt + (1 : Int32)))) /\ (f20 Z h a1 (.int (((2 : Int32) * tt) + (1 : Int32)))) /\ (f21 Z h a1 (.int (((2 : Int32) * tt) + (1 : Int32)))) /\ (f25 Z h a1 (.ref ec)) /\ (f26 Z h a1 (.ref rd)) /\ (f27 Z h a1 .null) /\ (f41 Z h a1 (.int rs)))) := by
  refine own_begW (plainFor_of_name own_pn8) own_t44 #[.val (.ref a1), .val (.ref m1), .unset] (own_e2_3 · ⟨rfl, rfl⟩) fun p e s m below meth c sa K X0 e0 hh hS0 R0 => ?_
  have N0 := Fr.nil n0
  have H := oh hw
  have hEL := own_ew hw
  refine oA X0 K rfl rfl rfl ?_
  refine oPc X0 K rfl (H 343) (H 344) (own_sel_45 hw) (H 345) (H 346) (H 109) (by decide) e0 Y0 (own_stopped hw Z0 Y0 Y3 Y4) rfl rfl (lenOf own_pd9 rfl) rfl N0 0 rfl (by decide) fun v2 T2 h2 L2 N2 q2 e2 X2 => ?_
  obtain ⟨rfl, y2⟩ := q2
  refine oFY X2 K rfl (XT.i0_eq_t (by decide : (0 : Int32) = (0 : Int32))) <| oA X2 K rfl rfl rfl ?_
  refine oVc X2 K rfl (H 351) (H 319) (notFace_of_selects (args := #[]) (mvT K.wz (H 321))) (H 321) (H 320) (H 322) (H 257) (by decide) (e2.trans y2) Y34 (own_m_kind hw Z0 Y35) rfl rfl (lenOf own_pd38 rfl) rfl N2 0 rfl (by decide) fun v4 T4 h4 L4 N4 q4 e4 X4 => ?_
  obtain ⟨rfl, y4⟩ := q4
  refine oA X4 K rfl rfl rfl ?_
  refine oGf X4 K rfl (H 116) (e4.trans y4) Y2 fun T5 X5 e5 => ?_
  refine oGc X5 K rfl (H 352) (H 353) (H 354) (H 355) (H 356) (H 357) (H 358) (H 273) (H 360) (H 359) (by decide) (by decide) (by decide) e5 (Exa.ext hOld.2 hq.eKR) (own_enumeq hw Z0 hq hOld) rfl rfl (lenOf own_pd30 rfl) rfl N4 0 rfl (by decide) fun v7 T7 h7 L7 N7 q7 e7 X7 => ?_
  obtain ⟨rfl, y7⟩ := q7
  refine oFY X7 K rfl (XT.i0_eq_t (by decide : (0 : Int32) = (0 : Int32))) <| oA X7 K rfl rfl rfl <| oA X7 K rfl rfl rfl ?_
  refine oVc X7 K rfl (H 351) (H 319) (notFace_of_selects (args := #[]) (mvT K.wz (H 321))) (H 321) (H 320) (H 322) (H 257) (by decide) (e7.trans y7) Y34 (own_m_kind hw Z0 Y35) rfl rfl (lenOf own_pd38 rfl) rfl N7 1 rfl (by decide) fun v9 T9 h9 L9 N9 q9 e9 X9 => ?_
  obtain ⟨rfl, y9⟩ := q9
  refine oA X9 K rfl rfl rfl ?_
  refine oVc X9 K rfl (H 361) (H 308) (notFace_of_selects (args := #[]) (mvT K.wz (H 310))) (H 310) (H 309) (H 311) (H 257) (by decide) (e9.trans y9) Y34 (own_m_from hw Z0 Y36) rfl rfl (lenOf own_pd11 rfl) rfl N9 2 rfl (by decide) fun v11 T11 h11 L11 N11 q11 e11 X11 => ?_
  obtain ⟨rfl, y11⟩ := q11
  refine oA X11 K rfl rfl rfl ?_
  refine oVc X11 K rfl (H 362) (H 363) (notFace_of_selects (args := #[]) (mvT K.wz (H 365))) (H 365) (H 364) (H 366) (H 257) (by decide) (e11.trans y11) Y34 (own_m_value hw Z0 Y37) rfl rfl (lenOf own_pd39 rfl) rfl N11 3 rfl (by decide) fun v13 T13 h13 L13 N13 q13 e13 X13 => ?_
  obtain ⟨rfl, y13⟩ := q13
  refine oVw X13 K hS0 (Nat.zero_le _) hEL R0 rfl (H 367) (H 368) (own_nfz (args := #[]) (mvT K.wz (H 341)) rfl) (H 369) (H 370) (H 371) (H 37) (by decide) (e13.trans y13) Y0 (own_rulD hw Z0 (tt := tt) Y0 Y1 Y2 Y3 Y4 Y5 Y6 Y7 Y8 Y9 Y10 Y11 Y12 Y13 Y14 Y15 Y16 Y17 Y18 Y19 Y20 Y21 Y22 Y23 Y24 Y25 Y26 Y27 Y28 Y29 Y30 Y31 Y32 hp1 hp2 hn8 hsf hix Y33 hg hA2 hq hOld) rfl rfl (lenOf own_pd40 rfl) rfl N13 0 rfl (by decide) fun v17 T17 h17 L17 N17 q17 e17 X17 hS17 K R17 => ?_
  obtain ⟨ar14, rs15, rfl, K17, Y38, Y39, Y40, Y41, Y42, Y43, Y44, Y45, Y46, Y47, Y48, Y49, Y50, Y51⟩ := q17
  refine oSAn X17 K rfl rfl rfl <| oA X17 K rfl rfl rfl ?_
  exact oRaw X17 K rfl rfl rfl e17 N17 (by decide) hh hEL hS17 (Nat.le_refl _) R17 ⟨ar14, rs15, rfl, ((Keep.refl _ _).trans K17 (allS (oM 0 rfl) (allS (oM 1 rfl) (allS (oM 2 rfl) (allS (oM 3 rfl) all0))))), Y38, Y39, Y40, Y41, Y42, Y43, Y44, Y45, Y46, Y47, Y48, Y49, Y50, Y51⟩
def own_cmp (p1 p2 : Int32) : Int32 := if p1 < p2 then (-1 : Int32) else if p1 = p2 then (0 : Int32) else (1 : Int32)
theorem own_i8 {p : Int32} (h : 1 <= p.toInt /\ p.toInt <= 8) : ¬ (p < (-128 : Int32)) /\ ¬ ((127 : Int32) < p) := by
  constructor <;> (rw [Int32.lt_iff_toInt_lt]; first | rw [show (-128 : Int32).toInt = -128 from by decide] | rw [show (127 : Int32).toInt = 127 from by decide]) <;> omega
theorem own_boxI {Z : State} {h0 : Heap} {n0 : Nat} {cb : Addr} {cc : Cell} {p : Int32} (B : Bxs Z cb cc "java/lang/Integer" "I" (256 : Int32) own_bvI) (O : Old Z n0 h0) (h : 1 <= p.toInt /\ p.toInt <= 8) :
    ¬ ((p + (128 : Int32)) < 0 ∨ cc.slots.size <= (p + (128 : Int32)).toNatClampNeg) /\ ∃ a : Addr, cc.slots[(p + (128 : Int32)).toNatClampNeg]? = some (.ref a) /\ Exa Z Z.heap a "java/lang/Integer" /\ Fld Z Z.heap a "java/lang/Integer" "value" "I" (.int p) := by
  have c3 := c_iadd p 128
  rw [show (128 : Int32).toInt = 128 from by decide] at c3
  have c4 := rng32 (p + 128)
  have e : (p + (128 : Int32)).toInt = p.toInt + 128 := by omega
  have h0' : ¬ (p + (128 : Int32)) < 0 := by rw [Int32.lt_iff_toInt_lt, e, show (0 : Int32).toInt = 0 from by decide]; omega
  have hj : ¬ ((p + (128 : Int32)) < 0 ∨ cc.slots.size <= (p + (128 : Int32)).toNatClampNeg) := by
    have hs := B.2.1
    rw [show (256 : Int32).toNatClampNeg = 256 from by decide] at hs
    have := nat_of h0'
    rintro (q | q)
    · exact h0' q
    · omega
  obtain ⟨b, e1, e2, e3⟩ := B.2.2.2 _ hj
  refine ⟨hj, b, e1, e2, ?_⟩
  have q : own_bvI (p + (128 : Int32)) = .int p := by
    show Value.int ((p + (128 : Int32)) - (128 : Int32)) = .int p
    rw [Int32.add_sub_cancel]
  rw [q] at e3
  exact e3
theorem own_ival (hw : own_HW a0 Z) {p1 : Int32} {q : own_P0} (Z0 : n0 <= h0.size) (hi : 1 <= p1.toInt /\ p1.toInt <= 8) (hq : own_Env Z q) (hOld : Old Z n0 h0) : own_M l ⟨"java/lang/Integer", "valueOf", "(I)Ljava/lang/Integer;"⟩ jdk_33_method_22_code 1 (some (.object "java/lang/Integer")) ⟨0, 0, 0, 0⟩ ws Z h0 n0 #[(.int p1)] (fun v h => ∃ ar : Addr, (v = some (.ref ar) /\ Keep h0 h [] /\ (Exa Z Z.heap ar "java/lang/Integer") /\ (f48 Z Z.heap ar (.int p1)))) := by
  refine own_beg (plainFor_of_name own_pn24) own_t75 #[.val (.int p1)] (own_e1_1 · rfl) fun p e s m below meth c sa K X0 e0 => ?_
  have N0 := Fr.nil n0
  have H := oh hw
  refine oI X0 K rfl rfl ?_
  refine own_fs (XS.bipush X0.here K.1 rfl (K.d rfl) (Steps.refl _)) ?_
  show own_G _ _ _ _ (sa.setTop (mkF m 3 #[.val (.int p1)] [(.int (-128 : Int32)), (.int p1)]))
  refine oCN X0 K rfl (XT.ii_lt_f (own_i8 hi).1) <| oI X0 K rfl rfl ?_
  refine oGs X0 K rfl (H 539) e0 (Sta.ext hOld.2 hq.sIH) fun T1 X1 e1 => ?_
  refine oCN X1 K rfl (XT.ii_gt_f (own_i8 hi).2) ?_
  obtain ⟨hin, ar, hat, hEx, hFl⟩ := own_boxI hq.bIC hOld hi
  refine oGs X1 K rfl (H 541) e1 (Sta.ext hOld.2 hq.sIC) fun T2 X2 e2 => ?_
  refine oI X2 K rfl rfl ?_
  refine own_fs (XS.sipush X2.here K.1 rfl (K.d rfl) (Steps.refl _)) ?_
  show own_G _ _ _ _ (T2.setTop (mkF m 20 #[.val (.int p1)] [(.int 128), (.int p1), (.ref q.fCB)]))
  refine oAdd X2 K rfl rfl <| oAL X2 K rfl e2 (Arr.ext hOld.2 hq.bIC.1) rfl hin hat ?_
  exact oRa X2 K rfl rfl rfl e2 N0 (by decide) ⟨ar, rfl, (Keep.refl _ _), hEx, hFl⟩
theorem own_icmp (hw : own_HW a0 Z) {p1 p2 : Int32} (Z0 : n0 <= h0.size)  : own_M l ⟨"java/lang/Integer", "compare", "(II)I"⟩ jdk_33_method_40_code 2 (some .int) ⟨0, 0, 0, 0⟩ ws Z h0 n0 #[(.int p1), (.int p2)] (fun v h => (v = some (.int (own_cmp p1 p2)) /\ h = h0)) := by
  refine own_beg (plainFor_of_name own_pn24) own_t83 #[.val (.int p1), .val (.int p2)] (own_e2_2 · ⟨rfl, rfl⟩) fun p e s m below meth c sa K X0 e0 => ?_
  have N0 := Fr.nil n0
  refine oI X0 K rfl rfl <| oI X0 K rfl rfl ?_
  by_cases hc2 : p1 < p2
  · refine oCN X0 K rfl (XT.ii_ge_f hc2) <| oC (z := -1) X0 K rfl rfl <| oGo X0 K rfl ?_
    exact oRi X0 K rfl e0 N0 (by decide) ⟨(by simp only [own_cmp, if_pos hc2]), rfl⟩
  · refine oCY X0 K rfl (XT.ii_ge_t hc2) <| oI X0 K rfl rfl <| oI X0 K rfl rfl ?_
    by_cases hc11 : p1 = p2
    · refine oCN X0 K rfl (XT.ii_ne_f hc11) <| oC (z := 0) X0 K rfl rfl <| oGo X0 K rfl ?_
      exact oRi X0 K rfl e0 N0 (by decide) ⟨(by simp only [own_cmp, if_neg hc2, if_pos hc11]), rfl⟩
    · refine oCY X0 K rfl (XT.ii_ne_t hc11) <| oC (z := 1) X0 K rfl rfl ?_
      exact oRi X0 K rfl e0 N0 (by decide) ⟨(by simp only [own_cmp, if_neg hc11, if_neg hc2]), rfl⟩
theorem own_icto (hw : own_HW a0 Z) {a1 a2 : Addr} {p1 p2 : Int32} (Z0 : n0 <= h0.size) (Y0 : Exa Z h0 a1 "java/lang/Integer") (Y1 : f48 Z h0 a1 (.int p1)) (Y2 : Exa Z h0 a2 "java/lang/Integer") (Y3 : f48 Z h0 a2 (.int p2)) : own_M l ⟨"java/lang/Integer", "compareTo", "(Ljava/lang/Integer;)I"⟩ jdk_33_method_39_code 2 (some .int) ⟨1, 0, 0, 13⟩ ws Z h0 n0 #[(.ref a1), (.ref a2)] (fun v h => (v = some (.int (own_cmp p1 p2)) /\ h = h0)) := by
  refine own_beg (plainFor_of_name own_pn24) own_t82 #[.val (.ref a1), .val (.ref a2)] (own_e2_2 · ⟨rfl, rfl⟩) fun p e s m below meth c sa K X0 e0 => ?_
  have N0 := Fr.nil n0
  have H := oh hw
  refine oA X0 K rfl rfl rfl ?_
  refine oGf X0 K rfl (H 592) e0 Y1 fun T1 X1 e1 => ?_
  refine oA X1 K rfl rfl rfl ?_
  refine oGf X1 K rfl (H 592) e1 Y3 fun T2 X2 e2 => ?_
  refine oTc X2 K rfl (H 594) (H 595) (H 596) (H 537) (by decide) e2 (own_icmp hw Z0 ) rfl (lenOf own_pd41 rfl) rfl N0 0 rfl (by decide) fun v4 T4 h4 L4 N4 q4 e4 X4 => ?_
  obtain ⟨rfl, y4⟩ := q4
  exact oRi X4 K rfl (e4.trans y4) N4 (by decide) ⟨rfl, rfl⟩
theorem own_ictoO (hw : own_HW a0 Z) {a1 a2 : Addr} {p1 p2 : Int32} (Z0 : n0 <= h0.size) (Y0 : Exa Z h0 a1 "java/lang/Integer") (Y1 : f48 Z h0 a1 (.int p1)) (Y2 : Exa Z h0 a2 "java/lang/Integer") (Y3 : f48 Z h0 a2 (.int p2)) : own_M l ⟨"java/lang/Integer", "compareTo", "(Ljava/lang/Object;)I"⟩ jdk_33_method_63_code 2 (some .int) ⟨2, 0, 0, 26⟩ ws Z h0 n0 #[(.ref a1), (.ref a2)] (fun v h => (v = some (.int (own_cmp p1 p2)) /\ h = h0)) := by
  refine own_beg (plainFor_of_name own_pn24) own_t81 #[.val (.ref a1), .val (.ref a2)] (own_e2_2 · ⟨rfl, rfl⟩) fun p e s m below meth c sa K X0 e0 => ?_
  have N0 := Fr.nil n0
  have H := oh hw
  refine oA X0 K rfl rfl rfl <| oA X0 K rfl rfl rfl ?_
  refine oCst X0 K rfl (H 585) e0 (Ins.self Y2) fun T1 X1 e1 => ?_
  refine oVc X1 K rfl (H 587) (H 588) (notFace_of_selects (args := #[]) (mvT K.wz (H 590))) (H 590) (H 589) (H 591) (H 537) (by decide) e1 Y0 (own_icto hw Z0 Y0 Y1 Y2 Y3) rfl rfl (lenOf own_pd42 rfl) rfl N0 0 rfl (by decide) fun v3 T3 h3 L3 N3 q3 e3 X3 => ?_
  obtain ⟨rfl, y3⟩ := q3
  exact oRi X3 K rfl (e3.trans y3) N3 (by decide) ⟨rfl, rfl⟩
theorem own_tcmp (hw : own_HW a0 Z) {a1 k1 k2 : Addr} {p1 p2 : Int32} (Z0 : n0 <= h0.size) (Y0 : Exa Z h0 a1 "java/util/TreeMap") (Y1 : f2 Z h0 a1 .null) (Y2 : Exa Z h0 k1 "java/lang/Integer") (Y3 : f48 Z h0 k1 (.int p1)) (Y4 : Exa Z h0 k2 "java/lang/Integer") (Y5 : f48 Z h0 k2 (.int p2)) : own_M l ⟨"java/util/TreeMap", "compare", "(Ljava/lang/Object;Ljava/lang/Object;)I"⟩ jdk_2729_method_67_code 3 (some .int) ⟨3, 0, 0, 39⟩ ws Z h0 n0 #[(.ref a1), (.ref k1), (.ref k2)] (fun v h => (v = some (.int (own_cmp p1 p2)) /\ h = h0)) := by
  refine own_beg (plainFor_of_name own_pn2) own_t80 #[.val (.ref a1), .val (.ref k1), .val (.ref k2)] (own_e3_3 · ⟨rfl, rfl, rfl⟩) fun p e s m below meth c sa K X0 e0 => ?_
  have N0 := Fr.nil n0
  have H := oh hw
  refine oA X0 K rfl rfl rfl ?_
  refine oGf X0 K rfl (H 31) e0 Y1 fun T1 X1 e1 => ?_
  refine oMN X1 K rfl <| oA X1 K rfl rfl rfl ?_
  refine oCst X1 K rfl (H 575) e1 (Ins.of_exa Y2 (H 576)) fun T2 X2 e2 => ?_
  refine oA X2 K rfl rfl rfl ?_
  refine oFc X2 K rfl (H 577) (H 578) (mvT K.wz (H 579)) (H 580) (H 581) (H 582) (H 583) (H 576) (H 584) (H 537) (by decide) e2 Y2 (own_ictoO hw Z0 Y2 Y3 Y4 Y5) rfl rfl (lenOf own_pd43 rfl) rfl N0 0 rfl (by decide) fun v4 T4 h4 L4 N4 q4 e4 X4 => ?_
  obtain ⟨rfl, y4⟩ := q4
  refine oGo X4 K rfl ?_
  exact oRi X4 K rfl (e4.trans y4) N4 (by decide) ⟨rfl, rfl⟩
theorem own_rnn1 (hw : own_HW a0 Z) {a1 : Addr} (Z0 : n0 <= h0.size)  : own_M l ⟨"java/util/Objects", "requireNonNull", "(Ljava/lang/Object;)Ljava/lang/Object;"⟩ jdk_31_method_10_code 1 (some (.object "java/lang/Object")) ⟨0, 0, 0, 0⟩ ws Z h0 n0 #[(.ref a1)] (fun v h => (v = some (.ref a1) /\ h = h0)) := by
  refine own_beg (plainFor_of_name own_pn14) own_t95 #[.val (.ref a1)] (own_e1_1 · rfl) fun p e s m below meth c sa K X0 e0 => ?_
  have N0 := Fr.nil n0
  refine oA X0 K rfl rfl rfl <| oMY X0 K rfl <| oA X0 K rfl rfl rfl ?_
  exact oRa X0 K rfl rfl rfl e0 N0 (by decide) ⟨rfl, rfl⟩
theorem own_tsize (hw : own_HW a0 Z) {a1 : Addr} {p1 : Int32} (Z0 : n0 <= h0.size) (Y0 : f0 Z h0 a1 (.int p1)) : own_M l ⟨"java/util/TreeMap", "size", "()I"⟩ jdk_2729_method_5_code 1 (some .int) ⟨0, 0, 0, 0⟩ ws Z h0 n0 #[(.ref a1)] (fun v h => (v = some (.int p1) /\ h = h0)) := by
  refine own_beg (plainFor_of_name own_pn2) own_t86 #[.val (.ref a1)] (own_e1_1 · rfl) fun p e s m below meth c sa K X0 e0 => ?_
  have N0 := Fr.nil n0
  have H := oh hw
  refine oA X0 K rfl rfl rfl ?_
  refine oGf X0 K rfl (H 27) e0 Y0 fun T1 X1 e1 => ?_
  exact oRi X1 K rfl e1 N0 (by decide) ⟨rfl, rfl⟩
theorem own_ent0 (hw : own_HW a0 Z) {a1 k1 v1 : Addr} {u1 : Int32} {u2 u3 u4 u5 u6 : Value} (Z0 : n0 <= h0.size) (Y0 : Exa Z h0 a1 "java/util/TreeMap$Entry") (Y1 : f49 Z h0 a1 (.int u1)) (Y2 : f50 Z h0 a1 u2) (Y3 : f51 Z h0 a1 u3) (Y4 : f52 Z h0 a1 u4) (Y5 : f55 Z h0 a1 u5) (Y6 : f53 Z h0 a1 u6) (Y7 : n0 <= a1) : own_M l ⟨"java/util/TreeMap$Entry", "<init>", "(Ljava/lang/Object;Ljava/lang/Object;Ljava/util/TreeMap$Entry;)V"⟩ jdk_2736_method_1_code 4 none ⟨1, 0, 0, 12⟩ ws Z h0 n0 #[(.ref a1), (.ref k1), (.ref v1), .null] (fun v h => (v = none /\ Keep h0 h [a1] /\ (Exa Z h a1 "java/util/TreeMap$Entry") /\ (f49 Z h a1 (.int 1)) /\ (f50 Z h a1 (.ref k1)) /\ (f51 Z h a1 (.ref v1)) /\ (f52 Z h a1 .null) /\ (f55 Z h a1 u5) /\ (f53 Z h a1 u6))) := by
  refine own_beg (plainFor_of_name own_pn25) own_t84 #[.val (.ref a1), .val (.ref k1), .val (.ref v1), .val .null] (own_e4_4 · ⟨rfl, rfl, rfl, rfl⟩) fun p e s m below meth c sa K X0 e0 => ?_
  have N0 := Fr.nil n0
  have H := oh hw
  refine oA X0 K rfl rfl rfl ?_
  refine oObj X0 K rfl (H 604) (H 12) (H 13) e0 rfl 0 rfl (by decide) fun T1 X1 e1 => ?_
  refine oA X1 K rfl rfl rfl <| oC (z := 1) X1 K rfl rfl ?_
  refine oPf (ty := .boolean) (v' := (.int 1)) X1 K rfl (H 605) e1 Y1 Y0 (Or.inl (H 606)) (H 598) (by decide) rfl rfl N0 Y7 fun T2 h2 L2 N2 X2 e2 W2 Fw2 => ?_
  refine oA X2 K rfl rfl rfl <| oA X2 K rfl rfl rfl ?_
  refine oPf (ty := (.object "java/lang/Object")) X2 K rfl (H 607) e2 (oFo W2 Y2 (Or.inl (H 608)) (Or.inl (H 606)) (by decide)) (Exa.wr W2 Y0) (Or.inl (H 608)) (H 598) (by decide) rfl rfl N2 Y7 fun T3 h3 L3 N3 X3 e3 W3 Fw3 => ?_
  refine oA X3 K rfl rfl rfl <| oA X3 K rfl rfl rfl ?_
  refine oPf (ty := (.object "java/lang/Object")) X3 K rfl (H 609) e3 (oFo W3 (oFo W2 Y3 (Or.inl (H 610)) (Or.inl (H 606)) (by decide)) (Or.inl (H 610)) (Or.inl (H 608)) (by decide)) (Exa.wr W3 (Exa.wr W2 Y0)) (Or.inl (H 610)) (H 598) (by decide) rfl rfl N3 Y7 fun T4 h4 L4 N4 X4 e4 W4 Fw4 => ?_
  refine oA X4 K rfl rfl rfl <| oA X4 K rfl rfl rfl ?_
  refine oPf (ty := (.object "java/util/TreeMap$Entry")) X4 K rfl (H 611) e4 (oFo W4 (oFo W3 (oFo W2 Y4 (Or.inl (H 612)) (Or.inl (H 606)) (by decide)) (Or.inl (H 612)) (Or.inl (H 608)) (by decide)) (Or.inl (H 612)) (Or.inl (H 610)) (by decide)) (Exa.wr W4 (Exa.wr W3 (Exa.wr W2 Y0))) (Or.inl (H 612)) (H 598) (by decide) rfl rfl N4 Y7 fun T5 h5 L5 N5 X5 e5 W5 Fw5 => ?_
  exact oRv X5 K rfl e5 N5 (by decide) ⟨rfl, (((((Keep.refl _ _).wr W2 (oM 0 rfl)).wr W3 (oM 0 rfl)).wr W4 (oM 0 rfl)).wr W5 (oM 0 rfl)), (Exa.wr W5 (Exa.wr W4 (Exa.wr W3 (Exa.wr W2 Y0)))), (oFo W5 (oFo W4 (oFo W3 Fw2 (Or.inl (H 606)) (Or.inl (H 608)) (by decide)) (Or.inl (H 606)) (Or.inl (H 610)) (by decide)) (Or.inl (H 606)) (Or.inl (H 612)) (by decide)), (oFo W5 (oFo W4 Fw3 (Or.inl (H 608)) (Or.inl (H 610)) (by decide)) (Or.inl (H 608)) (Or.inl (H 612)) (by decide)), (oFo W5 Fw4 (Or.inl (H 610)) (Or.inl (H 612)) (by decide)), Fw5, (oFo W5 (oFo W4 (oFo W3 (oFo W2 Y5 (Or.inl (H 732)) (Or.inl (H 606)) (by decide)) (Or.inl (H 732)) (Or.inl (H 608)) (by decide)) (Or.inl (H 732)) (Or.inl (H 610)) (by decide)) (Or.inl (H 732)) (Or.inl (H 612)) (by decide)), (oFo W5 (oFo W4 (oFo W3 (oFo W2 Y6 (Or.inl (H 693)) (Or.inl (H 606)) (by decide)) (Or.inl (H 693)) (Or.inl (H 608)) (by decide)) (Or.inl (H 693)) (Or.inl (H 610)) (by decide)) (Or.inl (H 693)) (Or.inl (H 612)) (by decide))⟩
theorem own_ent1 (hw : own_HW a0 Z) {a1 k1 v1 pa : Addr} {u1 : Int32} {u2 u3 u4 u5 u6 : Value} (Z0 : n0 <= h0.size) (Y0 : Exa Z h0 a1 "java/util/TreeMap$Entry") (Y1 : f49 Z h0 a1 (.int u1)) (Y2 : f50 Z h0 a1 u2) (Y3 : f51 Z h0 a1 u3) (Y4 : f52 Z h0 a1 u4) (Y5 : f55 Z h0 a1 u5) (Y6 : f53 Z h0 a1 u6) (Y7 : n0 <= a1) : own_M l ⟨"java/util/TreeMap$Entry", "<init>", "(Ljava/lang/Object;Ljava/lang/Object;Ljava/util/TreeMap$Entry;)V"⟩ jdk_2736_method_1_code 4 none ⟨1, 0, 0, 12⟩ ws Z h0 n0 #[(.ref a1), (.ref k1), (.ref v1), (.ref pa)] (fun v h => (v = none /\ Keep h0 h [a1] /\ (Exa Z h a1 "java/util/TreeMap$Entry") /\ (f49 Z h a1 (.int 1)) /\ (f50 Z h a1 (.ref k1)) /\ (f51 Z h a1 (.ref v1)) /\ (f52 Z h a1 (.ref pa)) /\ (f55 Z h a1 u5) /\ (f53 Z h a1 u6))) := by
  refine own_beg (plainFor_of_name own_pn25) own_t84 #[.val (.ref a1), .val (.ref k1), .val (.ref v1), .val (.ref pa)] (own_e4_4 · ⟨rfl, rfl, rfl, rfl⟩) fun p e s m below meth c sa K X0 e0 => ?_
  have N0 := Fr.nil n0
  have H := oh hw
  refine oA X0 K rfl rfl rfl ?_
  refine oObj X0 K rfl (H 604) (H 12) (H 13) e0 rfl 0 rfl (by decide) fun T1 X1 e1 => ?_
  refine oA X1 K rfl rfl rfl <| oC (z := 1) X1 K rfl rfl ?_
  refine oPf (ty := .boolean) (v' := (.int 1)) X1 K rfl (H 605) e1 Y1 Y0 (Or.inl (H 606)) (H 598) (by decide) rfl rfl N0 Y7 fun T2 h2 L2 N2 X2 e2 W2 Fw2 => ?_
  refine oA X2 K rfl rfl rfl <| oA X2 K rfl rfl rfl ?_
  refine oPf (ty := (.object "java/lang/Object")) X2 K rfl (H 607) e2 (oFo W2 Y2 (Or.inl (H 608)) (Or.inl (H 606)) (by decide)) (Exa.wr W2 Y0) (Or.inl (H 608)) (H 598) (by decide) rfl rfl N2 Y7 fun T3 h3 L3 N3 X3 e3 W3 Fw3 => ?_
  refine oA X3 K rfl rfl rfl <| oA X3 K rfl rfl rfl ?_
  refine oPf (ty := (.object "java/lang/Object")) X3 K rfl (H 609) e3 (oFo W3 (oFo W2 Y3 (Or.inl (H 610)) (Or.inl (H 606)) (by decide)) (Or.inl (H 610)) (Or.inl (H 608)) (by decide)) (Exa.wr W3 (Exa.wr W2 Y0)) (Or.inl (H 610)) (H 598) (by decide) rfl rfl N3 Y7 fun T4 h4 L4 N4 X4 e4 W4 Fw4 => ?_
  refine oA X4 K rfl rfl rfl <| oA X4 K rfl rfl rfl ?_
  refine oPf (ty := (.object "java/util/TreeMap$Entry")) X4 K rfl (H 611) e4 (oFo W4 (oFo W3 (oFo W2 Y4 (Or.inl (H 612)) (Or.inl (H 606)) (by decide)) (Or.inl (H 612)) (Or.inl (H 608)) (by decide)) (Or.inl (H 612)) (Or.inl (H 610)) (by decide)) (Exa.wr W4 (Exa.wr W3 (Exa.wr W2 Y0))) (Or.inl (H 612)) (H 598) (by decide) rfl rfl N4 Y7 fun T5 h5 L5 N5 X5 e5 W5 Fw5 => ?_
  exact oRv X5 K rfl e5 N5 (by decide) ⟨rfl, (((((Keep.refl _ _).wr W2 (oM 0 rfl)).wr W3 (oM 0 rfl)).wr W4 (oM 0 rfl)).wr W5 (oM 0 rfl)), (Exa.wr W5 (Exa.wr W4 (Exa.wr W3 (Exa.wr W2 Y0)))), (oFo W5 (oFo W4 (oFo W3 Fw2 (Or.inl (H 606)) (Or.inl (H 608)) (by decide)) (Or.inl (H 606)) (Or.inl (H 610)) (by decide)) (Or.inl (H 606)) (Or.inl (H 612)) (by decide)), (oFo W5 (oFo W4 Fw3 (Or.inl (H 608)) (Or.inl (H 610)) (by decide)) (Or.inl (H 608)) (Or.inl (H 612)) (by decide)), (oFo W5 Fw4 (Or.inl (H 610)) (Or.inl (H 612)) (by decide)), Fw5, (oFo W5 (oFo W4 (oFo W3 (oFo W2 Y5 (Or.inl (H 732)) (Or.inl (H 606)) (by decide)) (Or.inl (H 732)) (Or.inl (H 608)) (by decide)) (Or.inl (H 732)) (Or.inl (H 610)) (by decide)) (Or.inl (H 732)) (Or.inl (H 612)) (by decide)), (oFo W5 (oFo W4 (oFo W3 (oFo W2 Y6 (Or.inl (H 693)) (Or.inl (H 606)) (by decide)) (Or.inl (H 693)) (Or.inl (H 608)) (by decide)) (Or.inl (H 693)) (Or.inl (H 610)) (by decide)) (Or.inl (H 693)) (Or.inl (H 612)) (by decide))⟩
theorem own_tadd0 (hw : own_HW a0 Z) {a1 k1 v1 : Addr} {p1 mc : Int32} (Z0 : n0 <= h0.size) (Y0 : Exa Z h0 a1 "java/util/TreeMap") (Y1 : f0 Z h0 a1 (.int 0)) (Y2 : f1 Z h0 a1 (.int mc)) (Y3 : f2 Z h0 a1 .null) (Y4 : f47 Z h0 a1 .null) (Y5 : n0 <= a1) (Y6 : Exa Z h0 k1 "java/lang/Integer") (Y7 : f48 Z h0 k1 (.int p1)) : own_M l ⟨"java/util/TreeMap", "addEntryToEmptyMap", "(Ljava/lang/Object;Ljava/lang/Object;)V"⟩ jdk_2729_method_30_code 3 none ⟨4, 1, 6, 53⟩ ws Z h0 n0 #[(.ref a1), (.ref k1), (.ref v1)] (fun v h => ∃ en : Addr, (v = none /\ Keep h0 h [a1] /\ (Exa Z h a1 "java/util/TreeMap") /\ (f0 Z h a1 (.int 1)) /\ (f1 Z h a1 (.int (mc + (1 : Int32)))) /\ (f2 Z h a1 .null) /\ (f47 Z h a1 (.ref en)) /\ (Exa Z h en "java/util/TreeMap$Entry") /\ (f49 Z h en (.int 1)) /\ (f50 Z h en (.ref k1)) /\ (f51 Z h en (.ref v1)) /\ (f52 Z h en .null) /\ (f55 Z h en .null) /\ (f53 Z h en .null) /\ (h0.size <= en))) := by
  refine own_beg (plainFor_of_name own_pn2) own_t79 #[.val (.ref a1), .val (.ref k1), .val (.ref v1)] (own_e3_3 · ⟨rfl, rfl, rfl⟩) fun p e s m below meth c sa K X0 e0 => ?_
  have N0 := Fr.nil n0
  have H := oh hw
  refine oA X0 K rfl rfl rfl <| oA X0 K rfl rfl rfl <| oA X0 K rfl rfl rfl ?_
  refine oVc X0 K rfl (H 570) (H 571) (notFace_of_selects (args := #[]) (mvT K.wz (H 573))) (H 573) (H 572) (H 574) (H 16) (by decide) e0 Y0 (own_tcmp hw Z0 Y0 Y3 Y6 Y7 Y6 Y7) rfl rfl (lenOf own_pd44 rfl) rfl N0 0 rfl (by decide) fun v2 T2 h2 L2 N2 q2 e2 X2 => ?_
  obtain ⟨rfl, y2⟩ := q2
  refine oPop X2 K rfl rfl <| oA X2 K rfl rfl rfl ?_
  refine oNew X2 K rfl (H 597) (H 598) (H 599) (e2.trans y2) (Nat.le_refl _) (by decide) fun T3 h3 b3 g3 Y8 X3 e3 E3 A3 D3 => ?_
  refine oDup X3 K rfl rfl <| oA X3 K rfl rfl rfl <| oA X3 K rfl rfl rfl <| oN X3 K rfl ?_
  refine oNc X3 K rfl (H 600) (H 601) (H 603) (H 599) (by decide) rfl e3 (own_ent0 hw (Nat.le_trans Z0 E3.1) A3 (D3 (Or.inl (H 606)) (ty := .boolean) (by decide)) (D3 (Or.inl (H 608)) (ty := (.object "java/lang/Object")) (by decide)) (D3 (Or.inl (H 610)) (ty := (.object "java/lang/Object")) (by decide)) (D3 (Or.inl (H 612)) (ty := (.object "java/util/TreeMap$Entry")) (by decide)) (D3 (Or.inl (H 732)) (ty := (.object "java/util/TreeMap$Entry")) (by decide)) (D3 (Or.inl (H 693)) (ty := (.object "java/util/TreeMap$Entry")) (by decide)) (Nat.le_trans Z0 Y8)) rfl rfl (lenOf own_pd45 rfl) rfl N2 2 rfl (by decide) fun v5 T5 h5 L5 N5 q5 e5 X5 => ?_
  obtain ⟨rfl, K5, Y9, Y10, Y11, Y12, Y13, Y14, Y15⟩ := q5
  refine oPf (ty := (.object "java/util/TreeMap$Entry")) X5 K rfl (H 563) e5 ((Fld.ext E3 Y4).keep K5 (ninS (oNe (Exa.lt Y0) Y8) nin0)) ((Exa.ext E3 Y0).keep K5) (Or.inl (H 564)) (H 15) (by decide) rfl rfl N5 Y5 fun T6 h6 L6 N6 X6 e6 W6 Fw6 => ?_
  refine oA X6 K rfl rfl rfl <| oC (z := 1) X6 K rfl rfl ?_
  refine oPf (ty := .int) X6 K rfl (H 27) e6 (oFo W6 ((Fld.ext E3 Y1).keep K5 (ninS (oNe (Exa.lt Y0) Y8) nin0)) (Or.inl (H 28)) (Or.inl (H 564)) (by decide)) (Exa.wr W6 ((Exa.ext E3 Y0).keep K5)) (Or.inl (H 28)) (H 15) (by decide) rfl rfl N6 Y5 fun T7 h7 L7 N7 X7 e7 W7 Fw7 => ?_
  refine oA X7 K rfl rfl rfl <| oDup X7 K rfl rfl ?_
  refine oGf X7 K rfl (H 29) e7 (oFo W7 (oFo W6 ((Fld.ext E3 Y2).keep K5 (ninS (oNe (Exa.lt Y0) Y8) nin0)) (Or.inl (H 30)) (Or.inl (H 564)) (by decide)) (Or.inl (H 30)) (Or.inl (H 28)) (by decide)) fun T8 X8 e8 => ?_
  refine oC (z := 1) X8 K rfl rfl <| oAdd X8 K rfl rfl ?_
  refine oPf (ty := .int) X8 K rfl (H 29) e8 (oFo W7 (oFo W6 ((Fld.ext E3 Y2).keep K5 (ninS (oNe (Exa.lt Y0) Y8) nin0)) (Or.inl (H 30)) (Or.inl (H 564)) (by decide)) (Or.inl (H 30)) (Or.inl (H 28)) (by decide)) (Exa.wr W7 (Exa.wr W6 ((Exa.ext E3 Y0).keep K5))) (Or.inl (H 30)) (H 15) (by decide) rfl rfl N7 Y5 fun T9 h9 L9 N9 X9 e9 W9 Fw9 => ?_
  exact oRv X9 K rfl e9 N9 (by decide) ⟨b3, rfl, ((((((Keep.refl _ _).ext E3).trans K5 (allS (Or.inr Y8) all0)).wr W6 (oM 0 rfl)).wr W7 (oM 0 rfl)).wr W9 (oM 0 rfl)), (Exa.wr W9 (Exa.wr W7 (Exa.wr W6 ((Exa.ext E3 Y0).keep K5)))), (oFo W9 Fw7 (Or.inl (H 28)) (Or.inl (H 30)) (by decide)), Fw9, (oFo W9 (oFo W7 (oFo W6 ((Fld.ext E3 Y3).keep K5 (ninS (oNe (Exa.lt Y0) Y8) nin0)) (Or.inr (H 32)) (Or.inl (H 564)) (by decide)) (Or.inr (H 32)) (Or.inl (H 28)) (by decide)) (Or.inr (H 32)) (Or.inl (H 30)) (by decide)), (oFo W9 (oFo W7 Fw6 (Or.inl (H 564)) (Or.inl (H 28)) (by decide)) (Or.inl (H 564)) (Or.inl (H 30)) (by decide)), (Exa.wr W9 (Exa.wr W7 (Exa.wr W6 Y9))), (oFn W9 (oFn W7 (oFn W6 Y10 (Ne.symm (oNe (Exa.lt Y0) Y8))) (Ne.symm (oNe (Exa.lt Y0) Y8))) (Ne.symm (oNe (Exa.lt Y0) Y8))), (oFn W9 (oFn W7 (oFn W6 Y11 (Ne.symm (oNe (Exa.lt Y0) Y8))) (Ne.symm (oNe (Exa.lt Y0) Y8))) (Ne.symm (oNe (Exa.lt Y0) Y8))), (oFn W9 (oFn W7 (oFn W6 Y12 (Ne.symm (oNe (Exa.lt Y0) Y8))) (Ne.symm (oNe (Exa.lt Y0) Y8))) (Ne.symm (oNe (Exa.lt Y0) Y8))), (oFn W9 (oFn W7 (oFn W6 Y13 (Ne.symm (oNe (Exa.lt Y0) Y8))) (Ne.symm (oNe (Exa.lt Y0) Y8))) (Ne.symm (oNe (Exa.lt Y0) Y8))), (oFn W9 (oFn W7 (oFn W6 Y14 (Ne.symm (oNe (Exa.lt Y0) Y8))) (Ne.symm (oNe (Exa.lt Y0) Y8))) (Ne.symm (oNe (Exa.lt Y0) Y8))), (oFn W9 (oFn W7 (oFn W6 Y15 (Ne.symm (oNe (Exa.lt Y0) Y8))) (Ne.symm (oNe (Exa.lt Y0) Y8))) (Ne.symm (oNe (Exa.lt Y0) Y8))), Y8⟩
theorem own_tput30 (hw : own_HW a0 Z) {a1 k1 v1 : Addr} {p1 mc : Int32} (Z0 : n0 <= h0.size) (Y0 : Exa Z h0 a1 "java/util/TreeMap") (Y1 : f0 Z h0 a1 (.int 0)) (Y2 : f1 Z h0 a1 (.int mc)) (Y3 : f2 Z h0 a1 .null) (Y4 : f47 Z h0 a1 .null) (Y5 : n0 <= a1) (Y6 : Exa Z h0 k1 "java/lang/Integer") (Y7 : f48 Z h0 k1 (.int p1)) : own_M l ⟨"java/util/TreeMap", "put", "(Ljava/lang/Object;Ljava/lang/Object;Z)Ljava/lang/Object;"⟩ jdk_2729_method_31_code 10 (some (.object "java/lang/Object")) ⟨5, 1, 6, 67⟩ ws Z h0 n0 #[(.ref a1), (.ref k1), (.ref v1), (.int 1)] (fun v h => ∃ en : Addr, (v = some .null /\ Keep h0 h [a1] /\ (Exa Z h a1 "java/util/TreeMap") /\ (f0 Z h a1 (.int 1)) /\ (f1 Z h a1 (.int (mc + (1 : Int32)))) /\ (f2 Z h a1 .null) /\ (f47 Z h a1 (.ref en)) /\ (Exa Z h en "java/util/TreeMap$Entry") /\ (f49 Z h en (.int 1)) /\ (f50 Z h en (.ref k1)) /\ (f51 Z h en (.ref v1)) /\ (f52 Z h en .null) /\ (f55 Z h en .null) /\ (f53 Z h en .null) /\ (h0.size <= en))) := by
  refine own_beg (plainFor_of_name own_pn2) own_t78 #[.val (.ref a1), .val (.ref k1), .val (.ref v1), .val (.int 1), .unset, .unset, .unset, .unset, .unset, .unset] (own_e4_10 · ⟨rfl, rfl, rfl, rfl⟩) fun p e s m below meth c sa K X0 e0 => ?_
  have N0 := Fr.nil n0
  have H := oh hw
  refine oA X0 K rfl rfl rfl ?_
  refine oGf X0 K rfl (H 563) e0 Y4 fun T1 X1 e1 => ?_
  refine oSA (L' := #[.val (.ref a1), .val (.ref k1), .val (.ref v1), .val (.int 1), .val .null, .unset, .unset, .unset, .unset, .unset]) X1 K rfl rfl rfl <| oB X1 K rfl rfl rfl <| oMN X1 K rfl <| oA X1 K rfl rfl rfl <| oA X1 K rfl rfl rfl <| oA X1 K rfl rfl rfl ?_
  refine oPc X1 K rfl (H 565) (H 566) (H 568) (H 567) (H 569) (H 16) (by decide) e1 Y0 (own_tadd0 hw Z0 Y0 Y1 Y2 Y3 Y4 Y5 Y6 Y7) rfl rfl (lenOf own_pd46 rfl) rfl N0 0 rfl (by decide) fun v4 T4 h4 L4 N4 q4 e4 X4 => ?_
  obtain ⟨en2, rfl, K4, Y8, Y9, Y10, Y11, Y12, Y13, Y14, Y15, Y16, Y17, Y18, Y19, Y20⟩ := q4
  have Y21 := Y20
  refine oN X4 K rfl ?_
  exact oRa X4 K rfl rfl rfl e4 N4 (by decide) ⟨en2, rfl, ((Keep.refl _ _).trans K4 (allS (oM 0 rfl) all0)), Y8, Y9, Y10, Y11, Y12, Y13, Y14, Y15, Y16, Y17, Y18, Y19, Y21⟩
theorem own_tput20 (hw : own_HW a0 Z) {a1 k1 v1 : Addr} {p1 mc : Int32} (Z0 : n0 <= h0.size) (Y0 : Exa Z h0 a1 "java/util/TreeMap") (Y1 : f0 Z h0 a1 (.int 0)) (Y2 : f1 Z h0 a1 (.int mc)) (Y3 : f2 Z h0 a1 .null) (Y4 : f47 Z h0 a1 .null) (Y5 : n0 <= a1) (Y6 : Exa Z h0 k1 "java/lang/Integer") (Y7 : f48 Z h0 k1 (.int p1)) : own_M l ⟨"java/util/TreeMap", "put", "(Ljava/lang/Object;Ljava/lang/Object;)Ljava/lang/Object;"⟩ jdk_2729_method_21_code 3 (some (.object "java/lang/Object")) ⟨6, 1, 6, 88⟩ ws Z h0 n0 #[(.ref a1), (.ref k1), (.ref v1)] (fun v h => ∃ en : Addr, (v = some .null /\ Keep h0 h [a1] /\ (Exa Z h a1 "java/util/TreeMap") /\ (f0 Z h a1 (.int 1)) /\ (f1 Z h a1 (.int (mc + (1 : Int32)))) /\ (f2 Z h a1 .null) /\ (f47 Z h a1 (.ref en)) /\ (Exa Z h en "java/util/TreeMap$Entry") /\ (f49 Z h en (.int 1)) /\ (f50 Z h en (.ref k1)) /\ (f51 Z h en (.ref v1)) /\ (f52 Z h en .null) /\ (f55 Z h en .null) /\ (f53 Z h en .null) /\ (h0.size <= en))) := by
  refine own_beg (plainFor_of_name own_pn2) own_t77 #[.val (.ref a1), .val (.ref k1), .val (.ref v1)] (own_e3_3 · ⟨rfl, rfl, rfl⟩) fun p e s m below meth c sa K X0 e0 => ?_
  have N0 := Fr.nil n0
  have H := oh hw
  refine oA X0 K rfl rfl rfl <| oA X0 K rfl rfl rfl <| oA X0 K rfl rfl rfl <| oC (z := 1) X0 K rfl rfl ?_
  refine oPc X0 K rfl (H 558) (H 559) (H 561) (H 560) (H 562) (H 16) (by decide) e0 Y0 (own_tput30 hw Z0 Y0 Y1 Y2 Y3 Y4 Y5 Y6 Y7) rfl rfl (lenOf own_pd47 rfl) rfl N0 0 rfl (by decide) fun v3 T3 h3 L3 N3 q3 e3 X3 => ?_
  obtain ⟨en1, rfl, K3, Y8, Y9, Y10, Y11, Y12, Y13, Y14, Y15, Y16, Y17, Y18, Y19, Y20⟩ := q3
  have Y21 := Y20
  exact oRa X3 K rfl rfl rfl e3 N3 (by decide) ⟨en1, rfl, ((Keep.refl _ _).trans K3 (allS (oM 0 rfl) all0)), Y8, Y9, Y10, Y11, Y12, Y13, Y14, Y15, Y16, Y17, Y18, Y19, Y21⟩
theorem own_cmpP {p1 p2 : Int32} (hne : ¬ p1 = p2) (h : ¬ own_cmp p1 p2 < (0 : Int32)) : (0 : Int32) < own_cmp p1 p2 := by
  unfold own_cmp at *
  by_cases c : p1 < p2
  · rw [if_pos c] at h; exact absurd (by decide) h
  · rw [if_neg c, if_neg hne]; decide
theorem own_fix (hw : own_HW a0 Z) {a1 n1 en : Addr} {u1 : Int32} (Z0 : n0 <= h0.size) (Y0 : Exa Z h0 a1 "java/util/TreeMap") (Y1 : f47 Z h0 a1 (.ref en)) (Y2 : Exa Z h0 n1 "java/util/TreeMap$Entry") (Y3 : f49 Z h0 n1 (.int u1)) (Y4 : f52 Z h0 n1 (.ref en)) (Y5 : Exa Z h0 en "java/util/TreeMap$Entry") (Y6 : f49 Z h0 en (.int 1)) (Y7 : n0 <= n1) (Y8 : n0 <= en) (Y9 : n1 ≠ en) : own_M l ⟨"java/util/TreeMap", "fixAfterInsertion", "(Ljava/util/TreeMap$Entry;)V"⟩ jdk_2729_method_83_code 3 none ⟨0, 0, 0, 0⟩ ws Z h0 n0 #[(.ref a1), (.ref n1)] (fun v h => (v = none /\ Keep h0 h [n1, en])) := by
  refine own_beg (plainFor_of_name own_pn2) own_t97 #[.val (.ref a1), .val (.ref n1), .unset] (own_e2_3 · ⟨rfl, rfl⟩) fun p e s m below meth c sa K X0 e0 => ?_
  have N0 := Fr.nil n0
  have H := oh hw
  refine oA X0 K rfl rfl rfl <| oC (z := 0) X0 K rfl rfl ?_
  refine oPf (ty := .boolean) (v' := (.int 0)) X0 K rfl (H 704) e0 Y3 Y2 (Or.inl (H 606)) (H 598) (by decide) rfl rfl N0 Y7 fun T1 h1 L1 N1 X1 e1 W1 Fw1 => ?_
  refine oA X1 K rfl rfl rfl <| oNN X1 K rfl <| oA X1 K rfl rfl rfl <| oA X1 K rfl rfl rfl ?_
  refine oGf X1 K rfl (H 563) e1 (oFn W1 Y1 (Exa.ne Y0 Y2 (by decide))) fun T2 X2 e2 => ?_
  refine own_fs (Jvm.RoadKit.acmp (g := (mkF m 14 #[.val (.ref a1), .val (.ref n1), .unset] [(.ref en), (.ref n1)])) X2 K.1 rfl rfl rfl (pc0 := 14) (pc' := 17) (same := false) rfl (K.d rfl) rfl (decide_eq_false (fun q => Y9 (Value.ref.inj q))) (by decide) (by decide) (Steps.refl _)) ?_
  show own_G _ _ _ _ (T2.setTop (mkF m 17 #[.val (.ref a1), .val (.ref n1), .unset] []))
  refine oA X2 K rfl rfl rfl ?_
  refine oGf X2 K rfl (H 705) e2 (oFo W1 Y4 (Or.inl (H 612)) (Or.inl (H 606)) (by decide)) fun T3 X3 e3 => ?_
  refine oGf X3 K rfl (H 704) e3 (oFn W1 Y6 (Ne.symm Y9)) fun T4 X4 e4 => ?_
  refine oFY X4 K rfl (XT.i0_ne_t (by decide : ¬ ((1 : Int32) = (0 : Int32)))) <| oA X4 K rfl rfl rfl ?_
  refine oGf X4 K rfl (H 563) e4 (oFn W1 Y1 (Exa.ne Y0 Y2 (by decide))) fun T5 X5 e5 => ?_
  refine oC (z := 1) X5 K rfl rfl ?_
  refine oPf (ty := .boolean) (v' := (.int 1)) X5 K rfl (H 704) e5 (oFn W1 Y6 (Ne.symm Y9)) (Exa.wr W1 Y5) (Or.inl (H 606)) (H 598) (by decide) rfl rfl N1 Y8 fun T6 h6 L6 N6 X6 e6 W6 Fw6 => ?_
  exact oRv X6 K rfl e6 N6 (by decide) ⟨rfl, (((Keep.refl _ _).wr W1 (oM 0 rfl)).wr W6 (oM 1 rfl))⟩
theorem own_ade0 (hw : own_HW a0 Z) {a1 k1 v1 en k2 : Addr} {p1 mc : Int32} {w2 : Value} (Z0 : n0 <= h0.size) (Y0 : Exa Z h0 a1 "java/util/TreeMap") (Y1 : f0 Z h0 a1 (.int 1)) (Y2 : f1 Z h0 a1 (.int mc)) (Y3 : f2 Z h0 a1 .null) (Y4 : f47 Z h0 a1 (.ref en)) (Y5 : n0 <= a1) (Y6 : Exa Z h0 k1 "java/lang/Integer") (Y7 : f48 Z h0 k1 (.int p1)) (Y8 : Exa Z h0 en "java/util/TreeMap$Entry") (Y9 : f49 Z h0 en (.int 1)) (Y10 : f50 Z h0 en (.ref k2)) (Y11 : f51 Z h0 en w2) (Y12 : f52 Z h0 en .null) (Y13 : f55 Z h0 en .null) (Y14 : f53 Z h0 en .null) (Y15 : n0 <= en) : own_M l ⟨"java/util/TreeMap", "addEntry", "(Ljava/lang/Object;Ljava/lang/Object;Ljava/util/TreeMap$Entry;Z)V"⟩ jdk_2729_method_29_code 6 none ⟨2, 1, 6, 28⟩ ws Z h0 n0 #[(.ref a1), (.ref k1), (.ref v1), (.ref en), (.int 0)] (fun v h => (v = none /\ Keep h0 h [a1, en] /\ (Exa Z h a1 "java/util/TreeMap") /\ (f0 Z h a1 (.int 2)))) := by
  refine own_beg (plainFor_of_name own_pn2) own_t96 #[.val (.ref a1), .val (.ref k1), .val (.ref v1), .val (.ref en), .val (.int 0), .unset] (own_e5_6 · ⟨rfl, rfl, rfl, rfl, rfl⟩) fun p e s m below meth c sa K X0 e0 => ?_
  have N0 := Fr.nil n0
  have H := oh hw
  refine oNew X0 K rfl (H 597) (H 598) (H 599) e0 (Nat.le_refl _) (by decide) fun T1 h1 b1 g1 Y16 X1 e1 E1 A1 D1 => ?_
  refine oDup X1 K rfl rfl <| oA X1 K rfl rfl rfl <| oA X1 K rfl rfl rfl <| oA X1 K rfl rfl rfl ?_
  refine oNc X1 K rfl (H 600) (H 601) (H 603) (H 599) (by decide) rfl e1 (own_ent1 hw (Nat.le_trans Z0 E1.1) A1 (D1 (Or.inl (H 606)) (ty := .boolean) (by decide)) (D1 (Or.inl (H 608)) (ty := (.object "java/lang/Object")) (by decide)) (D1 (Or.inl (H 610)) (ty := (.object "java/lang/Object")) (by decide)) (D1 (Or.inl (H 612)) (ty := (.object "java/util/TreeMap$Entry")) (by decide)) (D1 (Or.inl (H 732)) (ty := (.object "java/util/TreeMap$Entry")) (by decide)) (D1 (Or.inl (H 693)) (ty := (.object "java/util/TreeMap$Entry")) (by decide)) (Nat.le_trans Z0 Y16)) rfl rfl (lenOf own_pd45 rfl) rfl N0 1 rfl (by decide) fun v3 T3 h3 L3 N3 q3 e3 X3 => ?_
  obtain ⟨rfl, K3, Y17, Y18, Y19, Y20, Y21, Y22, Y23⟩ := q3
  refine oSA (L' := #[.val (.ref a1), .val (.ref k1), .val (.ref v1), .val (.ref en), .val (.int 0), .val (.ref b1)]) X3 K rfl rfl rfl <| oJ X3 K rfl rfl <| oFY X3 K rfl (XT.i0_eq_t (by decide : (0 : Int32) = (0 : Int32))) <| oA X3 K rfl rfl rfl <| oB X3 K rfl rfl rfl ?_
  refine oPf (ty := (.object "java/util/TreeMap$Entry")) X3 K rfl (H 692) e3 ((Fld.ext E1 Y14).keep K3 (ninS (oNe (Exa.lt Y8) Y16) nin0)) ((Exa.ext E1 Y8).keep K3) (Or.inl (H 693)) (H 598) (by decide) rfl rfl N3 Y15 fun T4 h4 L4 N4 X4 e4 W4 Fw4 => ?_
  refine oA X4 K rfl rfl rfl <| oB X4 K rfl rfl rfl ?_
  have z6 := (Nat.le_trans (Nat.le_trans E1.1 K3.1) (Keep.of_wr W4).1)
  refine oPc X4 K rfl (H 699) (H 700) (H 702) (H 701) (H 703) (H 16) (by decide) e4 (Exa.wr W4 ((Exa.ext E1 Y0).keep K3)) (own_fix hw (Nat.le_trans Z0 z6) (Exa.wr W4 ((Exa.ext E1 Y0).keep K3)) (oFn W4 ((Fld.ext E1 Y4).keep K3 (ninS (oNe (Exa.lt Y0) Y16) nin0)) (Exa.ne Y0 Y8 (by decide))) (Exa.wr W4 Y17) (oFn W4 Y18 (Ne.symm (oNe (Exa.lt Y8) Y16))) (oFn W4 Y21 (Ne.symm (oNe (Exa.lt Y8) Y16))) (Exa.wr W4 ((Exa.ext E1 Y8).keep K3)) (oFo W4 ((Fld.ext E1 Y9).keep K3 (ninS (oNe (Exa.lt Y8) Y16) nin0)) (Or.inl (H 606)) (Or.inl (H 693)) (by decide)) (Nat.le_trans Z0 Y16) Y15 (Ne.symm (oNe (Exa.lt Y8) Y16))) rfl rfl (lenOf own_pd48 rfl) rfl N4 0 rfl (by decide) fun v7 T7 h7 L7 N7 q7 e7 X7 => ?_
  obtain ⟨rfl, K7⟩ := q7
  refine oA X7 K rfl rfl rfl <| oDup X7 K rfl rfl ?_
  refine oGf X7 K rfl (H 27) e7 ((oFn W4 ((Fld.ext E1 Y1).keep K3 (ninS (oNe (Exa.lt Y0) Y16) nin0)) (Exa.ne Y0 Y8 (by decide))).keep K7 (ninS (oNe (Exa.lt Y0) Y16) (ninS (Exa.ne Y0 Y8 (by decide)) nin0))) fun T8 X8 e8 => ?_
  refine oC (z := 1) X8 K rfl rfl <| oAdd (z := 2) X8 K rfl rfl ?_
  refine oPf (ty := .int) X8 K rfl (H 27) e8 ((oFn W4 ((Fld.ext E1 Y1).keep K3 (ninS (oNe (Exa.lt Y0) Y16) nin0)) (Exa.ne Y0 Y8 (by decide))).keep K7 (ninS (oNe (Exa.lt Y0) Y16) (ninS (Exa.ne Y0 Y8 (by decide)) nin0))) ((Exa.wr W4 ((Exa.ext E1 Y0).keep K3)).keep K7) (Or.inl (H 28)) (H 15) (by decide) rfl rfl N7 Y5 fun T9 h9 L9 N9 X9 e9 W9 Fw9 => ?_
  refine oA X9 K rfl rfl rfl <| oDup X9 K rfl rfl ?_
  refine oGf X9 K rfl (H 29) e9 (oFo W9 ((oFn W4 ((Fld.ext E1 Y2).keep K3 (ninS (oNe (Exa.lt Y0) Y16) nin0)) (Exa.ne Y0 Y8 (by decide))).keep K7 (ninS (oNe (Exa.lt Y0) Y16) (ninS (Exa.ne Y0 Y8 (by decide)) nin0))) (Or.inl (H 30)) (Or.inl (H 28)) (by decide)) fun T10 X10 e10 => ?_
  refine oC (z := 1) X10 K rfl rfl <| oAdd X10 K rfl rfl ?_
  refine oPf (ty := .int) X10 K rfl (H 29) e10 (oFo W9 ((oFn W4 ((Fld.ext E1 Y2).keep K3 (ninS (oNe (Exa.lt Y0) Y16) nin0)) (Exa.ne Y0 Y8 (by decide))).keep K7 (ninS (oNe (Exa.lt Y0) Y16) (ninS (Exa.ne Y0 Y8 (by decide)) nin0))) (Or.inl (H 30)) (Or.inl (H 28)) (by decide)) (Exa.wr W9 ((Exa.wr W4 ((Exa.ext E1 Y0).keep K3)).keep K7)) (Or.inl (H 30)) (H 15) (by decide) rfl rfl N9 Y5 fun T11 h11 L11 N11 X11 e11 W11 Fw11 => ?_
  exact oRv X11 K rfl e11 N11 (by decide) ⟨rfl, (((((((Keep.refl _ _).ext E1).trans K3 (allS (Or.inr Y16) all0)).wr W4 (oM 1 rfl)).trans K7 (allS (Or.inr Y16) (allS (oM 1 rfl) all0))).wr W9 (oM 0 rfl)).wr W11 (oM 0 rfl)), (Exa.wr W11 (Exa.wr W9 ((Exa.wr W4 ((Exa.ext E1 Y0).keep K3)).keep K7))), (oFo W11 Fw9 (Or.inl (H 28)) (Or.inl (H 30)) (by decide))⟩
theorem own_ade1 (hw : own_HW a0 Z) {a1 k1 v1 en k2 : Addr} {p1 mc : Int32} {w2 : Value} (Z0 : n0 <= h0.size) (Y0 : Exa Z h0 a1 "java/util/TreeMap") (Y1 : f0 Z h0 a1 (.int 1)) (Y2 : f1 Z h0 a1 (.int mc)) (Y3 : f2 Z h0 a1 .null) (Y4 : f47 Z h0 a1 (.ref en)) (Y5 : n0 <= a1) (Y6 : Exa Z h0 k1 "java/lang/Integer") (Y7 : f48 Z h0 k1 (.int p1)) (Y8 : Exa Z h0 en "java/util/TreeMap$Entry") (Y9 : f49 Z h0 en (.int 1)) (Y10 : f50 Z h0 en (.ref k2)) (Y11 : f51 Z h0 en w2) (Y12 : f52 Z h0 en .null) (Y13 : f55 Z h0 en .null) (Y14 : f53 Z h0 en .null) (Y15 : n0 <= en) : own_M l ⟨"java/util/TreeMap", "addEntry", "(Ljava/lang/Object;Ljava/lang/Object;Ljava/util/TreeMap$Entry;Z)V"⟩ jdk_2729_method_29_code 6 none ⟨2, 1, 6, 28⟩ ws Z h0 n0 #[(.ref a1), (.ref k1), (.ref v1), (.ref en), (.int 1)] (fun v h => (v = none /\ Keep h0 h [a1, en] /\ (Exa Z h a1 "java/util/TreeMap") /\ (f0 Z h a1 (.int 2)))) := by
  refine own_beg (plainFor_of_name own_pn2) own_t96 #[.val (.ref a1), .val (.ref k1), .val (.ref v1), .val (.ref en), .val (.int 1), .unset] (own_e5_6 · ⟨rfl, rfl, rfl, rfl, rfl⟩) fun p e s m below meth c sa K X0 e0 => ?_
  have N0 := Fr.nil n0
  have H := oh hw
  refine oNew X0 K rfl (H 597) (H 598) (H 599) e0 (Nat.le_refl _) (by decide) fun T1 h1 b1 g1 Y16 X1 e1 E1 A1 D1 => ?_
  refine oDup X1 K rfl rfl <| oA X1 K rfl rfl rfl <| oA X1 K rfl rfl rfl <| oA X1 K rfl rfl rfl ?_
  refine oNc X1 K rfl (H 600) (H 601) (H 603) (H 599) (by decide) rfl e1 (own_ent1 hw (Nat.le_trans Z0 E1.1) A1 (D1 (Or.inl (H 606)) (ty := .boolean) (by decide)) (D1 (Or.inl (H 608)) (ty := (.object "java/lang/Object")) (by decide)) (D1 (Or.inl (H 610)) (ty := (.object "java/lang/Object")) (by decide)) (D1 (Or.inl (H 612)) (ty := (.object "java/util/TreeMap$Entry")) (by decide)) (D1 (Or.inl (H 732)) (ty := (.object "java/util/TreeMap$Entry")) (by decide)) (D1 (Or.inl (H 693)) (ty := (.object "java/util/TreeMap$Entry")) (by decide)) (Nat.le_trans Z0 Y16)) rfl rfl (lenOf own_pd45 rfl) rfl N0 1 rfl (by decide) fun v3 T3 h3 L3 N3 q3 e3 X3 => ?_
  obtain ⟨rfl, K3, Y17, Y18, Y19, Y20, Y21, Y22, Y23⟩ := q3
  refine oSA (L' := #[.val (.ref a1), .val (.ref k1), .val (.ref v1), .val (.ref en), .val (.int 1), .val (.ref b1)]) X3 K rfl rfl rfl <| oJ X3 K rfl rfl <| oFN X3 K rfl (XT.i0_eq_f (by decide : ¬ ((1 : Int32) = (0 : Int32)))) <| oA X3 K rfl rfl rfl <| oB X3 K rfl rfl rfl ?_
  refine oPf (ty := (.object "java/util/TreeMap$Entry")) X3 K rfl (H 731) e3 ((Fld.ext E1 Y13).keep K3 (ninS (oNe (Exa.lt Y8) Y16) nin0)) ((Exa.ext E1 Y8).keep K3) (Or.inl (H 732)) (H 598) (by decide) rfl rfl N3 Y15 fun T4 h4 L4 N4 X4 e4 W4 Fw4 => ?_
  refine oGo X4 K rfl <| oA X4 K rfl rfl rfl <| oB X4 K rfl rfl rfl ?_
  have z6 := (Nat.le_trans (Nat.le_trans E1.1 K3.1) (Keep.of_wr W4).1)
  refine oPc X4 K rfl (H 699) (H 700) (H 702) (H 701) (H 703) (H 16) (by decide) e4 (Exa.wr W4 ((Exa.ext E1 Y0).keep K3)) (own_fix hw (Nat.le_trans Z0 z6) (Exa.wr W4 ((Exa.ext E1 Y0).keep K3)) (oFn W4 ((Fld.ext E1 Y4).keep K3 (ninS (oNe (Exa.lt Y0) Y16) nin0)) (Exa.ne Y0 Y8 (by decide))) (Exa.wr W4 Y17) (oFn W4 Y18 (Ne.symm (oNe (Exa.lt Y8) Y16))) (oFn W4 Y21 (Ne.symm (oNe (Exa.lt Y8) Y16))) (Exa.wr W4 ((Exa.ext E1 Y8).keep K3)) (oFo W4 ((Fld.ext E1 Y9).keep K3 (ninS (oNe (Exa.lt Y8) Y16) nin0)) (Or.inl (H 606)) (Or.inl (H 732)) (by decide)) (Nat.le_trans Z0 Y16) Y15 (Ne.symm (oNe (Exa.lt Y8) Y16))) rfl rfl (lenOf own_pd48 rfl) rfl N4 0 rfl (by decide) fun v7 T7 h7 L7 N7 q7 e7 X7 => ?_
  obtain ⟨rfl, K7⟩ := q7
  refine oA X7 K rfl rfl rfl <| oDup X7 K rfl rfl ?_
  refine oGf X7 K rfl (H 27) e7 ((oFn W4 ((Fld.ext E1 Y1).keep K3 (ninS (oNe (Exa.lt Y0) Y16) nin0)) (Exa.ne Y0 Y8 (by decide))).keep K7 (ninS (oNe (Exa.lt Y0) Y16) (ninS (Exa.ne Y0 Y8 (by decide)) nin0))) fun T8 X8 e8 => ?_
  refine oC (z := 1) X8 K rfl rfl <| oAdd (z := 2) X8 K rfl rfl ?_
  refine oPf (ty := .int) X8 K rfl (H 27) e8 ((oFn W4 ((Fld.ext E1 Y1).keep K3 (ninS (oNe (Exa.lt Y0) Y16) nin0)) (Exa.ne Y0 Y8 (by decide))).keep K7 (ninS (oNe (Exa.lt Y0) Y16) (ninS (Exa.ne Y0 Y8 (by decide)) nin0))) ((Exa.wr W4 ((Exa.ext E1 Y0).keep K3)).keep K7) (Or.inl (H 28)) (H 15) (by decide) rfl rfl N7 Y5 fun T9 h9 L9 N9 X9 e9 W9 Fw9 => ?_
  refine oA X9 K rfl rfl rfl <| oDup X9 K rfl rfl ?_
  refine oGf X9 K rfl (H 29) e9 (oFo W9 ((oFn W4 ((Fld.ext E1 Y2).keep K3 (ninS (oNe (Exa.lt Y0) Y16) nin0)) (Exa.ne Y0 Y8 (by decide))).keep K7 (ninS (oNe (Exa.lt Y0) Y16) (ninS (Exa.ne Y0 Y8 (by decide)) nin0))) (Or.inl (H 30)) (Or.inl (H 28)) (by decide)) fun T10 X10 e10 => ?_
  refine oC (z := 1) X10 K rfl rfl <| oAdd X10 K rfl rfl ?_
  refine oPf (ty := .int) X10 K rfl (H 29) e10 (oFo W9 ((oFn W4 ((Fld.ext E1 Y2).keep K3 (ninS (oNe (Exa.lt Y0) Y16) nin0)) (Exa.ne Y0 Y8 (by decide))).keep K7 (ninS (oNe (Exa.lt Y0) Y16) (ninS (Exa.ne Y0 Y8 (by decide)) nin0))) (Or.inl (H 30)) (Or.inl (H 28)) (by decide)) (Exa.wr W9 ((Exa.wr W4 ((Exa.ext E1 Y0).keep K3)).keep K7)) (Or.inl (H 30)) (H 15) (by decide) rfl rfl N9 Y5 fun T11 h11 L11 N11 X11 e11 W11 Fw11 => ?_
  exact oRv X11 K rfl e11 N11 (by decide) ⟨rfl, (((((((Keep.refl _ _).ext E1).trans K3 (allS (Or.inr Y16) all0)).wr W4 (oM 1 rfl)).trans K7 (allS (Or.inr Y16) (allS (oM 1 rfl) all0))).wr W9 (oM 0 rfl)).wr W11 (oM 0 rfl)), (Exa.wr W11 (Exa.wr W9 ((Exa.wr W4 ((Exa.ext E1 Y0).keep K3)).keep K7))), (oFo W11 Fw9 (Or.inl (H 28)) (Or.inl (H 30)) (by decide))⟩
theorem own_tput31 (hw : own_HW a0 Z) {a1 k1 v1 en k2 : Addr} {p1 mc : Int32} {w2 : Value} {p2 : Int32} (Z0 : n0 <= h0.size) (Y0 : Exa Z h0 a1 "java/util/TreeMap") (Y1 : f0 Z h0 a1 (.int 1)) (Y2 : f1 Z h0 a1 (.int mc)) (Y3 : f2 Z h0 a1 .null) (Y4 : f47 Z h0 a1 (.ref en)) (Y5 : n0 <= a1) (Y6 : Exa Z h0 k1 "java/lang/Integer") (Y7 : f48 Z h0 k1 (.int p1)) (Y8 : Exa Z h0 en "java/util/TreeMap$Entry") (Y9 : f49 Z h0 en (.int 1)) (Y10 : f50 Z h0 en (.ref k2)) (Y11 : f51 Z h0 en w2) (Y12 : f52 Z h0 en .null) (Y13 : f55 Z h0 en .null) (Y14 : f53 Z h0 en .null) (Y15 : n0 <= en) (Y16 : Exa Z h0 k2 "java/lang/Integer") (Y17 : f48 Z h0 k2 (.int p2)) (hne : ¬ (p1 = p2)) : own_M l ⟨"java/util/TreeMap", "put", "(Ljava/lang/Object;Ljava/lang/Object;Z)Ljava/lang/Object;"⟩ jdk_2729_method_31_code 10 (some (.object "java/lang/Object")) ⟨3, 1, 6, 45⟩ ws Z h0 n0 #[(.ref a1), (.ref k1), (.ref v1), (.int 1)] (fun v h => (v = some .null /\ Keep h0 h [a1, en] /\ (Exa Z h a1 "java/util/TreeMap") /\ (f0 Z h a1 (.int 2)))) := by
  refine own_beg (plainFor_of_name own_pn2) own_t78 #[.val (.ref a1), .val (.ref k1), .val (.ref v1), .val (.int 1), .unset, .unset, .unset, .unset, .unset, .unset] (own_e4_10 · ⟨rfl, rfl, rfl, rfl⟩) fun p e s m below meth c sa K X0 e0 => ?_
  have N0 := Fr.nil n0
  have H := oh hw
  refine oA X0 K rfl rfl rfl ?_
  refine oGf X0 K rfl (H 563) e0 Y4 fun T1 X1 e1 => ?_
  refine oSA (L' := #[.val (.ref a1), .val (.ref k1), .val (.ref v1), .val (.int 1), .val (.ref en), .unset, .unset, .unset, .unset, .unset]) X1 K rfl rfl rfl <| oB X1 K rfl rfl rfl <| oMY X1 K rfl <| oA X1 K rfl rfl rfl ?_
  refine oGf X1 K rfl (H 31) e1 Y3 fun T2 X2 e2 => ?_
  refine oSA (L' := #[.val (.ref a1), .val (.ref k1), .val (.ref v1), .val (.int 1), .val (.ref en), .unset, .unset, .val .null, .unset, .unset]) X2 K rfl rfl rfl <| oB X2 K rfl rfl rfl <| oNY X2 K rfl <| oA X2 K rfl rfl rfl ?_
  refine oTc X2 K rfl (H 688) (H 689) (H 690) (H 165) (by decide) e2 (own_rnn1 hw Z0 ) rfl (lenOf own_pd49 rfl) rfl N0 0 rfl (by decide) fun v4 T4 h4 L4 N4 q4 e4 X4 => ?_
  obtain ⟨rfl, y4⟩ := q4
  refine oPop X4 K rfl rfl <| oA X4 K rfl rfl rfl ?_
  refine oCst X4 K rfl (H 575) (e4.trans y4) (Ins.of_exa Y6 (H 576)) fun T5 X5 e5 => ?_
  refine oSA (L' := #[.val (.ref a1), .val (.ref k1), .val (.ref v1), .val (.int 1), .val (.ref en), .unset, .unset, .val .null, .val (.ref k1), .unset]) X5 K rfl rfl rfl <| oB X5 K rfl rfl rfl <| oSA (L' := #[.val (.ref a1), .val (.ref k1), .val (.ref v1), .val (.int 1), .val (.ref en), .unset, .val (.ref en), .val .null, .val (.ref k1), .unset]) X5 K rfl rfl rfl <| oB X5 K rfl rfl rfl <| oB X5 K rfl rfl rfl ?_
  refine oGf X5 K rfl (H 691) e5 Y10 fun T6 X6 e6 => ?_
  refine oFc X6 K rfl (H 577) (H 578) (mvT K.wz (H 579)) (H 580) (H 581) (H 582) (H 583) (H 576) (H 584) (H 537) (by decide) e6 Y6 (own_ictoO hw Z0 Y6 Y7 Y16 Y17) rfl rfl (lenOf own_pd43 rfl) rfl N4 0 rfl (by decide) fun v8 T8 h8 L8 N8 q8 e8 X8 => ?_
  obtain ⟨rfl, y8⟩ := q8
  refine oSI (L' := #[.val (.ref a1), .val (.ref k1), .val (.ref v1), .val (.int 1), .val (.ref en), .val (.int (own_cmp p1 p2)), .val (.ref en), .val .null, .val (.ref k1), .unset]) X8 K rfl rfl <| oJ X8 K rfl rfl ?_
  by_cases hc143 : (own_cmp p1 p2) < (0 : Int32)
  · refine oFN X8 K rfl (XT.i0_ge_f hc143) <| oB X8 K rfl rfl rfl ?_
    refine oGf X8 K rfl (H 731) (e8.trans y8) Y13 fun T9 X9 e9 => ?_
    refine oSA (L' := #[.val (.ref a1), .val (.ref k1), .val (.ref v1), .val (.int 1), .val .null, .val (.int (own_cmp p1 p2)), .val (.ref en), .val .null, .val (.ref k1), .unset]) X9 K rfl rfl rfl <| oGo X9 K rfl <| oB X9 K rfl rfl rfl <| oMN X9 K rfl <| oA X9 K rfl rfl rfl <| oA X9 K rfl rfl rfl <| oA X9 K rfl rfl rfl <| oB X9 K rfl rfl rfl <| oJ X9 K rfl rfl <| oFN X9 K rfl (XT.i0_ge_f hc143) <| oC (z := 1) X9 K rfl rfl <| oGo X9 K rfl ?_
    refine oPc X9 K rfl (H 694) (H 695) (H 697) (H 696) (H 698) (H 16) (by decide) e9 Y0 (own_ade1 hw Z0 Y0 Y1 Y2 Y3 Y4 Y5 Y6 Y7 Y8 Y9 Y10 Y11 Y12 Y13 Y14 Y15) rfl rfl (lenOf own_pd50 rfl) rfl N8 0 rfl (by decide) fun v11 T11 h11 L11 N11 q11 e11 X11 => ?_
    obtain ⟨rfl, K11, Y18, Y19⟩ := q11
    refine oN X11 K rfl ?_
    exact oRa X11 K rfl rfl rfl e11 N11 (by decide) ⟨rfl, ((Keep.refl _ _).trans K11 (allS (oM 0 rfl) (allS (oM 1 rfl) all0))), Y18, Y19⟩
  · refine oFY X8 K rfl (XT.i0_ge_t hc143) <| oJ X8 K rfl rfl <| oFN X8 K rfl (XT.i0_le_f (own_cmpP hne hc143)) <| oB X8 K rfl rfl rfl ?_
    refine oGf X8 K rfl (H 692) (e8.trans y8) Y14 fun T12 X12 e12 => ?_
    refine oSA (L' := #[.val (.ref a1), .val (.ref k1), .val (.ref v1), .val (.int 1), .val .null, .val (.int (own_cmp p1 p2)), .val (.ref en), .val .null, .val (.ref k1), .unset]) X12 K rfl rfl rfl <| oGo X12 K rfl <| oB X12 K rfl rfl rfl <| oMN X12 K rfl <| oA X12 K rfl rfl rfl <| oA X12 K rfl rfl rfl <| oA X12 K rfl rfl rfl <| oB X12 K rfl rfl rfl <| oJ X12 K rfl rfl <| oFY X12 K rfl (XT.i0_ge_t hc143) <| oC (z := 0) X12 K rfl rfl ?_
    refine oPc X12 K rfl (H 694) (H 695) (H 697) (H 696) (H 698) (H 16) (by decide) e12 Y0 (own_ade0 hw Z0 Y0 Y1 Y2 Y3 Y4 Y5 Y6 Y7 Y8 Y9 Y10 Y11 Y12 Y13 Y14 Y15) rfl rfl (lenOf own_pd50 rfl) rfl N8 0 rfl (by decide) fun v14 T14 h14 L14 N14 q14 e14 X14 => ?_
    obtain ⟨rfl, K14, Y20, Y21⟩ := q14
    refine oN X14 K rfl ?_
    exact oRa X14 K rfl rfl rfl e14 N14 (by decide) ⟨rfl, ((Keep.refl _ _).trans K14 (allS (oM 0 rfl) (allS (oM 1 rfl) all0))), Y20, Y21⟩
theorem own_tput21 (hw : own_HW a0 Z) {a1 k1 v1 en k2 : Addr} {p1 mc : Int32} {w2 : Value} {p2 : Int32} (Z0 : n0 <= h0.size) (Y0 : Exa Z h0 a1 "java/util/TreeMap") (Y1 : f0 Z h0 a1 (.int 1)) (Y2 : f1 Z h0 a1 (.int mc)) (Y3 : f2 Z h0 a1 .null) (Y4 : f47 Z h0 a1 (.ref en)) (Y5 : n0 <= a1) (Y6 : Exa Z h0 k1 "java/lang/Integer") (Y7 : f48 Z h0 k1 (.int p1)) (Y8 : Exa Z h0 en "java/util/TreeMap$Entry") (Y9 : f49 Z h0 en (.int 1)) (Y10 : f50 Z h0 en (.ref k2)) (Y11 : f51 Z h0 en w2) (Y12 : f52 Z h0 en .null) (Y13 : f55 Z h0 en .null) (Y14 : f53 Z h0 en .null) (Y15 : n0 <= en) (Y16 : Exa Z h0 k2 "java/lang/Integer") (Y17 : f48 Z h0 k2 (.int p2)) (hne : ¬ (p1 = p2)) : own_M l ⟨"java/util/TreeMap", "put", "(Ljava/lang/Object;Ljava/lang/Object;)Ljava/lang/Object;"⟩ jdk_2729_method_21_code 3 (some (.object "java/lang/Object")) ⟨4, 1, 6, 66⟩ ws Z h0 n0 #[(.ref a1), (.ref k1), (.ref v1)] (fun v h => (v = some .null /\ Keep h0 h [a1, en] /\ (Exa Z h a1 "java/util/TreeMap") /\ (f0 Z h a1 (.int 2)))) := by
  refine own_beg (plainFor_of_name own_pn2) own_t77 #[.val (.ref a1), .val (.ref k1), .val (.ref v1)] (own_e3_3 · ⟨rfl, rfl, rfl⟩) fun p e s m below meth c sa K X0 e0 => ?_
  have N0 := Fr.nil n0
  have H := oh hw
  refine oA X0 K rfl rfl rfl <| oA X0 K rfl rfl rfl <| oA X0 K rfl rfl rfl <| oC (z := 1) X0 K rfl rfl ?_
  refine oPc X0 K rfl (H 558) (H 559) (H 561) (H 560) (H 562) (H 16) (by decide) e0 Y0 (own_tput31 hw Z0 Y0 Y1 Y2 Y3 Y4 Y5 Y6 Y7 Y8 Y9 Y10 Y11 Y12 Y13 Y14 Y15 Y16 Y17 hne) rfl rfl (lenOf own_pd47 rfl) rfl N0 0 rfl (by decide) fun v2 T2 h2 L2 N2 q2 e2 X2 => ?_
  obtain ⟨rfl, K2, Y18, Y19⟩ := q2
  exact oRa X2 K rfl rfl rfl e2 N2 (by decide) ⟨rfl, ((Keep.refl _ _).trans K2 (allS (oM 0 rfl) (allS (oM 1 rfl) all0))), Y18, Y19⟩
theorem own_trm0 (hw : own_HW a0 Z) {a1 tm : Addr} {p1 p2 : Int32} (Z0 : n0 <= h0.size) (Y0 : f3 Z h0 a1 (.ref tm)) (Y1 : f8 Z h0 a1 (.int p2)) (Y2 : Exa Z h0 tm "java/util/TreeMap") (Y3 : f0 Z h0 tm (.int p1)) (hz : ¬ (p1 = p2)) : own_M l ⟨"convoke/protocol/AllToAll", "terminated", "()Z"⟩ prog_58_method_7_code 1 (some .boolean) ⟨1, 0, 0, 12⟩ ws Z h0 n0 #[(.ref a1)] (fun v h => (v = some (.int 0) /\ h = h0)) := by
  refine own_beg (plainFor_of_name own_pn26) own_t85 #[.val (.ref a1)] (own_e1_1 · rfl) fun p e s m below meth c sa K X0 e0 => ?_
  have N0 := Fr.nil n0
  have H := oh hw
  refine oA X0 K rfl rfl rfl ?_
  refine oGf X0 K rfl (H 33) e0 Y0 fun T1 X1 e1 => ?_
  refine oGc X1 K rfl (H 618) (H 619) (H 620) (H 621) (H 622) (H 623) (H 624) (H 556) (H 625) (H 16) (by decide) (by decide) (by decide) e1 Y2 (own_tsize hw Z0 Y3) rfl rfl (lenOf own_pd11 rfl) rfl N0 0 rfl (by decide) fun v3 T3 h3 L3 N3 q3 e3 X3 => ?_
  obtain ⟨rfl, y3⟩ := q3
  refine oA X3 K rfl rfl rfl ?_
  refine oGf X3 K rfl (H 64) (e3.trans y3) Y1 fun T4 X4 e4 => ?_
  refine oCY X4 K rfl (XT.ii_ne_t hz) <| oC (z := 0) X4 K rfl rfl ?_
  exact oRn X4 K (by simp) rfl e4 N3 (by decide) ⟨rfl, rfl⟩
theorem own_trm1 (hw : own_HW a0 Z) {a1 tm : Addr} {p1 p2 : Int32} (Z0 : n0 <= h0.size) (Y0 : f3 Z h0 a1 (.ref tm)) (Y1 : f8 Z h0 a1 (.int p2)) (Y2 : Exa Z h0 tm "java/util/TreeMap") (Y3 : f0 Z h0 tm (.int p1)) (hz : p1 = p2) : own_M l ⟨"convoke/protocol/AllToAll", "terminated", "()Z"⟩ prog_58_method_7_code 1 (some .boolean) ⟨1, 0, 0, 12⟩ ws Z h0 n0 #[(.ref a1)] (fun v h => (v = some (.int 1) /\ h = h0)) := by
  refine own_beg (plainFor_of_name own_pn26) own_t85 #[.val (.ref a1)] (own_e1_1 · rfl) fun p e s m below meth c sa K X0 e0 => ?_
  have N0 := Fr.nil n0
  have H := oh hw
  refine oA X0 K rfl rfl rfl ?_
  refine oGf X0 K rfl (H 33) e0 Y0 fun T1 X1 e1 => ?_
  refine oGc X1 K rfl (H 618) (H 619) (H 620) (H 621) (H 622) (H 623) (H 624) (H 556) (H 625) (H 16) (by decide) (by decide) (by decide) e1 Y2 (own_tsize hw Z0 Y3) rfl rfl (lenOf own_pd11 rfl) rfl N0 0 rfl (by decide) fun v3 T3 h3 L3 N3 q3 e3 X3 => ?_
  obtain ⟨rfl, y3⟩ := q3
  refine oA X3 K rfl rfl rfl ?_
  refine oGf X3 K rfl (H 64) (e3.trans y3) Y1 fun T4 X4 e4 => ?_
  refine oCN X4 K rfl (XT.ii_ne_f hz) <| oC (z := 1) X4 K rfl rfl <| oGo X4 K rfl ?_
  exact oRn X4 K (by simp) rfl e4 N3 (by decide) ⟨rfl, rfl⟩
theorem own_btrmy0 (hw : own_HW a0 Z) {a1 : Addr} (Z0 : n0 <= h0.size) (Y0 : Exa Z h0 a1 "convoke/protocol/Bracha") (Y1 : f37 Z h0 a1 (.int 0)) : own_M l ⟨"convoke/protocol/BrachaFamily", "terminated", "()Z"⟩ prog_63_method_7_code 1 (some .boolean) ⟨0, 0, 0, 0⟩ ws Z h0 n0 #[(.ref a1)] (fun v h => (v = some (.int 0) /\ h = h0)) := by
  refine own_beg (plainFor_of_name own_pn8) own_t74 #[.val (.ref a1)] (own_e1_1 · rfl) fun p e s m below meth c sa K X0 e0 => ?_
  have N0 := Fr.nil n0
  have H := oh hw
  refine oA X0 K rfl rfl rfl ?_
  refine oGf X0 K rfl (H 347) e0 Y1 fun T1 X1 e1 => ?_
  exact oRn X1 K (by simp) rfl e1 N0 (by decide) ⟨rfl, rfl⟩
theorem own_btrma0 (hw : own_HW a0 Z) {a1 : Addr} (Z0 : n0 <= h0.size) (Y0 : Exa Z h0 a1 "convoke/protocol/Bracha") (Y1 : f37 Z h0 a1 (.int 0)) : own_M l ⟨"convoke/protocol/Bracha", "terminated", "()Z"⟩ prog_62_method_14_code 1 (some .boolean) ⟨1, 0, 0, 12⟩ ws Z h0 n0 #[(.ref a1)] (fun v h => (v = some (.int 0) /\ h = h0)) := by
  refine own_beg (plainFor_of_name own_pn5) own_t73 #[.val (.ref a1)] (own_e1_1 · rfl) fun p e s m below meth c sa K X0 e0 => ?_
  have N0 := Fr.nil n0
  have H := oh hw
  refine oA X0 K rfl rfl rfl ?_
  refine oSc X0 K rfl (H 531) (own_same_74 hw) (H 532) (H 488) (H 534) (H 109) (by decide) e0 Y0 (own_btrmy0 hw Z0 Y0 Y1) rfl rfl (lenOf own_pd9 rfl) rfl N0 0 rfl (by decide) fun v2 T2 h2 L2 N2 q2 e2 X2 => ?_
  obtain ⟨rfl, y2⟩ := q2
  exact oRn X2 K (by simp) rfl (e2.trans y2) N2 (by decide) ⟨rfl, rfl⟩
theorem own_btrmy1 (hw : own_HW a0 Z) {a1 : Addr} (Z0 : n0 <= h0.size) (Y0 : Exa Z h0 a1 "convoke/protocol/Bracha") (Y1 : f37 Z h0 a1 (.int 1)) : own_M l ⟨"convoke/protocol/BrachaFamily", "terminated", "()Z"⟩ prog_63_method_7_code 1 (some .boolean) ⟨0, 0, 0, 0⟩ ws Z h0 n0 #[(.ref a1)] (fun v h => (v = some (.int 1) /\ h = h0)) := by
  refine own_beg (plainFor_of_name own_pn8) own_t74 #[.val (.ref a1)] (own_e1_1 · rfl) fun p e s m below meth c sa K X0 e0 => ?_
  have N0 := Fr.nil n0
  have H := oh hw
  refine oA X0 K rfl rfl rfl ?_
  refine oGf X0 K rfl (H 347) e0 Y1 fun T1 X1 e1 => ?_
  exact oRn X1 K (by simp) rfl e1 N0 (by decide) ⟨rfl, rfl⟩
theorem own_btrma1 (hw : own_HW a0 Z) {a1 : Addr} (Z0 : n0 <= h0.size) (Y0 : Exa Z h0 a1 "convoke/protocol/Bracha") (Y1 : f37 Z h0 a1 (.int 1)) : own_M l ⟨"convoke/protocol/Bracha", "terminated", "()Z"⟩ prog_62_method_14_code 1 (some .boolean) ⟨1, 0, 0, 12⟩ ws Z h0 n0 #[(.ref a1)] (fun v h => (v = some (.int 1) /\ h = h0)) := by
  refine own_beg (plainFor_of_name own_pn5) own_t73 #[.val (.ref a1)] (own_e1_1 · rfl) fun p e s m below meth c sa K X0 e0 => ?_
  have N0 := Fr.nil n0
  have H := oh hw
  refine oA X0 K rfl rfl rfl ?_
  refine oSc X0 K rfl (H 531) (own_same_74 hw) (H 532) (H 488) (H 534) (H 109) (by decide) e0 Y0 (own_btrmy1 hw Z0 Y0 Y1) rfl rfl (lenOf own_pd9 rfl) rfl N0 0 rfl (by decide) fun v2 T2 h2 L2 N2 q2 e2 X2 => ?_
  obtain ⟨rfl, y2⟩ := q2
  exact oRn X2 K (by simp) rfl (e2.trans y2) N2 (by decide) ⟨rfl, rfl⟩
theorem own_p0 {n : Int32} (h : 1 <= n.toInt /\ n.toInt <= 8) : ¬ n = (0 : Int32) := by
  rintro rfl
  have : (0 : Int32).toInt = 0 := by decide
  omega
theorem own_min (hw : own_HW a0 Z) {p1 : Int32} (Z0 : n0 <= h0.size)  : own_M l ⟨"java/lang/Math", "min", "(II)I"⟩ jdk_29_method_69_code 2 (some .int) ⟨0, 0, 0, 0⟩ ws Z h0 n0 #[(.int p1), (.int p1)] (fun v h => (v = some (.int p1) /\ h = h0)) := by
  refine own_beg (Jvm.Free.JP.mathPlain rfl (by decide +kernel)) own_t91 #[.val (.int p1), .val (.int p1)] (own_e2_2 · ⟨rfl, rfl⟩) fun p e s m below meth c sa K X0 e0 => ?_
  have N0 := Fr.nil n0
  refine oI X0 K rfl rfl <| oI X0 K rfl rfl ?_
  by_cases hc2 : p1 < p1
  · refine oCY X0 K rfl (XT.ii_gt_t hc2) <| oI X0 K rfl rfl ?_
    exact oRi X0 K rfl e0 N0 (by decide) ⟨rfl, rfl⟩
  · refine oCN X0 K rfl (XT.ii_gt_f hc2) <| oI X0 K rfl rfl <| oGo X0 K rfl ?_
    exact oRi X0 K rfl e0 N0 (by decide) ⟨rfl, rfl⟩
theorem own_cp3 (hw : own_HW a0 Z) {a1 : Addr} {p1 : Int32} {k1 : ClassId} {hs : List (Int32 × Value)} {q : own_P0} (Z0 : n0 <= h0.size) (Y0 : Arh Z h0 a1 k1 (.object "java/lang/Object") p1 hs [] .null) (hEl : own_Els Z h0 hs) (hc0 : ¬ (p1 < 0)) (hc8 : p1.toNatClampNeg <= 8) (hq : own_Env Z q) (hOld : Old Z n0 h0) : own_M l ⟨"java/util/Arrays", "copyOf", "([Ljava/lang/Object;ILjava/lang/Class;)[Ljava/lang/Object;"⟩ jdk_65_method_120_code 4 (some (.array (.object "java/lang/Object"))) ⟨1, 1, 8, 18⟩ ws Z h0 n0 #[(.ref a1), (.int p1), (.ref q.fMO)] (fun v h => ∃ ar : Addr, ∃ kr : ClassId, ∃ us : List Value, (v = some (.ref ar) /\ Keep h0 h [] /\ (Arv Z h ar kr (.object "java/lang/Object") p1 us .null) /\ (h0.size <= ar))) := by
  refine own_beg (plainFor_of_name own_pn27) own_t90 #[.val (.ref a1), .val (.int p1), .val (.ref q.fMO), .unset] (own_e3_4 · ⟨rfl, rfl, rfl⟩) fun p e s m below meth c sa K X0 e0 => ?_
  have N0 := Fr.nil n0
  have H := oh hw
  refine oA X0 K rfl rfl rfl ?_
  obtain ⟨T1, X1, e1, st1⟩ := own_ldcM X0 K.1 K.wz K.ow (H 652) e0 hq.mMO (g := (mkF m 1 #[.val (.ref a1), .val (.int p1), .val (.ref q.fMO), .unset] [(.ref q.fMO)])) rfl (K.d rfl)
  refine own_fs (st1 _ (Steps.refl _)) ?_
  show own_G _ _ _ _ (T1.setTop (mkF m 3 #[.val (.ref a1), .val (.int p1), .val (.ref q.fMO), .unset] [(.ref q.fMO), (.ref q.fMO)]))
  refine own_fs (Jvm.RoadKit.acmp (g := (mkF m 3 #[.val (.ref a1), .val (.int p1), .val (.ref q.fMO), .unset] [(.ref q.fMO), (.ref q.fMO)])) X1 K.1 rfl rfl rfl (pc0 := 3) (pc' := 6) (same := true) rfl (K.d rfl) rfl (decide_eq_true (congrArg Value.ref rfl)) (by decide) (by decide) (Steps.refl _)) ?_
  show own_G _ _ _ _ (T1.setTop (mkF m 6 #[.val (.ref a1), .val (.int p1), .val (.ref q.fMO), .unset] []))
  refine oI X1 K rfl rfl ?_
  refine oNR X1 K rfl (H 653) (H 445) e1 (Nat.le_refl _) hc0 8 hc8 (by decide) fun T2 h2 b2 k2 g2 Y1 X2 e2 E2 A2 D2 O2 => ?_
  have Y2 : Arh Z h2 b2 k2 (.object "java/lang/Object") p1 [] [] .null := A2
  refine oGo X2 K rfl <| oSAn X2 K rfl rfl rfl <| oA X2 K rfl rfl rfl <| oC (z := 0) X2 K rfl rfl <| oA X2 K rfl rfl rfl <| oC (z := 0) X2 K rfl rfl <| oA X2 K rfl rfl rfl ?_
  obtain ⟨cl3, Ar3, -, S3, O3, -, -⟩ := (Y0.ext E2)
  refine oAn X2 K rfl e2 Ar3 (len_of S3 O3) <| oI X2 K rfl rfl ?_
  refine oTc X2 K rfl (H 654) (H 655) (H 657) (H 656) (by decide) e2 (own_min hw (Nat.le_trans Z0 E2.1) ) rfl (lenOf own_pd41 rfl) rfl N0 4 rfl (by decide) fun v5 T5 h5 L5 N5 q5 e5 X5 => ?_
  obtain ⟨rfl, y5⟩ := q5
  obtain ⟨T6, h6, L6, X6, e6, N6, K6, ⟨us6, V6⟩, st6⟩ := own_cpE X5 K.1 K.wz K.ow (H 658) (H 661) (H 659) (H 660) (e5.trans y5) (Y0.ext E2) (own_Els.ext hEl E2) (H 468) Y2 O2 N5 (Nat.le_trans Z0 Y1) (g := (mkF m 35 #[.val (.ref a1), .val (.int p1), .val (.ref q.fMO), .val (.ref b2)] [(.int p1), (.int 0), (.ref b2), (.int 0), (.ref a1)])) rfl (by rw [K.lm]; rfl) rfl (K.d rfl) (by decide) (W := 0) (by show 2 * 0 + _ <= _; exact Nat.le_of_eq rfl) (by decide)
  refine own_fs (st6 _ (Steps.refl _)) ?_
  show own_G _ _ _ _ (T6.setTop (mkF m 38 #[.val (.ref a1), .val (.int p1), .val (.ref q.fMO), .val (.ref b2)] []))
  refine oA X6 K rfl rfl rfl ?_
  exact oRa X6 K rfl rfl rfl e6 N6 (by decide) ⟨b2, k2, us6, rfl, (((Keep.refl _ _).ext E2).trans K6 (allS (Or.inr Y1) all0)), V6, Y1⟩
theorem own_cp2 (hw : own_HW a0 Z) {a1 : Addr} {p1 : Int32} {k1 : ClassId} {hs : List (Int32 × Value)} {q : own_P0} (Z0 : n0 <= h0.size) (Y0 : Exa Z h0 a1 "[Ljava/lang/Object;") (Y1 : Arh Z h0 a1 k1 (.object "java/lang/Object") p1 hs [] .null) (hEl : own_Els Z h0 hs) (hc0 : ¬ (p1 < 0)) (hc8 : p1.toNatClampNeg <= 8) (hq : own_Env Z q) (hOld : Old Z n0 h0) : own_M l ⟨"java/util/Arrays", "copyOf", "([Ljava/lang/Object;I)[Ljava/lang/Object;"⟩ jdk_65_method_119_code 2 (some (.array (.object "java/lang/Object"))) ⟨2, 1, 8, 33⟩ ws Z h0 n0 #[(.ref a1), (.int p1)] (fun v h => ∃ ar : Addr, ∃ kr : ClassId, ∃ us : List Value, (v = some (.ref ar) /\ Keep h0 h [] /\ (Arv Z h ar kr (.object "java/lang/Object") p1 us .null) /\ (h0.size <= ar))) := by
  refine own_beg (plainFor_of_name own_pn27) own_t89 #[.val (.ref a1), .val (.int p1)] (own_e2_2 · ⟨rfl, rfl⟩) fun p e s m below meth c sa K X0 e0 => ?_
  have N0 := Fr.nil n0
  have H := oh hw
  refine oA X0 K rfl rfl rfl <| oI X0 K rfl rfl <| oA X0 K rfl rfl rfl ?_
  obtain ⟨T1, X1, e1, st1⟩ := own_gcl X0 K.1 K.wz K.ow (H 643) (H 644) (H 646) (H 645) (H 647) e0 Y0 hq.mMO (g := (mkF m 3 #[.val (.ref a1), .val (.int p1)] [(.ref a1), (.int p1), (.ref a1)])) rfl (by rw [K.lm]; rfl) rfl (K.d rfl) (by decide) (W := 2) (by show 2 * 0 + _ <= _; exact Nat.le_of_eq rfl) (by decide)
  refine own_fs (st1 _ (Steps.refl _)) ?_
  show own_G _ _ _ _ (T1.setTop (mkF m 6 #[.val (.ref a1), .val (.int p1)] [(.ref q.fMO), (.int p1), (.ref a1)]))
  refine oTc X1 K rfl (H 649) (H 650) (H 651) (H 641) (by decide) e1 (own_cp3 hw Z0 Y1 hEl hc0 hc8 hq hOld) rfl (lenOf own_pd51 rfl) rfl N0 0 rfl (by decide) fun v6 T6 h6 L6 N6 q6 e6 X6 => ?_
  obtain ⟨ar2, kr3, us4, rfl, K6, Y2, Y3⟩ := q6
  have Y4 := Y3
  exact oRa X6 K rfl rfl rfl e6 N6 (by decide) ⟨ar2, kr3, us4, rfl, ((Keep.refl _ _).trans K6 all0), Y2, Y4⟩
theorem own_toaN (hw : own_HW a0 Z) {q : own_P0} (Z0 : n0 <= h0.size) (hq : own_Env Z q) (hOld : Old Z n0 h0) : own_M l ⟨"java/util/ImmutableCollections$ListN", "toArray", "()[Ljava/lang/Object;"⟩ jdk_45_method_7_code 1 (some (.array (.object "java/lang/Object"))) ⟨3, 1, 8, 46⟩ ws Z h0 n0 #[(.ref q.fEL)] (fun v h => ∃ ar : Addr, ∃ kr : ClassId, ∃ us : List Value, (v = some (.ref ar) /\ Keep h0 h [] /\ (Arv Z h ar kr (.object "java/lang/Object") (0 : Int32) us .null) /\ (h0.size <= ar))) := by
  refine own_beg (plainFor_of_name own_pn28) own_t101 #[.val (.ref q.fEL)] (own_e1_1 · rfl) fun p e s m below meth c sa K X0 e0 => ?_
  have N0 := Fr.nil n0
  have H := oh hw
  refine oA X0 K rfl rfl rfl ?_
  refine oGf X0 K rfl (H 727) e0 (Fld.ext hOld.2 hq.vEL) fun T1 X1 e1 => ?_
  refine oA X1 K rfl rfl rfl ?_
  refine oGf X1 K rfl (H 727) e1 (Fld.ext hOld.2 hq.vEL) fun T2 X2 e2 => ?_
  obtain ⟨cl3, Ar3, -, S3, O3, -, -⟩ := (Arv.ext hq.aEA hOld.2)
  refine oAn X2 K rfl e2 Ar3 (len_of S3 O3) ?_
  refine oTc X2 K rfl (H 729) (H 640) (H 642) (H 641) (by decide) e2 (own_cp2 hw Z0 (k1 := q.kEA) (hs := []) (Exa.ext hOld.2 hq.eEA) (Arv.arh (Arv.ext hq.aEA hOld.2)) own_Els.nil (by decide) (by decide) hq hOld) rfl (lenOf own_pd52 rfl) rfl N0 0 rfl (by decide) fun v8 T8 h8 L8 N8 q8 e8 X8 => ?_
  obtain ⟨ar4, kr5, us6, rfl, K8, Y0, Y1⟩ := q8
  have Y2 := Y1
  exact oRa X8 K rfl rfl rfl e8 N8 (by decide) ⟨ar4, kr5, us6, rfl, ((Keep.refl _ _).trans K8 all0), Y0, Y2⟩
theorem own_toa0 (hw : own_HW a0 Z) {a1 : Addr} {q : own_P0} (Z0 : n0 <= h0.size) (Y0 : Exa Z h0 a1 "java/util/ArrayList") (Y1 : f43 Z h0 a1 (.ref q.fDB)) (Y2 : f44 Z h0 a1 (.int 0)) (hq : own_Env Z q) (hOld : Old Z n0 h0) : own_M l ⟨"java/util/ArrayList", "toArray", "()[Ljava/lang/Object;"⟩ jdk_38_method_16_code 1 (some (.array (.object "java/lang/Object"))) ⟨3, 1, 8, 46⟩ ws Z h0 n0 #[(.ref a1)] (fun v h => ∃ ar : Addr, ∃ kr : ClassId, ∃ us : List Value, (v = some (.ref ar) /\ Keep h0 h [] /\ (Arv Z h ar kr (.object "java/lang/Object") (0 : Int32) us .null) /\ (h0.size <= ar))) := by
  refine own_beg (plainFor_of_name own_pn23) own_t88 #[.val (.ref a1)] (own_e1_1 · rfl) fun p e s m below meth c sa K X0 e0 => ?_
  have N0 := Fr.nil n0
  have H := oh hw
  refine oA X0 K rfl rfl rfl ?_
  refine oGf X0 K rfl (H 446) e0 Y1 fun T1 X1 e1 => ?_
  refine oA X1 K rfl rfl rfl ?_
  refine oGf X1 K rfl (H 461) e1 Y2 fun T2 X2 e2 => ?_
  refine oTc X2 K rfl (H 639) (H 640) (H 642) (H 641) (by decide) e2 (own_cp2 hw Z0 (k1 := q.kDB) (hs := []) (Exa.ext hOld.2 hq.eDB) (Arv.arh (Arv.ext hq.aDB hOld.2)) own_Els.nil (by decide) (by decide) hq hOld) rfl (lenOf own_pd52 rfl) rfl N0 0 rfl (by decide) fun v7 T7 h7 L7 N7 q7 e7 X7 => ?_
  obtain ⟨ar3, kr4, us5, rfl, K7, Y3, Y4⟩ := q7
  have Y5 := Y4
  exact oRa X7 K rfl rfl rfl e7 N7 (by decide) ⟨ar3, kr4, us5, rfl, ((Keep.refl _ _).trans K7 all0), Y3, Y5⟩
theorem own_toan (hw : own_HW a0 Z) {a1 ed : Addr} {p1 : Int32} {ke : ClassId} {hh : List (Int32 × Value)} {q : own_P0} (Z0 : n0 <= h0.size) (Y0 : Exa Z h0 a1 "java/util/ArrayList") (Y1 : f43 Z h0 a1 (.ref ed)) (Y2 : f44 Z h0 a1 (.int p1)) (Y3 : Arh Z h0 ed ke (.object "java/lang/Object") p1 hh [] .null) (Y4 : Exa Z h0 ed "[Ljava/lang/Object;") (hEl : own_Els Z h0 hh) (hn8 : 1 <= p1.toInt /\ p1.toInt <= 8) (hq : own_Env Z q) (hOld : Old Z n0 h0) : own_M l ⟨"java/util/ArrayList", "toArray", "()[Ljava/lang/Object;"⟩ jdk_38_method_16_code 1 (some (.array (.object "java/lang/Object"))) ⟨3, 1, 8, 46⟩ ws Z h0 n0 #[(.ref a1)] (fun v h => ∃ ar : Addr, ∃ kr : ClassId, ∃ us : List Value, (v = some (.ref ar) /\ Keep h0 h [] /\ (Arv Z h ar kr (.object "java/lang/Object") p1 us .null) /\ (h0.size <= ar))) := by
  refine own_beg (plainFor_of_name own_pn23) own_t88 #[.val (.ref a1)] (own_e1_1 · rfl) fun p e s m below meth c sa K X0 e0 => ?_
  have N0 := Fr.nil n0
  have H := oh hw
  refine oA X0 K rfl rfl rfl ?_
  refine oGf X0 K rfl (H 446) e0 Y1 fun T1 X1 e1 => ?_
  refine oA X1 K rfl rfl rfl ?_
  refine oGf X1 K rfl (H 461) e1 Y2 fun T2 X2 e2 => ?_
  refine oTc X2 K rfl (H 639) (H 640) (H 642) (H 641) (by decide) e2 (own_cp2 hw Z0 Y4 Y3 hEl (own_nn8 hn8).1 (own_nn8 hn8).2 hq hOld) rfl (lenOf own_pd52 rfl) rfl N0 0 rfl (by decide) fun v7 T7 h7 L7 N7 q7 e7 X7 => ?_
  obtain ⟨ar3, kr4, us5, rfl, K7, Y5, Y6⟩ := q7
  have Y7 := Y6
  exact oRa X7 K rfl rfl rfl e7 N7 (by decide) ⟨ar3, kr4, us5, rfl, ((Keep.refl _ _).trans K7 all0), Y5, Y7⟩
theorem own_i_ALc (hw : own_HW a0 Z) {a1 : Addr} {u1 : Int32} {u2 : Value} {u3 : Int32} {c1 ed : Addr} {p1 : Int32} {ke : ClassId} {hh : List (Int32 × Value)} {q : own_P0} (Z0 : n0 <= h0.size) (Y0 : Exa Z h0 a1 "java/util/ArrayList") (Y1 : f42 Z h0 a1 (.int u1)) (Y2 : f43 Z h0 a1 u2) (Y3 : f44 Z h0 a1 (.int u3)) (Y4 : n0 <= a1) (Y5 : Exa Z h0 c1 "java/util/ArrayList") (Y6 : f43 Z h0 c1 (.ref ed)) (Y7 : f44 Z h0 c1 (.int p1)) (Y8 : Arh Z h0 ed ke (.object "java/lang/Object") p1 hh [] .null) (Y9 : Exa Z h0 ed "[Ljava/lang/Object;") (hEl : own_Els Z h0 hh) (hn8 : 1 <= p1.toInt /\ p1.toInt <= 8) (hq : own_Env Z q) (hOld : Old Z n0 h0) (Y10 : a1 ≠ c1) : own_M l ⟨"java/util/ArrayList", "<init>", "(Ljava/util/Collection;)V"⟩ jdk_38_method_3_code 3 none ⟨4, 1, 8, 58⟩ ws Z h0 n0 #[(.ref a1), (.ref c1)] (fun v h => ∃ e2 : Addr, (v = none /\ Keep h0 h [a1] /\ (Exa Z h a1 "java/util/ArrayList") /\ (f42 Z h a1 (.int 0)) /\ (f43 Z h a1 (.ref e2)) /\ (f44 Z h a1 (.int p1)))) := by
  refine own_beg (plainFor_of_name own_pn23) own_t87 #[.val (.ref a1), .val (.ref c1), .unset] (own_e2_3 · ⟨rfl, rfl⟩) fun p e s m below meth c sa K X0 e0 => ?_
  have N0 := Fr.nil n0
  have H := oh hw
  refine oA X0 K rfl rfl rfl ?_
  refine oNc X0 K rfl (H 429) (H 430) (H 434) (H 433) (by decide) rfl e0 (own_i_ABL hw Z0 Y0 Y1 Y2 Y3 Y4) rfl rfl (lenOf own_pd0 rfl) rfl N0 0 rfl (by decide) fun v2 T2 h2 L2 N2 q2 e2 X2 => ?_
  obtain ⟨rfl, K2, Y11, Y12, Y13, Y14⟩ := q2
  refine oA X2 K rfl rfl rfl ?_
  refine oFc X2 K rfl (H 630) (H 631) (mvT K.wz (H 632)) (H 633) (H 634) (H 635) (H 636) (H 637) (H 638) (H 425) (by decide) e2 (Y5.keep K2) (own_toan hw (Nat.le_trans Z0 K2.1) (Y5.keep K2) (Y6.keep K2 (ninS (Ne.symm Y10) nin0)) (Y7.keep K2 (ninS (Ne.symm Y10) nin0)) (Y8.keep K2 (ninS (Exa.ne Y9 Y0 (by decide)) nin0)) (Y9.keep K2) (own_Els.keep hEl K2) hn8 hq (Old.keep hOld K2 (allS Y4 all0))) rfl rfl (lenOf own_pd53 rfl) rfl N2 0 rfl (by decide) fun v7 T7 h7 L7 N7 q7 e7 X7 => ?_
  obtain ⟨ar3, kr4, us5, rfl, K7, Y15, Y16⟩ := q7
  refine oSAn X7 K rfl rfl rfl <| oA X7 K rfl rfl rfl <| oA X7 K rfl rfl rfl ?_
  obtain ⟨cl8, Ar8, -, S8, O8, -, -⟩ := (id Y15)
  refine oAn X7 K rfl e7 Ar8 (len_of S8 O8) ?_
  refine own_fs (XS.dupX1 X7.here K.1 rfl (K.d rfl) rfl rfl rfl (Steps.refl _)) ?_
  show own_G _ _ _ _ (T7.setTop (mkF m 15 #[.val (.ref a1), .val (.ref c1), .val (.ref ar3)] [(.int p1), (.ref a1), (.int p1)]))
  refine oPf (ty := .int) X7 K rfl (H 461) e7 (Y14.keep K7 nin0) (Y11.keep K7) (Or.inl (H 462)) (H 424) (by decide) rfl rfl N7 Y4 fun T9 h9 L9 N9 X9 e9 W9 Fw9 => ?_
  refine oFN X9 K rfl (XT.i0_eq_f (own_p0 hn8)) <| oA X9 K rfl rfl rfl ?_
  obtain ⟨T10, X10, e10, st10⟩ := own_gclI X9 K.1 K.wz K.ow (H 662) (H 644) (H 663) (H 664) (H 645) (H 665) (H 666) (H 637) (H 647) (by decide) (by decide) e9 (Exa.wr W9 ((Y5.keep K2).keep K7)) hq.mMA (g := (mkF m 22 #[.val (.ref a1), .val (.ref c1), .val (.ref ar3)] [(.ref c1)])) rfl (by rw [K.lm]; rfl) rfl (K.d rfl) (by decide) (W := 0) (by show 2 * 0 + _ <= _; exact Nat.le_of_eq rfl) (by decide)
  refine own_fs (st10 _ (Steps.refl _)) ?_
  show own_G _ _ _ _ (T10.setTop (mkF m 27 #[.val (.ref a1), .val (.ref c1), .val (.ref ar3)] [(.ref q.fMA)]))
  obtain ⟨T11, X11, e11, st11⟩ := own_ldcM X10 K.1 K.wz K.ow (H 668) e10 hq.mMA (g := (mkF m 27 #[.val (.ref a1), .val (.ref c1), .val (.ref ar3)] [(.ref q.fMA)])) rfl (K.d rfl)
  refine own_fs (st11 _ (Steps.refl _)) ?_
  show own_G _ _ _ _ (T11.setTop (mkF m 29 #[.val (.ref a1), .val (.ref c1), .val (.ref ar3)] [(.ref q.fMA), (.ref q.fMA)]))
  refine own_fs (Jvm.RoadKit.acmp (g := (mkF m 29 #[.val (.ref a1), .val (.ref c1), .val (.ref ar3)] [(.ref q.fMA), (.ref q.fMA)])) X11 K.1 rfl rfl rfl (pc0 := 29) (pc' := 32) (same := true) rfl (K.d rfl) rfl (decide_eq_true (congrArg Value.ref rfl)) (by decide) (by decide) (Steps.refl _)) ?_
  show own_G _ _ _ _ (T11.setTop (mkF m 32 #[.val (.ref a1), .val (.ref c1), .val (.ref ar3)] []))
  refine oA X11 K rfl rfl rfl <| oA X11 K rfl rfl rfl ?_
  refine oPf (ty := (.array (.object "java/lang/Object"))) X11 K rfl (H 446) e11 (oFo W9 (Y13.keep K7 nin0) (Or.inl (H 447)) (Or.inl (H 462)) (by decide)) (Exa.wr W9 (Y11.keep K7)) (Or.inl (H 447)) (H 424) (by decide) rfl rfl N9 Y4 fun T12 h12 L12 N12 X12 e12 W12 Fw12 => ?_
  refine oGo X12 K rfl ?_
  exact oRv X12 K rfl e12 N12 (by decide) ⟨ar3, rfl, (((((Keep.refl _ _).trans K2 (allS (oM 0 rfl) all0)).trans K7 all0).wr W9 (oM 0 rfl)).wr W12 (oM 0 rfl)), (Exa.wr W12 (Exa.wr W9 (Y11.keep K7))), (oFo W12 (oFo W9 (Y12.keep K7 nin0) (Or.inl (H 443)) (Or.inl (H 462)) (by decide)) (Or.inl (H 443)) (Or.inl (H 447)) (by decide)), Fw12, (oFo W12 Fw9 (Or.inl (H 462)) (Or.inl (H 447)) (by decide))⟩
theorem own_i_AL0 (hw : own_HW a0 Z) {a1 : Addr} {u1 : Int32} {u2 : Value} {u3 : Int32} {q : own_P0} (Z0 : n0 <= h0.size) (Y0 : Exa Z h0 a1 "java/util/ArrayList") (Y1 : f42 Z h0 a1 (.int u1)) (Y2 : f43 Z h0 a1 u2) (Y3 : f44 Z h0 a1 (.int u3)) (Y4 : n0 <= a1) (hq : own_Env Z q) (hOld : Old Z n0 h0) : own_M l ⟨"java/util/ArrayList", "<init>", "()V"⟩ jdk_38_method_2_code 1 none ⟨3, 0, 0, 36⟩ ws Z h0 n0 #[(.ref a1)] (fun v h => (v = none /\ Keep h0 h [a1] /\ (Exa Z h a1 "java/util/ArrayList") /\ (f42 Z h a1 (.int 0)) /\ (f43 Z h a1 (.ref q.fDB)) /\ (f44 Z h a1 (.int u3)))) := by
  refine own_beg (plainFor_of_name own_pn23) own_t93 #[.val (.ref a1)] (own_e1_1 · rfl) fun p e s m below meth c sa K X0 e0 => ?_
  have N0 := Fr.nil n0
  have H := oh hw
  refine oA X0 K rfl rfl rfl ?_
  refine oNc X0 K rfl (H 429) (H 430) (H 434) (H 433) (by decide) rfl e0 (own_i_ABL hw Z0 Y0 Y1 Y2 Y3 Y4) rfl rfl (lenOf own_pd0 rfl) rfl N0 0 rfl (by decide) fun v2 T2 h2 L2 N2 q2 e2 X2 => ?_
  obtain ⟨rfl, K2, Y5, Y6, Y7, Y8⟩ := q2
  refine oA X2 K rfl rfl rfl ?_
  refine oGs X2 K rfl (H 677) e2 (Sta.ext (Old.keep hOld K2 (allS Y4 all0)).2 hq.sDB) fun T3 X3 e3 => ?_
  refine oPf (ty := (.array (.object "java/lang/Object"))) X3 K rfl (H 446) e3 Y7 Y5 (Or.inl (H 447)) (H 424) (by decide) rfl rfl N2 Y4 fun T4 h4 L4 N4 X4 e4 W4 Fw4 => ?_
  exact oRv X4 K rfl e4 N4 (by decide) ⟨rfl, (((Keep.refl _ _).trans K2 (allS (oM 0 rfl) all0)).wr W4 (oM 0 rfl)), (Exa.wr W4 Y5), (oFo W4 Y6 (Or.inl (H 443)) (Or.inl (H 447)) (by decide)), Fw4, (oFo W4 Y8 (Or.inl (H 462)) (Or.inl (H 447)) (by decide))⟩
theorem own_addaN (hw : own_HW a0 Z) {a1 ed : Addr} {mc p1 : Int32} {q : own_P0} (Z0 : n0 <= h0.size) (Y0 : Exa Z h0 a1 "java/util/ArrayList") (Y1 : f42 Z h0 a1 (.int mc)) (Y2 : f43 Z h0 a1 (.ref ed)) (Y3 : f44 Z h0 a1 (.int p1)) (Y4 : n0 <= a1) (hq : own_Env Z q) (hOld : Old Z n0 h0) : own_M l ⟨"java/util/ArrayList", "addAll", "(Ljava/util/Collection;)Z"⟩ jdk_38_method_41_code 6 (some .boolean) ⟨4, 1, 8, 58⟩ ws Z h0 n0 #[(.ref a1), (.ref q.fEL)] (fun v h => (v = some (.int 0) /\ Keep h0 h [a1] /\ (Exa Z h a1 "java/util/ArrayList") /\ (f42 Z h a1 (.int (mc + (1 : Int32)))) /\ (f43 Z h a1 (.ref ed)) /\ (f44 Z h a1 (.int p1)))) := by
  refine own_beg (plainFor_of_name own_pn23) own_t94 #[.val (.ref a1), .val (.ref q.fEL), .unset, .unset, .unset, .unset] (own_e2_6 · ⟨rfl, rfl⟩) fun p e s m below meth c sa K X0 e0 => ?_
  have N0 := Fr.nil n0
  have H := oh hw
  refine oA X0 K rfl rfl rfl ?_
  refine oFc X0 K rfl (H 630) (H 631) (mvT K.wz (H 632)) (H 720) (H 721) (H 722) (H 723) (H 724) (H 726) (H 725) (by decide) e0 (Exa.ext hOld.2 hq.eEL) (own_toaN hw Z0 hq hOld) rfl rfl (lenOf own_pd53 rfl) rfl N0 0 rfl (by decide) fun v5 T5 h5 L5 N5 q5 e5 X5 => ?_
  obtain ⟨ar1, kr2, us3, rfl, K5, Y5, Y6⟩ := q5
  have Y7 := Y6
  refine oSAn (L' := #[.val (.ref a1), .val (.ref q.fEL), .val (.ref ar1), .unset, .unset, .unset]) X5 K rfl rfl rfl <| oA X5 K rfl rfl rfl <| oDup X5 K rfl rfl ?_
  refine oGF X5 K rfl (host := "") (Or.inl (H 459)) (Via.of (H 460)) e5 (Y1.keep K5 nin0) fun T6 X6 e6 => ?_
  refine oC (z := 1) X6 K rfl rfl <| oAdd X6 K rfl rfl ?_
  refine oPF (ty := .int) X6 K rfl (host := "") (Or.inl (H 459)) (Via.of (H 460)) e6 (Y1.keep K5 nin0) (Y0.keep K5) (Or.inl (H 443)) (H 424) (by decide) rfl rfl N5 Y4 (Or.inl (H 459)) fun T7 h7 L7 N7 X7 e7 W7 Fw7 => ?_
  refine oA X7 K rfl rfl rfl ?_
  obtain ⟨cl8, Ar8, -, S8, O8, -, -⟩ := (Y5.other W7 (Ne.symm (oNe (Exa.lt Y0) Y7)))
  refine oAn X7 K rfl e7 Ar8 (len_of S8 O8) <| oSIn (L' := #[.val (.ref a1), .val (.ref q.fEL), .val (.ref ar1), .val (.int 0), .unset, .unset]) X7 K rfl rfl <| oI X7 K rfl rfl <| oFN X7 K rfl (XT.i0_ne_f (by decide : (0 : Int32) = (0 : Int32))) <| oC (z := 0) X7 K rfl rfl ?_
  exact oRn X7 K (by simp) rfl e7 N7 (by decide) ⟨rfl, (((Keep.refl _ _).trans K5 all0).wr W7 (oM 0 rfl)), (Exa.wr W7 (Y0.keep K5)), Fw7, (oFo W7 (Y2.keep K5 nin0) (Or.inl (H 447)) (Or.inl (H 443)) (by decide)), (oFo W7 (Y3.keep K5 nin0) (Or.inl (H 462)) (Or.inl (H 443)) (by decide))⟩
theorem own_adda0 (hw : own_HW a0 Z) {a1 ed : Addr} {mc p1 : Int32} {c1 : Addr} {q : own_P0} (Z0 : n0 <= h0.size) (Y0 : Exa Z h0 a1 "java/util/ArrayList") (Y1 : f42 Z h0 a1 (.int mc)) (Y2 : f43 Z h0 a1 (.ref ed)) (Y3 : f44 Z h0 a1 (.int p1)) (Y4 : n0 <= a1) (Y5 : Exa Z h0 c1 "java/util/ArrayList") (Y6 : f43 Z h0 c1 (.ref q.fDB)) (Y7 : f44 Z h0 c1 (.int 0)) (hq : own_Env Z q) (hOld : Old Z n0 h0) : own_M l ⟨"java/util/ArrayList", "addAll", "(Ljava/util/Collection;)Z"⟩ jdk_38_method_41_code 6 (some .boolean) ⟨4, 1, 8, 58⟩ ws Z h0 n0 #[(.ref a1), (.ref c1)] (fun v h => (v = some (.int 0) /\ Keep h0 h [a1] /\ (Exa Z h a1 "java/util/ArrayList") /\ (f42 Z h a1 (.int (mc + (1 : Int32)))) /\ (f43 Z h a1 (.ref ed)) /\ (f44 Z h a1 (.int p1)))) := by
  refine own_beg (plainFor_of_name own_pn23) own_t94 #[.val (.ref a1), .val (.ref c1), .unset, .unset, .unset, .unset] (own_e2_6 · ⟨rfl, rfl⟩) fun p e s m below meth c sa K X0 e0 => ?_
  have N0 := Fr.nil n0
  have H := oh hw
  refine oA X0 K rfl rfl rfl ?_
  refine oFc X0 K rfl (H 630) (H 631) (mvT K.wz (H 632)) (H 633) (H 634) (H 635) (H 636) (H 637) (H 638) (H 425) (by decide) e0 Y5 (own_toa0 hw Z0 Y5 Y6 Y7 hq hOld) rfl rfl (lenOf own_pd53 rfl) rfl N0 0 rfl (by decide) fun v5 T5 h5 L5 N5 q5 e5 X5 => ?_
  obtain ⟨ar1, kr2, us3, rfl, K5, Y8, Y9⟩ := q5
  have Y10 := Y9
  refine oSAn (L' := #[.val (.ref a1), .val (.ref c1), .val (.ref ar1), .unset, .unset, .unset]) X5 K rfl rfl rfl <| oA X5 K rfl rfl rfl <| oDup X5 K rfl rfl ?_
  refine oGF X5 K rfl (host := "") (Or.inl (H 459)) (Via.of (H 460)) e5 (Y1.keep K5 nin0) fun T6 X6 e6 => ?_
  refine oC (z := 1) X6 K rfl rfl <| oAdd X6 K rfl rfl ?_
  refine oPF (ty := .int) X6 K rfl (host := "") (Or.inl (H 459)) (Via.of (H 460)) e6 (Y1.keep K5 nin0) (Y0.keep K5) (Or.inl (H 443)) (H 424) (by decide) rfl rfl N5 Y4 (Or.inl (H 459)) fun T7 h7 L7 N7 X7 e7 W7 Fw7 => ?_
  refine oA X7 K rfl rfl rfl ?_
  obtain ⟨cl8, Ar8, -, S8, O8, -, -⟩ := (Y8.other W7 (Ne.symm (oNe (Exa.lt Y0) Y10)))
  refine oAn X7 K rfl e7 Ar8 (len_of S8 O8) <| oSIn (L' := #[.val (.ref a1), .val (.ref c1), .val (.ref ar1), .val (.int 0), .unset, .unset]) X7 K rfl rfl <| oI X7 K rfl rfl <| oFN X7 K rfl (XT.i0_ne_f (by decide : (0 : Int32) = (0 : Int32))) <| oC (z := 0) X7 K rfl rfl ?_
  exact oRn X7 K (by simp) rfl e7 N7 (by decide) ⟨rfl, (((Keep.refl _ _).trans K5 all0).wr W7 (oM 0 rfl)), (Exa.wr W7 (Y0.keep K5)), Fw7, (oFo W7 (Y2.keep K5 nin0) (Or.inl (H 447)) (Or.inl (H 443)) (by decide)), (oFo W7 (Y3.keep K5 nin0) (Or.inl (H 462)) (Or.inl (H 443)) (by decide))⟩
theorem own_leav (hw : own_HW a0 Z) {a1 : Addr} {q : own_P0} (Z0 : n0 <= h0.size) (Y0 : Exa Z h0 a1 "convoke/protocol/Bracha") (Y1 : f17 Z h0 a1 (.int 0)) (hq : own_Env Z q) (hOld : Old Z n0 h0) : own_M l ⟨"convoke/protocol/Bracha", "leaving", "()Ljava/util/List;"⟩ prog_62_method_7_code 1 (some (.object "java/util/List")) ⟨1, 0, 0, 11⟩ ws Z h0 n0 #[(.ref a1)] (fun v h => (v = some (.ref q.fEL) /\ h = h0)) := by
  refine own_beg (plainFor_of_name own_pn5) own_t100 #[.val (.ref a1)] (own_e1_1 · rfl) fun p e s m below meth c sa K X0 e0 => ?_
  have N0 := Fr.nil n0
  have H := oh hw
  refine oA X0 K rfl rfl rfl ?_
  refine oGf X0 K rfl (H 120) e0 Y1 fun T1 X1 e1 => ?_
  refine oFY X1 K rfl (XT.i0_eq_t (by decide : (0 : Int32) = (0 : Int32))) ?_
  refine oTc X1 K rfl (H 396) (H 397) (H 399) (H 398) (by decide) e1 (own_lof hw Z0 hq hOld) rfl (lenOf own_pd33 rfl) rfl N0 0 rfl (by decide) fun v3 T3 h3 L3 N3 q3 e3 X3 => ?_
  obtain ⟨rfl, y3⟩ := q3
  exact oRa X3 K rfl rfl rfl (e3.trans y3) N3 (by decide) ⟨rfl, rfl⟩
theorem own_bfq (hw : own_HW a0 Z) {a1 : Addr} {w_seat w_initKind w_output : Value} {w_readySupport w_readyQuorum w_outputSupport : Int32} {w_echoes w_readies w_readiesOrQuits : Value} {w_readySent : Int32} {q : own_P0} (Z0 : n0 <= h0.size) (Y0 : Exa Z h0 a1 "convoke/protocol/Bracha") (Y1 : f13 Z h0 a1 w_seat) (Y2 : f15 Z h0 a1 w_initKind) (Y3 : f37 Z h0 a1 (.int 0)) (Y4 : f38 Z h0 a1 (.int 0)) (Y5 : f45 Z h0 a1 w_output) (Y6 : f17 Z h0 a1 (.int 0)) (Y7 : f19 Z h0 a1 (.int w_readySupport)) (Y8 : f20 Z h0 a1 (.int w_readyQuorum)) (Y9 : f21 Z h0 a1 (.int w_outputSupport)) (Y10 : f25 Z h0 a1 w_echoes) (Y11 : f26 Z h0 a1 w_readies) (Y12 : f27 Z h0 a1 w_readiesOrQuits) (Y13 : f41 Z h0 a1 (.int w_readySent)) (Y14 : n0 <= a1) (hq : own_Env Z q) (hOld : Old Z n0 h0) : own_M l ⟨"convoke/protocol/BrachaFamily", "quit", "()Ljava/util/List;"⟩ prog_63_method_6_code 2 (some (.object "java/util/List")) ⟨2, 0, 0, 23⟩ ws Z h0 n0 #[(.ref a1)] (fun v h => (v = some (.ref q.fEL) /\ Keep h0 h [a1])) := by
  refine own_beg (plainFor_of_name own_pn8) own_t99 #[.val (.ref a1), .unset] (own_e1_2 · rfl) fun p e s m below meth c sa K X0 e0 => ?_
  have N0 := Fr.nil n0
  have H := oh hw
  refine oA X0 K rfl rfl rfl ?_
  refine oPc X0 K rfl (H 343) (H 344) (own_sel_45 hw) (H 345) (H 346) (H 109) (by decide) e0 Y0 (own_stopped hw Z0 Y0 Y3 Y4) rfl rfl (lenOf own_pd9 rfl) rfl N0 0 rfl (by decide) fun v2 T2 h2 L2 N2 q2 e2 X2 => ?_
  obtain ⟨rfl, y2⟩ := q2
  refine oFY X2 K rfl (XT.i0_eq_t (by decide : (0 : Int32) = (0 : Int32))) <| oA X2 K rfl rfl rfl ?_
  refine oVc X2 K rfl (H 715) (H 716) (own_nfz (args := #[]) (mvT K.wz (H 341)) rfl) (H 717) (H 718) (H 719) (H 37) (by decide) (e2.trans y2) Y0 (own_leav hw Z0 Y0 Y6 hq hOld) rfl rfl (lenOf own_pd33 rfl) rfl N2 0 rfl (by decide) fun v4 T4 h4 L4 N4 q4 e4 X4 => ?_
  obtain ⟨rfl, y4⟩ := q4
  refine oSAn X4 K rfl rfl rfl <| oA X4 K rfl rfl rfl <| oC (z := 1) X4 K rfl rfl ?_
  refine oPf (ty := .boolean) (v' := (.int 1)) X4 K rfl (H 349) (e4.trans y4) Y4 Y0 (Or.inl (H 350)) (H 70) (by decide) rfl rfl N4 Y14 fun T5 h5 L5 N5 X5 e5 W5 Fw5 => ?_
  refine oA X5 K rfl rfl rfl ?_
  refine oVc X5 K rfl (H 521) (H 522) (own_nfz (args := #[]) (mvT K.wz (H 341)) rfl) (H 523) (H 524) (H 525) (H 37) (by decide) e5 (Exa.wr W5 Y0) (own_release hw (Nat.le_trans Z0 (Keep.of_wr W5).1) (Exa.wr W5 Y0) (oFo W5 Y1 (Or.inr (H 113)) (Or.inl (H 350)) (by decide)) (oFo W5 Y2 (Or.inr (H 117)) (Or.inl (H 350)) (by decide)) (oFo W5 Y3 (Or.inl (H 348)) (Or.inl (H 350)) (by decide)) Fw5 (oFo W5 Y5 (Or.inl (H 476)) (Or.inl (H 350)) (by decide)) (oFo W5 Y6 (Or.inr (H 121)) (Or.inl (H 350)) (by decide)) (oFo W5 Y7 (Or.inr (H 126)) (Or.inl (H 350)) (by decide)) (oFo W5 Y8 (Or.inr (H 128)) (Or.inl (H 350)) (by decide)) (oFo W5 Y9 (Or.inr (H 130)) (Or.inl (H 350)) (by decide)) (oFo W5 Y10 (Or.inl (H 149)) (Or.inl (H 350)) (by decide)) (oFo W5 Y11 (Or.inl (H 151)) (Or.inl (H 350)) (by decide)) (oFo W5 Y12 (Or.inl (H 153)) (Or.inl (H 350)) (by decide)) (oFo W5 Y13 (Or.inl (H 403)) (Or.inl (H 350)) (by decide)) Y14) rfl rfl (lenOf own_pd0 rfl) rfl N5 0 rfl (by decide) fun v7 T7 h7 L7 N7 q7 e7 X7 => ?_
  obtain ⟨rfl, K7, Y15, Y16, Y17, Y18, Y19, Y20, Y21, Y22, Y23, Y24, Y25, Y26, Y27, Y28⟩ := q7
  refine oA X7 K rfl rfl rfl ?_
  exact oRa X7 K rfl rfl rfl e7 N7 (by decide) ⟨rfl, (((Keep.refl _ _).wr W5 (oM 0 rfl)).trans K7 (allS (oM 0 rfl) all0))⟩
theorem own_brq (hw : own_HW a0 Z) {a1 : Addr} {w_seat w_initKind w_output : Value} {w_readySupport w_readyQuorum w_outputSupport : Int32} {w_echoes w_readies w_readiesOrQuits : Value} {w_readySent : Int32} {q : own_P0} (Z0 : n0 <= h0.size) (Y0 : Exa Z h0 a1 "convoke/protocol/Bracha") (Y1 : f13 Z h0 a1 w_seat) (Y2 : f15 Z h0 a1 w_initKind) (Y3 : f37 Z h0 a1 (.int 0)) (Y4 : f38 Z h0 a1 (.int 0)) (Y5 : f45 Z h0 a1 w_output) (Y6 : f17 Z h0 a1 (.int 0)) (Y7 : f19 Z h0 a1 (.int w_readySupport)) (Y8 : f20 Z h0 a1 (.int w_readyQuorum)) (Y9 : f21 Z h0 a1 (.int w_outputSupport)) (Y10 : f25 Z h0 a1 w_echoes) (Y11 : f26 Z h0 a1 w_readies) (Y12 : f27 Z h0 a1 w_readiesOrQuits) (Y13 : f41 Z h0 a1 (.int w_readySent)) (Y14 : n0 <= a1) (hq : own_Env Z q) (hOld : Old Z n0 h0) : own_M l ⟨"convoke/protocol/Bracha", "quit", "()Ljava/util/List;"⟩ prog_62_method_15_code 1 (some (.object "java/util/List")) ⟨3, 0, 0, 36⟩ ws Z h0 n0 #[(.ref a1)] (fun v h => (v = some (.ref q.fEL) /\ Keep h0 h [a1])) := by
  refine own_beg (plainFor_of_name own_pn5) own_t98 #[.val (.ref a1)] (own_e1_1 · rfl) fun p e s m below meth c sa K X0 e0 => ?_
  have N0 := Fr.nil n0
  have H := oh hw
  refine oA X0 K rfl rfl rfl ?_
  refine oSc X0 K rfl (H 711) (own_same_99 hw) (H 712) (H 488) (H 714) (H 109) (by decide) e0 Y0 (own_bfq hw Z0 Y0 Y1 Y2 Y3 Y4 Y5 Y6 Y7 Y8 Y9 Y10 Y11 Y12 Y13 Y14 hq hOld) rfl rfl (lenOf own_pd33 rfl) rfl N0 0 rfl (by decide) fun v2 T2 h2 L2 N2 q2 e2 X2 => ?_
  obtain ⟨rfl, K2⟩ := q2
  exact oRa X2 K rfl rfl rfl e2 N2 (by decide) ⟨rfl, ((Keep.refl _ _).trans K2 (allS (oM 0 rfl) all0))⟩
theorem own_fk {Z : State} {h h' : Heap} {a : Addr} {C n d : String} {v : Value} (k : ∀ c : Cell, h[a]? = some c -> h'[a]? = some c) (F : Fld Z h a C n d v) : Fld Z h' a C n d v := by
  obtain ⟨c, cf, kk, i, f, h1, r⟩ := F
  exact ⟨c, cf, kk, i, f, k _ h1, r⟩
theorem own_ek {Z : State} {h h' : Heap} {a : Addr} {C : String} (k : ∀ c : Cell, h[a]? = some c -> h'[a]? = some c) (F : Exa Z h a C) : Exa Z h' a C := by
  obtain ⟨c, kk, h1, r⟩ := F
  exact ⟨c, kk, k _ h1, r⟩
theorem own_vk {Z : State} {h h' : Heap} {a : Addr} {kk : ClassId} {ty : FieldType} {n : Int32} {vs : List Value} {d : Value} (k : ∀ c : Cell, h[a]? = some c -> h'[a]? = some c) (F : Arv Z h a kk ty n vs d) : Arv Z h' a kk ty n vs d := by
  obtain ⟨c, A, r⟩ := F
  exact ⟨c, ⟨k _ A.1, A.2⟩, r⟩
theorem own_hk {Z : State} {h h' : Heap} {a : Addr} {kk : ClassId} {ty : FieldType} {n : Int32} {hs : List (Int32 × Value)} {vs : List Value} {d : Value} (k : ∀ c : Cell, h[a]? = some c -> h'[a]? = some c) (F : Arh Z h a kk ty n hs vs d) : Arh Z h' a kk ty n hs vs d := by
  obtain ⟨c, A, r⟩ := F
  exact ⟨c, ⟨k _ A.1, A.2⟩, r⟩
theorem own_wk {h h' : Heap} {a y : Nat} {sl : Nat} {v : Value} {c : Cell} (W : Wr h h' a sl v) (ne : y ≠ a) (q : h[y]? = some c) : h'[y]? = some c := by
  obtain ⟨c0, -, -, -, rfl⟩ := W
  rw [Array.getElem?_setIfInBounds_ne (Ne.symm ne)]; exact q
abbrev own_S : Type := List (Int32 × Value) × Int32 × Value × Int32
def own_S.hs (s : own_S) : List (Int32 × Value) := s.1
def own_S.ds (s : own_S) : Int32 := s.2.1
def own_S.vl (s : own_S) : Value := s.2.2.1
def own_S.ct (s : own_S) : Int32 := s.2.2.2
def own_s0 : own_S := ⟨[], 0, .null, 0⟩
def own_Br (Z : State) (q : own_P0) (n t sf : Int32) (h : Heap) (lo hi : Nat) (b : Nat) (s : own_S) : Prop :=
  ∃ (sd ec rd va ca co : Nat) (kva kca kco : ClassId) (ix vt : Int32), ((lo <= b /\ b < hi) /\ (lo <= sd /\ sd < hi) /\ (lo <= rd /\ rd < hi) /\ (lo <= va /\ va < hi) /\ (lo <= ca /\ ca < hi) /\ (lo <= co /\ co < hi)) /\
    (Exa Z h b "convoke/protocol/Bracha" /\ Fld Z h b "convoke/protocol/BrachaFamily" "seat" "Lconvoke/protocol/Seat;" (.ref sd) /\ Fld Z h b "convoke/protocol/BrachaFamily" "initKind" "Lconvoke/model/Message$Kind;" (.ref q.fKI) /\ Fld Z h b "convoke/protocol/BrachaFamily" "terminated" "Z" (.int (0 : Int32)) /\ Fld Z h b "convoke/protocol/BrachaFamily" "quit" "Z" (.int (0 : Int32)) /\ Fld Z h b "convoke/protocol/BrachaFamily" "output" "Lconvoke/model/Value;" .null /\
      Fld Z h b "convoke/protocol/Bracha" "quitResistant" "Z" (.int (0 : Int32)) /\ Fld Z h b "convoke/protocol/Bracha" "readySupport" "I" (.int (t + (1 : Int32))) /\ Fld Z h b "convoke/protocol/Bracha" "readyQuorum" "I" (.int (((2 : Int32) * t) + (1 : Int32))) /\ Fld Z h b "convoke/protocol/Bracha" "outputSupport" "I" (.int (((2 : Int32) * t) + (1 : Int32))) /\
      Fld Z h b "convoke/protocol/Bracha" "echoes" "Lconvoke/protocol/Votes;" (.ref ec) /\ Fld Z h b "convoke/protocol/Bracha" "readies" "Lconvoke/protocol/Votes;" (.ref rd) /\ Fld Z h b "convoke/protocol/Bracha" "readiesOrQuits" "Lconvoke/protocol/Votes;" .null /\ Fld Z h b "convoke/protocol/Bracha" "readySent" "Z" (.int (0 : Int32))) /\
    (Exa Z h sd "convoke/protocol/Seat" /\ Fld Z h sd "convoke/protocol/Seat" "parties" "I" (.int n) /\ Fld Z h sd "convoke/protocol/Seat" "self" "I" (.int sf) /\ Fld Z h sd "convoke/protocol/Seat" "sender" "I" (.int ix) /\ ¬ (ix < (1 : Int32))) /\
    (Exa Z h rd "convoke/protocol/Votes" /\ Fld Z h rd "convoke/protocol/Votes" "values" "[Lconvoke/model/Value;" (.ref va) /\ Fld Z h rd "convoke/protocol/Votes" "counts" "[I" (.ref ca) /\ Fld Z h rd "convoke/protocol/Votes" "counted" "[Z" (.ref co) /\ Fld Z h rd "convoke/protocol/Votes" "distinct" "I" (.int s.ds) /\ Fld Z h rd "convoke/protocol/Votes" "voters" "I" (.int vt)) /\
    (Arv Z h va kva (.object "convoke/model/Value") (1 : Int32) [s.vl] .null /\ Ovr Z kva "convoke/model/Value" /\ Arv Z h ca kca .int (1 : Int32) [.int s.ct] (.int (0 : Int32)) /\ Arh Z h co kco .boolean (n + (1 : Int32)) s.hs [] (.int (0 : Int32)))
theorem own_Br.reg {Z : State} {q : own_P0} {n t sf : Int32} {h h' : Heap} {lo hi : Nat} {b : Nat} {s : own_S} (k : ∀ (y : Nat) (c : Cell), lo <= y -> y < hi -> h[y]? = some c -> h'[y]? = some c) (F : own_Br Z q n t sf h lo hi b s) : own_Br Z q n t sf h' lo hi b s := by
  obtain ⟨sd, ec, rd, va, ca, co, kva, kca, kco, ix, vt, ⟨r1, r2, r3, r4, r5, r6⟩, ⟨b0, b1, b2, b3, b4, b5, b6, b7, b8, b9, b10, b11, b12, b13⟩, ⟨s0, s1, s2, s3, s4⟩, ⟨v0, v1, v2, v3, v4, v5⟩, ⟨a1, a2, a3, a4⟩⟩ := F
  have kb := fun c => k b c r1.1 r1.2
  have ks := fun c => k sd c r2.1 r2.2
  have kr := fun c => k rd c r3.1 r3.2
  exact ⟨sd, ec, rd, va, ca, co, kva, kca, kco, ix, vt, ⟨r1, r2, r3, r4, r5, r6⟩, ⟨own_ek kb b0, own_fk kb b1, own_fk kb b2, own_fk kb b3, own_fk kb b4, own_fk kb b5, own_fk kb b6, own_fk kb b7, own_fk kb b8, own_fk kb b9, own_fk kb b10, own_fk kb b11, own_fk kb b12, own_fk kb b13⟩, ⟨own_ek ks s0, own_fk ks s1, own_fk ks s2, own_fk ks s3, s4⟩, ⟨own_ek kr v0, own_fk kr v1, own_fk kr v2, own_fk kr v3, own_fk kr v4, own_fk kr v5⟩, ⟨own_vk (fun c => k va c r4.1 r4.2) a1, a2, own_vk (fun c => k ca c r5.1 r5.2) a3, own_hk (fun c => k co c r6.1 r6.2) a4⟩⟩
def own_In (Z : State) (q : own_P0) (n t sf : Int32) (arr : Nat) (ka : ClassId) (lo0 : Nat) (h : Heap) (j : Nat) (B : Nat -> Nat × Nat × Nat) : Prop := (∀ i, i < j -> own_Br Z q n t sf h (B i).2.1 (B i).2.2 (B i).1 own_s0) /\ (∀ i, i < j -> lo0 <= (B i).2.1 /\ (B i).2.2 <= h.size) /\ (∀ i k, i < k -> k < j -> (B i).2.2 <= (B k).2.1) /\ (∃ ac : Cell, Arr Z h arr ac (.object "convoke/protocol/Bracha") /\ ac.cls = ka /\ ac.slots.size = n.toNatClampNeg /\ ∀ i, i < n.toNatClampNeg -> ac.slots[i]? = some (if i < j then .ref (B i).1 else .null)) /\ (arr < lo0) /\ (lo0 <= h.size) /\ (Ovr Z ka "convoke/protocol/Bracha")
theorem own_In.br {Z : State} {q : own_P0} {n t sf : Int32} {arr : Nat} {ka : ClassId} {lo0 : Nat} {h : Heap} {j : Nat} {B : Nat -> Nat × Nat × Nat} (h_ : own_In Z q n t sf arr ka lo0 h j B) : ∀ i, i < j -> own_Br Z q n t sf h (B i).2.1 (B i).2.2 (B i).1 own_s0 := h_.1
theorem own_In.lo {Z : State} {q : own_P0} {n t sf : Int32} {arr : Nat} {ka : ClassId} {lo0 : Nat} {h : Heap} {j : Nat} {B : Nat -> Nat × Nat × Nat} (h_ : own_In Z q n t sf arr ka lo0 h j B) : ∀ i, i < j -> lo0 <= (B i).2.1 /\ (B i).2.2 <= h.size := h_.2.1
theorem own_In.dj {Z : State} {q : own_P0} {n t sf : Int32} {arr : Nat} {ka : ClassId} {lo0 : Nat} {h : Heap} {j : Nat} {B : Nat -> Nat × Nat × Nat} (h_ : own_In Z q n t sf arr ka lo0 h j B) : ∀ i k, i < k -> k < j -> (B i).2.2 <= (B k).2.1 := h_.2.2.1
theorem own_In.ar {Z : State} {q : own_P0} {n t sf : Int32} {arr : Nat} {ka : ClassId} {lo0 : Nat} {h : Heap} {j : Nat} {B : Nat -> Nat × Nat × Nat} (h_ : own_In Z q n t sf arr ka lo0 h j B) : ∃ ac : Cell, Arr Z h arr ac (.object "convoke/protocol/Bracha") /\ ac.cls = ka /\ ac.slots.size = n.toNatClampNeg /\ ∀ i, i < n.toNatClampNeg -> ac.slots[i]? = some (if i < j then .ref (B i).1 else .null) := h_.2.2.2.1
theorem own_In.al {Z : State} {q : own_P0} {n t sf : Int32} {arr : Nat} {ka : ClassId} {lo0 : Nat} {h : Heap} {j : Nat} {B : Nat -> Nat × Nat × Nat} (h_ : own_In Z q n t sf arr ka lo0 h j B) : arr < lo0 := h_.2.2.2.2.1
theorem own_In.lz {Z : State} {q : own_P0} {n t sf : Int32} {arr : Nat} {ka : ClassId} {lo0 : Nat} {h : Heap} {j : Nat} {B : Nat -> Nat × Nat × Nat} (h_ : own_In Z q n t sf arr ka lo0 h j B) : lo0 <= h.size := h_.2.2.2.2.2.1
theorem own_In.ov {Z : State} {q : own_P0} {n t sf : Int32} {arr : Nat} {ka : ClassId} {lo0 : Nat} {h : Heap} {j : Nat} {B : Nat -> Nat × Nat × Nat} (h_ : own_In Z q n t sf arr ka lo0 h j B) : Ovr Z ka "convoke/protocol/Bracha" := h_.2.2.2.2.2.2
theorem own_In.zero {Z : State} {q : own_P0} {n t sf : Int32} {arr : Nat} {ka : ClassId} {h : Heap} (V : Arh Z h arr ka (.object "convoke/protocol/Bracha") n [] [] .null) (ov : Ovr Z ka "convoke/protocol/Bracha") : own_In Z q n t sf arr ka h.size h 0 (fun _ => (0, 0, 0)) := by
  obtain ⟨ac, A, q1, S, q3, H, G⟩ := V
  exact ⟨fun i hi => absurd hi (Nat.not_lt_zero _), fun i hi => absurd hi (Nat.not_lt_zero _), fun i k hi hk => absurd hk (Nat.not_lt_zero _), ⟨ac, A, q1, S, fun i hi => by rw [if_neg (Nat.not_lt_zero _)]; exact H i (by rw [S]; exact hi)⟩, A.lt, Nat.le_refl _, ov⟩
theorem own_In.at {Z : State} {q : own_P0} {n t sf : Int32} {arr : Nat} {ka : ClassId} {lo0 : Nat} {h h1 h2 : Heap} {j : Nat} {B : Nat -> Nat × Nat × Nat} {b : Nat} (I : own_In Z q n t sf arr ka lo0 h j B) (E : Ext h h1) (K : Keep h1 h2 [b]) (hb : b = h.size) : ∃ ac : Cell, Arr Z h2 arr ac (.object "convoke/protocol/Bracha") /\ ac.cls = ka /\ ac.slots.size = n.toNatClampNeg /\ ∀ i, i < n.toNatClampNeg -> ac.slots[i]? = some (if i < j then .ref (B i).1 else .null) := by
  obtain ⟨ac, A, r⟩ := I.ar
  refine ⟨ac, ⟨K.2.1 _ _ (E.2 _ _ A.1) ?_, A.2⟩, r⟩
  have := I.al
  have := I.lz
  intro hm
  have e1 : @Eq Nat arr b := List.mem_singleton.mp hm
  omega
theorem own_In.push {Z : State} {q : own_P0} {n t sf : Int32} {arr : Nat} {ka : ClassId} {lo0 : Nat} {h h1 h2 h3 : Heap} {j : Nat} {B : Nat -> Nat × Nat × Nat} {b : Nat} {ac : Cell} (I : own_In Z q n t sf arr ka lo0 h j B) (E : Ext h h1) (K : Keep h1 h2 [b]) (hb : b = h.size)
    (A : Arr Z h2 arr ac (.object "convoke/protocol/Bracha")) (q1 : ac.cls = ka) (S : ac.slots.size = n.toNatClampNeg) (H : ∀ i, i < n.toNatClampNeg -> ac.slots[i]? = some (if i < j then .ref (B i).1 else .null)) {z : Int32} (hz : z.toNatClampNeg = j) (W : Wr h2 h3 arr z.toNatClampNeg (.ref b)) (Bn : own_Br Z q n t sf h2 b h2.size b own_s0) :
    own_In Z q n t sf arr ka lo0 h3 (j + 1) (fun i => if i = j then (b, b, h2.size) else B i) := by
  have hal := I.al
  have hlz := I.lz
  have hsz : h3.size = h2.size := by obtain ⟨c0, -, -, -, rfl⟩ := W; simp
  have h12 : h.size <= h2.size := Nat.le_trans E.1 K.1
  have hbs : h.size < h2.size := by obtain ⟨_, _, _, _, _, _, _, _, _, _, _, ⟨r1, -⟩, -⟩ := Bn; omega
  subst hz
  refine ⟨fun i hi => ?_, fun i hi => ?_, fun i k hi hk => ?_, ?_, hal, by omega, I.ov⟩
  · dsimp only
    by_cases c : i = z.toNatClampNeg
    · rw [if_pos c]
      have r := own_Br.reg (h' := h3) (fun y cc l u qq => own_wk W (by omega) qq) Bn
      exact r
    · rw [if_neg c]
      have hi' : i < z.toNatClampNeg := by omega
      have l := I.lo i hi'
      refine own_Br.reg (fun y cc lw u qq => own_wk W (by omega) (K.2.1 _ _ (E.2 _ _ qq) ?_)) (I.br i hi')
      intro hm
      have e1 : @Eq Nat y b := List.mem_singleton.mp hm
      omega
  · dsimp only
    by_cases c : i = z.toNatClampNeg
    · rw [if_pos c]; show _ <= _ /\ _ <= _; exact ⟨by show lo0 <= b; omega, by show h2.size <= h3.size; omega⟩
    · rw [if_neg c]
      have l := I.lo i (by omega)
      omega
  · dsimp only
    rw [if_neg (by omega)]
    by_cases c : k = z.toNatClampNeg
    · rw [if_pos c]; show _ <= b
      have l := I.lo i (by omega)
      omega
    · rw [if_neg c]; exact I.dj i k hi (by omega)
  · obtain ⟨c0, w1, w2, w3, rfl⟩ := W
    cases A.1.symm.trans w1
    refine ⟨ac.setSlot z.toNatClampNeg (.ref b), ⟨?_, ?_, ?_⟩, ?_, ?_, ?_⟩
    · rw [Array.getElem?_setIfInBounds_self_of_lt (Array.getElem?_eq_some_iff.mp w1).1]
    · exact A.2.1
    · exact A.2.2
    · exact q1
    · show (ac.slots.setIfInBounds _ _).size = _; simpa using S
    · intro i hi
      show (ac.slots.setIfInBounds _ _)[i]? = some (if i < z.toNatClampNeg + 1 then Value.ref (if i = z.toNatClampNeg then (b, b, h2.size) else B i).1 else Value.null)
      by_cases c : i = z.toNatClampNeg
      · subst c
        rw [Array.getElem?_setIfInBounds_self_of_lt (by omega), if_pos (Nat.lt_succ_self _), if_pos rfl]
      · rw [Array.getElem?_setIfInBounds_ne (Ne.symm c), H i hi, if_neg c]
        by_cases d : i < z.toNatClampNeg
        · rw [if_pos d, if_pos (by omega)]
        · rw [if_neg d, if_neg (by omega)]

def own_Al (Z : State) (h : Heap) (b : Nat) : Prop :=
  ∃ (w1 w2 w5 w10 w11 w12 : Value) (w7 w8 w9 w13 : Int32), Exa Z h b "convoke/protocol/Bracha" /\ Fld Z h b "convoke/protocol/BrachaFamily" "seat" "Lconvoke/protocol/Seat;" w1 /\ Fld Z h b "convoke/protocol/BrachaFamily" "initKind" "Lconvoke/model/Message$Kind;" w2 /\ Fld Z h b "convoke/protocol/BrachaFamily" "terminated" "Z" (.int (0 : Int32)) /\ Fld Z h b "convoke/protocol/BrachaFamily" "quit" "Z" (.int (0 : Int32)) /\ Fld Z h b "convoke/protocol/BrachaFamily" "output" "Lconvoke/model/Value;" w5 /\
    Fld Z h b "convoke/protocol/Bracha" "quitResistant" "Z" (.int (0 : Int32)) /\ Fld Z h b "convoke/protocol/Bracha" "readySupport" "I" (.int w7) /\ Fld Z h b "convoke/protocol/Bracha" "readyQuorum" "I" (.int w8) /\ Fld Z h b "convoke/protocol/Bracha" "outputSupport" "I" (.int w9) /\
    Fld Z h b "convoke/protocol/Bracha" "echoes" "Lconvoke/protocol/Votes;" w10 /\ Fld Z h b "convoke/protocol/Bracha" "readies" "Lconvoke/protocol/Votes;" w11 /\ Fld Z h b "convoke/protocol/Bracha" "readiesOrQuits" "Lconvoke/protocol/Votes;" w12 /\ Fld Z h b "convoke/protocol/Bracha" "readySent" "Z" (.int w13)
theorem own_Al.reg {Z : State} {h h' : Heap} {b : Nat} (k : ∀ c : Cell, h[b]? = some c -> h'[b]? = some c) (F : own_Al Z h b) : own_Al Z h' b := by
  obtain ⟨w1, w2, w5, w10, w11, w12, w7, w8, w9, w13, b0, b1, b2, b3, b4, b5, b6, b7, b8, b9, b10, b11, b12, b13⟩ := F
  exact ⟨w1, w2, w5, w10, w11, w12, w7, w8, w9, w13, own_ek k b0, own_fk k b1, own_fk k b2, own_fk k b3, own_fk k b4, own_fk k b5, own_fk k b6, own_fk k b7, own_fk k b8, own_fk k b9, own_fk k b10, own_fk k b11, own_fk k b12, own_fk k b13⟩
theorem own_Br.al {Z : State} {q : own_P0} {n t sf : Int32} {h : Heap} {lo hi : Nat} {b : Nat} {s : own_S} (F : own_Br Z q n t sf h lo hi b s) : own_Al Z h b := by
  obtain ⟨sd, ec, rd, va, ca, co, kva, kca, kco, ix, vt, -, ⟨b0, b1, b2, b3, b4, b5, b6, b7, b8, b9, b10, b11, b12, b13⟩, -⟩ := F
  exact ⟨_, _, _, _, _, _, _, _, _, _, b0, b1, b2, b3, b4, b5, b6, b7, b8, b9, b10, b11, b12, b13⟩
def own_Bq (Z : State) (q : own_P0) (n t sf : Int32) (h : Heap) (lo hi : Nat) (b : Nat) : Option own_S -> Prop
  | some s => own_Br Z q n t sf h lo hi b s
  | none => (lo <= b /\ b < hi) /\ own_Al Z h b
theorem own_Bq.reg {Z : State} {q : own_P0} {n t sf : Int32} {h h' : Heap} {lo hi : Nat} {b : Nat} {s : Option own_S} (k : ∀ (y : Nat) (c : Cell), lo <= y -> y < hi -> h[y]? = some c -> h'[y]? = some c) (F : own_Bq Z q n t sf h lo hi b s) : own_Bq Z q n t sf h' lo hi b s := by
  cases s with
  | some s => exact own_Br.reg k F
  | none => exact ⟨F.1, own_Al.reg (fun c => k b c F.1.1 F.1.2) F.2⟩
theorem own_Bq.al {Z : State} {q : own_P0} {n t sf : Int32} {h : Heap} {lo hi : Nat} {b : Nat} {s : Option own_S} (F : own_Bq Z q n t sf h lo hi b s) : own_Al Z h b := by
  cases s with
  | some s => exact own_Br.al F
  | none => exact F.2
def own_up (W : Nat -> Option (Option own_S)) (i : Nat) (x : Option (Option own_S)) : Nat -> Option (Option own_S) := fun k => if k = i then x else W k
def own_cut (W : Nat -> Option (Option own_S)) (j : Nat) : Nat -> Option (Option own_S) := fun k => if k < j then none else W k
def own_no : Nat -> Option (Option own_S) := fun _ => none
def own_Sy (Z : State) (q : own_P0) (n t sf : Int32) (arr : Nat) (ka : ClassId) (lo0 hi0 : Nat) (B : Nat -> Nat × Nat × Nat) (h : Heap) (W : Nat -> Option (Option own_S)) : Prop := (∀ i, i < n.toNatClampNeg -> ∀ s, W i = some s -> own_Bq Z q n t sf h (B i).2.1 (B i).2.2 (B i).1 s) /\ (∀ i, i < n.toNatClampNeg -> Exa Z h (B i).1 "convoke/protocol/Bracha") /\ (∀ i, i < n.toNatClampNeg -> (lo0 <= (B i).2.1 /\ (B i).2.2 <= hi0) /\ ((B i).2.1 <= (B i).1 /\ (B i).1 < (B i).2.2)) /\ (∀ i k, i < k -> k < n.toNatClampNeg -> (B i).2.2 <= (B k).2.1) /\ (∃ ac : Cell, Arr Z h arr ac (.object "convoke/protocol/Bracha") /\ ac.cls = ka /\ ac.slots.size = n.toNatClampNeg /\ ∀ i, i < n.toNatClampNeg -> ac.slots[i]? = some (if (W i).isSome = true then .ref (B i).1 else .null)) /\ (arr < lo0) /\ (lo0 <= hi0) /\ (hi0 <= h.size) /\ (Ovr Z ka "convoke/protocol/Bracha")
theorem own_Sy.br {Z : State} {q : own_P0} {n t sf : Int32} {arr : Nat} {ka : ClassId} {lo0 hi0 : Nat} {B : Nat -> Nat × Nat × Nat} {h : Heap} {W : Nat -> Option (Option own_S)} (h_ : own_Sy Z q n t sf arr ka lo0 hi0 B h W) : ∀ i, i < n.toNatClampNeg -> ∀ s, W i = some s -> own_Bq Z q n t sf h (B i).2.1 (B i).2.2 (B i).1 s := h_.1
theorem own_Sy.ex {Z : State} {q : own_P0} {n t sf : Int32} {arr : Nat} {ka : ClassId} {lo0 hi0 : Nat} {B : Nat -> Nat × Nat × Nat} {h : Heap} {W : Nat -> Option (Option own_S)} (h_ : own_Sy Z q n t sf arr ka lo0 hi0 B h W) : ∀ i, i < n.toNatClampNeg -> Exa Z h (B i).1 "convoke/protocol/Bracha" := h_.2.1
theorem own_Sy.rg {Z : State} {q : own_P0} {n t sf : Int32} {arr : Nat} {ka : ClassId} {lo0 hi0 : Nat} {B : Nat -> Nat × Nat × Nat} {h : Heap} {W : Nat -> Option (Option own_S)} (h_ : own_Sy Z q n t sf arr ka lo0 hi0 B h W) : ∀ i, i < n.toNatClampNeg -> (lo0 <= (B i).2.1 /\ (B i).2.2 <= hi0) /\ ((B i).2.1 <= (B i).1 /\ (B i).1 < (B i).2.2) := h_.2.2.1
theorem own_Sy.dj {Z : State} {q : own_P0} {n t sf : Int32} {arr : Nat} {ka : ClassId} {lo0 hi0 : Nat} {B : Nat -> Nat × Nat × Nat} {h : Heap} {W : Nat -> Option (Option own_S)} (h_ : own_Sy Z q n t sf arr ka lo0 hi0 B h W) : ∀ i k, i < k -> k < n.toNatClampNeg -> (B i).2.2 <= (B k).2.1 := h_.2.2.2.1
theorem own_Sy.ar {Z : State} {q : own_P0} {n t sf : Int32} {arr : Nat} {ka : ClassId} {lo0 hi0 : Nat} {B : Nat -> Nat × Nat × Nat} {h : Heap} {W : Nat -> Option (Option own_S)} (h_ : own_Sy Z q n t sf arr ka lo0 hi0 B h W) : ∃ ac : Cell, Arr Z h arr ac (.object "convoke/protocol/Bracha") /\ ac.cls = ka /\ ac.slots.size = n.toNatClampNeg /\ ∀ i, i < n.toNatClampNeg -> ac.slots[i]? = some (if (W i).isSome = true then .ref (B i).1 else .null) := h_.2.2.2.2.1
theorem own_Sy.al {Z : State} {q : own_P0} {n t sf : Int32} {arr : Nat} {ka : ClassId} {lo0 hi0 : Nat} {B : Nat -> Nat × Nat × Nat} {h : Heap} {W : Nat -> Option (Option own_S)} (h_ : own_Sy Z q n t sf arr ka lo0 hi0 B h W) : arr < lo0 := h_.2.2.2.2.2.1
theorem own_Sy.lh {Z : State} {q : own_P0} {n t sf : Int32} {arr : Nat} {ka : ClassId} {lo0 hi0 : Nat} {B : Nat -> Nat × Nat × Nat} {h : Heap} {W : Nat -> Option (Option own_S)} (h_ : own_Sy Z q n t sf arr ka lo0 hi0 B h W) : lo0 <= hi0 := h_.2.2.2.2.2.2.1
theorem own_Sy.lz {Z : State} {q : own_P0} {n t sf : Int32} {arr : Nat} {ka : ClassId} {lo0 hi0 : Nat} {B : Nat -> Nat × Nat × Nat} {h : Heap} {W : Nat -> Option (Option own_S)} (h_ : own_Sy Z q n t sf arr ka lo0 hi0 B h W) : hi0 <= h.size := h_.2.2.2.2.2.2.2.1
theorem own_Sy.ov {Z : State} {q : own_P0} {n t sf : Int32} {arr : Nat} {ka : ClassId} {lo0 hi0 : Nat} {B : Nat -> Nat × Nat × Nat} {h : Heap} {W : Nat -> Option (Option own_S)} (h_ : own_Sy Z q n t sf arr ka lo0 hi0 B h W) : Ovr Z ka "convoke/protocol/Bracha" := h_.2.2.2.2.2.2.2.2
section OwnSy
variable {Z : State} {q : own_P0} {n t sf : Int32} {arr : Nat} {ka : ClassId} {lo0 hi0 : Nat} {B : Nat -> Nat × Nat × Nat} {h h' h1 h2 : Heap} {W : Nat -> Option (Option own_S)} {ws : List Nat} {i b lo hi : Nat}
theorem own_Sy.of_In (I : own_In Z q n t sf arr ka lo0 h n.toNatClampNeg B) : own_Sy Z q n t sf arr ka lo0 h.size B h (fun _ => some (some own_s0)) := by
  have rg : ∀ i, i < n.toNatClampNeg -> (B i).2.1 <= (B i).1 /\ (B i).1 < (B i).2.2 := fun i hi => by obtain ⟨_, _, _, _, _, _, _, _, _, _, _, ⟨r1, -⟩, -⟩ := I.br i hi; exact r1
  refine ⟨fun i hi s e => ?_, fun i hi => ?_, fun i hi => ⟨I.lo i hi, rg i hi⟩, I.dj, ?_, I.al, I.lz, Nat.le_refl _, I.ov⟩
  · cases e; exact I.br i hi
  · obtain ⟨_, _, _, _, _, _, _, _, _, _, _, -, ⟨b0, -⟩, -⟩ := I.br i hi; exact b0
  · obtain ⟨ac, A, q1, S, H⟩ := I.ar
    exact ⟨ac, A, q1, S, fun i hi => by rw [H i hi, if_pos hi]; rfl⟩
theorem own_Sy.mv (S : own_Sy Z q n t sf arr ka lo0 hi0 B h W) (K : Keep h h' ws) (kr : ∀ (y : Nat) (c : Cell), lo0 <= y -> y < hi0 -> h[y]? = some c -> h'[y]? = some c) (kk : ∀ c : Cell, h[arr]? = some c -> h'[arr]? = some c) : own_Sy Z q n t sf arr ka lo0 hi0 B h' W := by
  have sz : h.size <= h'.size := K.1
  have lz := S.lz
  refine ⟨fun i hi s e => ?_, fun i hi => (S.ex i hi).keep K, S.rg, S.dj, ?_, S.al, S.lh, by omega, S.ov⟩
  · have r := S.rg i hi
    exact own_Bq.reg (fun y c l u => kr y c (by omega) (by omega)) (S.br i hi s e)
  · obtain ⟨ac, A, r⟩ := S.ar
    exact ⟨ac, ⟨kk _ A.1, A.2⟩, r⟩
theorem own_Sy.keep (S : own_Sy Z q n t sf arr ka lo0 hi0 B h W) (K : Keep h h' ws) (o : ∀ y ∈ ws, (y < lo0 /\ y ≠ arr) ∨ hi0 <= y) : own_Sy Z q n t sf arr ka lo0 hi0 B h' W := by
  have al := S.al
  have lh := S.lh
  refine S.mv K (fun y c l u qq => K.2.1 y c qq fun hm => ?_) (fun c qq => K.2.1 arr c qq fun hm => ?_)
  · have := o y hm; omega
  · have := o arr hm; omega
theorem own_Sy.ext (S : own_Sy Z q n t sf arr ka lo0 hi0 B h W) (E : Ext h h') : own_Sy Z q n t sf arr ka lo0 hi0 B h' W :=
  S.keep (ws := []) ((Keep.refl h []).ext E) (fun _ q => nomatch q)
theorem own_Sy.get (S : own_Sy Z q n t sf arr ka lo0 hi0 B h W) (hi' : i < n.toNatClampNeg) {s : own_S} (e : W i = some (some s)) : ∃ b lo hi, B i = (b, lo, hi) /\ own_Br Z q n t sf h lo hi b s /\ (lo0 <= lo /\ hi <= hi0) :=
  ⟨(B i).1, (B i).2.1, (B i).2.2, rfl, S.br i hi' _ e, (S.rg i hi').1⟩
theorem own_Sy.geta (S : own_Sy Z q n t sf arr ka lo0 hi0 B h W) (hi' : i < n.toNatClampNeg) (e : (W i).isSome = true) : ∃ b lo hi, B i = (b, lo, hi) /\ own_Al Z h b /\ (lo0 <= lo /\ hi <= hi0) /\ (lo <= b /\ b < hi) := by
  obtain ⟨s, e⟩ := Option.isSome_iff_exists.mp e
  exact ⟨(B i).1, (B i).2.1, (B i).2.2, rfl, (S.br i hi' _ e).al, S.rg i hi'⟩
theorem own_Sy.apart (S : own_Sy Z q n t sf arr ka lo0 hi0 B h W) (hi' : i < n.toNatClampNeg) (hB : B i = (b, lo, hi)) (o : ∀ y ∈ ws, (y < lo0 /\ y ≠ arr) ∨ hi0 <= y ∨ (lo <= y /\ y < hi)) {j : Nat} (hj : j < n.toNatClampNeg) (ne : j ≠ i) {y : Nat} (l : (B j).2.1 <= y) (u : y < (B j).2.2) : y ∉ ws := fun hm => by
  have r := S.rg j hj
  have r2 := S.rg i hi'
  rw [hB] at r2
  have e1 : (B i).2.1 = lo := by rw [hB]
  have e2 : (B i).2.2 = hi := by rw [hB]
  have r2' : lo0 <= lo /\ hi <= hi0 := r2.1
  have := o y hm
  rcases Nat.lt_or_gt_of_ne ne with c | c
  · have := S.dj j i c hi'; omega
  · have := S.dj i j c hj; omega
theorem own_Sy.arrK (S : own_Sy Z q n t sf arr ka lo0 hi0 B h W) (hi' : i < n.toNatClampNeg) (hB : B i = (b, lo, hi)) (o : ∀ y ∈ ws, (y < lo0 /\ y ≠ arr) ∨ hi0 <= y ∨ (lo <= y /\ y < hi)) : arr ∉ ws := fun hm => by
  have al := S.al
  have lh := S.lh
  have r2 := (S.rg i hi').1
  rw [hB] at r2
  have r2' : lo0 <= lo /\ hi <= hi0 := r2
  have := o arr hm
  omega
theorem own_Sy.upd (S : own_Sy Z q n t sf arr ka lo0 hi0 B h W) (hi' : i < n.toNatClampNeg) (hB : B i = (b, lo, hi)) (hW : (W i).isSome = true) (K : Keep h h' ws) (o : ∀ y ∈ ws, (y < lo0 /\ y ≠ arr) ∨ hi0 <= y ∨ (lo <= y /\ y < hi)) (s : Option own_S) (Bn : own_Bq Z q n t sf h' lo hi b s) : own_Sy Z q n t sf arr ka lo0 hi0 B h' (own_up W i (some s)) := by
  have sz : h.size <= h'.size := K.1
  have lz := S.lz
  refine ⟨fun j hj s' e => ?_, fun j hj => (S.ex j hj).keep K, S.rg, S.dj, ?_, S.al, S.lh, by omega, S.ov⟩
  · by_cases c : j = i
    · subst c
      have e' : some s = some s' := by simpa [own_up] using e
      cases e'
      rw [hB]; exact Bn
    · have e' : W j = some s' := by simpa [own_up, c] using e
      exact own_Bq.reg (fun y cc l u qq => K.2.1 y cc qq (S.apart hi' hB o hj c l u)) (S.br j hj s' e')
  · obtain ⟨ac, A, q1, q2, H⟩ := S.ar
    refine ⟨ac, ⟨K.2.1 arr ac A.1 (S.arrK hi' hB o), A.2⟩, q1, q2, fun j hj => ?_⟩
    rw [H j hj]
    by_cases c : j = i
    · subst c; rw [if_pos hW, if_pos (by simp [own_up])]
    · simp [own_up, c]
theorem own_Sy.kill (S : own_Sy Z q n t sf arr ka lo0 hi0 B h W) (hi' : i < n.toNatClampNeg) (hB : B i = (b, lo, hi)) (K : Keep h h1 ws) (o : ∀ y ∈ ws, (y < lo0 /\ y ≠ arr) ∨ hi0 <= y ∨ (lo <= y /\ y < hi)) (w : Wr h1 h2 arr i .null) : own_Sy Z q n t sf arr ka lo0 hi0 B h2 (own_up W i none) := by
  have sz : h.size <= h1.size := K.1
  have lz := S.lz
  have al := S.al
  have hsz : h2.size = h1.size := by obtain ⟨c0, -, -, -, rfl⟩ := w; simp
  refine ⟨fun j hj s' e => ?_, fun j hj => ((S.ex j hj).keep K).keep (Keep.of_wr w), S.rg, S.dj, ?_, S.al, S.lh, by omega, S.ov⟩
  · by_cases c : j = i
    · subst c; simp [own_up] at e
    · have e' : W j = some s' := by simpa [own_up, c] using e
      have r := S.rg j hj
      exact own_Bq.reg (fun y cc l u qq => own_wk w (by omega) (K.2.1 y cc qq (S.apart hi' hB o hj c l u))) (S.br j hj s' e')
  · obtain ⟨ac, A, q1, q2, H⟩ := S.ar
    have A1 : Arr Z h1 arr ac (.object "convoke/protocol/Bracha") := ⟨K.2.1 arr ac A.1 (S.arrK hi' hB o), A.2⟩
    obtain ⟨c0, w1, w2, w3, rfl⟩ := w
    cases A1.1.symm.trans w1
    refine ⟨ac.setSlot i .null, ⟨?_, A1.2.1, A1.2.2⟩, q1, ?_, ?_⟩
    · rw [Array.getElem?_setIfInBounds_self_of_lt (Array.getElem?_eq_some_iff.mp w1).1]
    · show (ac.slots.setIfInBounds _ _).size = _; simpa using q2
    · intro j hj
      show (ac.slots.setIfInBounds _ _)[j]? = _
      by_cases c : j = i
      · subst c
        rw [Array.getElem?_setIfInBounds_self_of_lt (by omega), if_neg (by simp [own_up])]
      · rw [Array.getElem?_setIfInBounds_ne (Ne.symm c), H j hj]
        simp [own_up, c]
theorem own_Sy.cut0 (S : own_Sy Z q n t sf arr ka lo0 hi0 B h W) : own_Sy Z q n t sf arr ka lo0 hi0 B h (own_cut W 0) := by
  have e : own_cut W 0 = W := by funext k; simp [own_cut]
  rw [e]; exact S
theorem own_cutS (W : Nat -> Option (Option own_S)) (j : Nat) : own_up (own_cut W j) j none = own_cut W (j + 1) := by
  funext k
  simp only [own_up, own_cut]
  by_cases c : k = j
  · rw [if_pos c, if_pos (by omega)]
  · rw [if_neg c]
    by_cases d : k < j
    · rw [if_pos d, if_pos (by omega)]
    · rw [if_neg d, if_neg (by omega)]
theorem own_cutN {j : Nat} (e : ¬ (own_cut W j j).isSome = true) : own_cut W j = own_cut W (j + 1) := by
  have e' : own_cut W j j = none := by simpa using e
  rw [← own_cutS]
  funext k
  simp only [own_up]
  by_cases c : k = j
  · subst c; rw [if_pos rfl]; exact e'
  · rw [if_neg c]
theorem own_Sy.cutE {j : Nat} (S : own_Sy Z q n t sf arr ka lo0 hi0 B h (own_cut W j)) (e : n.toNatClampNeg <= j) : own_Sy Z q n t sf arr ka lo0 hi0 B h own_no := by
  refine ⟨fun i hi s e' => (by cases e'), S.ex, S.rg, S.dj, ?_, S.al, S.lh, S.lz, S.ov⟩
  obtain ⟨ac, A, q1, q2, H⟩ := S.ar
  refine ⟨ac, A, q1, q2, fun i hi => ?_⟩
  rw [H i hi, if_neg (by simp [own_cut, show i < j by omega]), if_neg (by simp [own_no])]
theorem own_Sy.none (S : own_Sy Z q n t sf arr ka lo0 hi0 B h W) (e : ∀ k, k < n.toNatClampNeg -> W k = none) : own_Sy Z q n t sf arr ka lo0 hi0 B h own_no := by
  refine ⟨fun i hi s e' => (by cases e'), S.ex, S.rg, S.dj, ?_, S.al, S.lh, S.lz, S.ov⟩
  obtain ⟨ac, A, q1, q2, H⟩ := S.ar
  refine ⟨ac, A, q1, q2, fun i hi => ?_⟩
  rw [H i hi, if_neg (by simp [e i hi]), if_neg (by simp [own_no])]
theorem own_upn {m : Nat} (e : ∀ k, k < m -> k ≠ i -> W k = none) : ∀ k, k < m -> own_up W i none k = none := fun k hk => by
  by_cases c : k = i
  · simp [own_up, c]
  · simp [own_up, c, e k hk c]
def own_WS (lo hi : Nat) (l : List Nat) : List Nat := List.range' lo (hi - lo) ++ l
theorem own_ninW {x : Nat} {l : List Nat} (e : x < lo ∨ hi <= x) (r : x ∉ l) : x ∉ own_WS lo hi l := fun hm => by
  rcases List.mem_append.mp hm with c | c
  · have := List.mem_range'_1.mp c; omega
  · exact r c
theorem own_inW {x : Nat} {l : List Nat} (e : lo <= x /\ x < hi) : x ∈ own_WS lo hi l := List.mem_append_left _ (List.mem_range'_1.mpr ⟨e.1, by omega⟩)
theorem own_inW2 {x : Nat} {l : List Nat} (e : x ∈ l) : x ∈ own_WS lo hi l := List.mem_append_right _ e
theorem own_allW {l : List Nat} {P : Nat -> Prop} (e : ∀ y, lo <= y -> y < hi -> P y) (r : ∀ x ∈ l, P x) : ∀ x ∈ own_WS lo hi l, P x := fun x hm => by
  rcases List.mem_append.mp hm with c | c
  · have := List.mem_range'_1.mp c; exact e x (by omega) (by omega)
  · exact r x c
def own_cn (W : Nat -> Option (Option own_S)) : Nat -> Nat
  | 0 => 0
  | k + 1 => own_cn W k + (if (W k).isSome = true then 1 else 0)
def own_ct (W : Nat -> Option (Option own_S)) (k : Nat) : Int32 := Int32.ofNat (own_cn W k)
theorem own_ctS {j : Nat} (e : (W j).isSome = true) : own_ct W j + (1 : Int32) = own_ct W (j + 1) := by
  show Int32.ofNat _ + 1 = Int32.ofNat (own_cn W j + (if (W j).isSome = true then 1 else 0))
  rw [if_pos e, Int32.ofNat_add]; rfl
theorem own_ctZ {j : Nat} (e : ¬ (W j).isSome = true) : own_ct W j = own_ct W (j + 1) := by
  show _ = Int32.ofNat (own_cn W j + (if (W j).isSome = true then 1 else 0))
  rw [if_neg e]; rfl
theorem own_cn_all {x : Option own_S} : ∀ k, own_cn (fun _ => some x) k = k
  | 0 => rfl
  | k + 1 => by simp only [own_cn]; rw [own_cn_all k]; rfl
theorem own_cn_no : ∀ k, own_cn own_no k = 0
  | 0 => rfl
  | k + 1 => by simp only [own_cn]; rw [own_cn_no k]; rfl
theorem own_cn_far {x : Option (Option own_S)} : ∀ {k}, k <= i -> own_cn (own_up W i x) k = own_cn W k
  | 0, _ => rfl
  | k + 1, e => by
    simp only [own_cn]; rw [own_cn_far (k := k) (by omega)]
    simp [own_up, show k ≠ i by omega]
theorem own_cn_up {x : Option (Option own_S)} (e : (W i).isSome = true) : ∀ {k}, i < k -> own_cn (own_up W i x) k + (if x.isSome = true then 0 else 1) = own_cn W k
  | 0, h => absurd h (Nat.not_lt_zero _)
  | k + 1, h => by
    simp only [own_cn]
    by_cases c : k = i
    · subst c
      rw [own_cn_far (Nat.le_refl _), if_pos e]
      simp only [own_up, if_pos]
      by_cases d : x.isSome = true
      · rw [if_pos d, if_pos d]
      · rw [if_neg d, if_neg d]
    · have := own_cn_up (x := x) e (k := k) (by omega)
      simp only [own_up, if_neg c] at *
      omega
theorem own_ct_all {x : Option own_S} (h8 : 1 <= n.toInt /\ n.toInt <= 8) : own_ct (fun _ => some x) n.toNatClampNeg = n := by
  unfold own_ct; rw [own_cn_all]
  exact (back32 (own_nn8 h8).1).1
theorem own_ct_no (k : Nat) : own_ct own_no k = (0 : Int32) := by unfold own_ct; rw [own_cn_no]; rfl
theorem own_ct_same {x : Option own_S} (e : (W i).isSome = true) {k : Nat} (h : i < k) : own_ct (own_up W i (some x)) k = own_ct W k := by
  unfold own_ct
  have : own_cn (own_up W i (some x)) k + 0 = own_cn W k := own_cn_up (x := some x) e h
  rw [show own_cn (own_up W i (some x)) k = own_cn W k by omega]
theorem own_ct_less (e : (W i).isSome = true) {k : Nat} (h : i < k) : own_ct (own_up W i none) k = own_ct W k - (1 : Int32) := by
  unfold own_ct
  have : own_cn (own_up W i none) k + 1 = own_cn W k := own_cn_up (x := none) e h
  rw [← this, Int32.ofNat_add]
  exact (Int32.add_sub_cancel _ _).symm
abbrev own_ix (p : Int32) : Nat := (p - (1 : Int32)).toNatClampNeg
theorem own_ixv {p : Int32} (h1 : ¬ p < (1 : Int32)) : ¬ (p - (1 : Int32)) < 0 /\ ((own_ix p : Nat) : Int) = p.toInt - 1 := by
  rw [Int32.lt_iff_toInt_lt, show (1 : Int32).toInt = 1 from by decide] at h1
  have c := c_isub p 1
  have r := rng32 (p - 1)
  have r' := rng32 p
  rw [show (1 : Int32).toInt = 1 from by decide] at c
  have e : (p - (1 : Int32)).toInt = p.toInt - 1 := by omega
  have h0 : ¬ (p - (1 : Int32)) < 0 := by rw [Int32.lt_iff_toInt_lt, e, show (0 : Int32).toInt = 0 from by decide]; omega
  exact ⟨h0, by rw [← e]; exact (nat_of h0).symm⟩
theorem own_ixlt {p : Int32} (h1 : ¬ p < (1 : Int32)) (h2 : ¬ n < p) (h8 : 1 <= n.toInt /\ n.toInt <= 8) : own_ix p < n.toNatClampNeg := by
  have e := (own_ixv h1).2
  have e2 := nat_of (own_nn8 h8).1
  rw [Int32.lt_iff_toInt_lt] at h2
  omega
theorem own_ixin {p : Int32} {m : Nat} (h1 : ¬ p < (1 : Int32)) (h2 : own_ix p < m) : ¬ ((p - (1 : Int32)) < 0 ∨ m <= (p - (1 : Int32)).toNatClampNeg) := by
  rintro (c | c)
  · exact (own_ixv h1).1 c
  · exact absurd h2 (Nat.not_lt.mpr c)
theorem own_ixne {p r : Int32} (h1 : ¬ p < (1 : Int32)) (h2 : ¬ r < (1 : Int32)) (ne : ¬ p = r) : own_ix p ≠ own_ix r := fun e => ne (by
  have a := (own_ixv h1).2
  have b := (own_ixv h2).2
  exact Int32.toInt_inj.mp (by omega))
theorem own_r8 {p : Int32} (h1 : ¬ p < (1 : Int32)) (h2 : ¬ n < p) (h8 : 1 <= n.toInt /\ n.toInt <= 8) : 1 <= p.toInt /\ p.toInt <= 8 := by
  rw [Int32.lt_iff_toInt_lt, show (1 : Int32).toInt = 1 from by decide] at h1
  rw [Int32.lt_iff_toInt_lt] at h2
  omega
end OwnSy

def own_live_Q (Z : State) (a1 : Addr) (arr : Addr) (nn : Int32) (tt : Int32) (sf : Int32) (ka : ClassId) (lo0 : Nat) (hi0 : Nat) (B : Nat -> Nat × Nat × Nat) (W : Nat -> Option (Option own_S)) (q : own_P0) (h0 : Heap) (n0 : Nat) (v : Option Value) (h : Heap) : Prop := (v = some (.int (own_ct W nn.toNatClampNeg)) /\ h = h0)
theorem own_live (hw : own_HW a0 Z) {a1 arr : Addr} {nn tt sf : Int32} {ka : ClassId} {lo0 hi0 : Nat} {B : Nat -> Nat × Nat × Nat} {W : Nat -> Option (Option own_S)} {q : own_P0} (Z0 : n0 <= h0.size) (Y0 : f9 Z h0 a1 (.ref arr)) (hS : own_Sy Z q nn tt sf arr ka lo0 hi0 B h0 W) (hn8 : 1 <= nn.toInt /\ nn.toInt <= 8) : own_M l ⟨"convoke/protocol/AllToAll", "live", "()I"⟩ prog_58_method_9_code 6 (some .int) ⟨0, 0, 0, 0⟩ ws Z h0 n0 #[(.ref a1)] (own_live_Q Z a1 arr nn tt sf ka lo0 hi0 B W q h0 n0) := by
  refine own_beg (plainFor_of_name own_pn26) own_t35 #[.val (.ref a1), .unset, .unset, .unset, .unset, .unset] (own_e1_6 · rfl) fun p e s m below meth c sa K X0 e0 => ?_
  have N0 := Fr.nil n0
  have H := oh hw
  refine oC (z := 0) X0 K rfl rfl <| oSIn (L' := #[.val (.ref a1), .val (.int 0), .unset, .unset, .unset, .unset]) X0 K rfl rfl <| oA X0 K rfl rfl rfl ?_
  refine oGf X0 K rfl (H 68) e0 Y0 fun T1 X1 e1 => ?_
  refine oSAn (L' := #[.val (.ref a1), .val (.int 0), .val (.ref arr), .unset, .unset, .unset]) X1 K rfl rfl rfl <| oA X1 K rfl rfl rfl ?_
  obtain ⟨ac2, Ar2, qa2, Sa2, Ha2⟩ := hS.ar
  refine oAn X1 K rfl e1 Ar2 (len_of Sa2 (own_nn8 hn8).1) <| oSIn (L' := #[.val (.ref a1), .val (.int 0), .val (.ref arr), .val (.int nn), .unset, .unset]) X1 K rfl rfl <| oC (z := 0) X1 K rfl rfl <| oSI (L' := #[.val (.ref a1), .val (.int 0), .val (.ref arr), .val (.int nn), .val (.int 0), .unset]) X1 K rfl rfl ?_
  have hN8 := (own_nn8 hn8).2
  have J : ∀ (k j : Nat) (hkj : k + j = nn.toNatClampNeg) (x5 : Slot) (h5 : x5 = .unset ∨ ∃ w, x5 = .val w /\ w.category = 1) (Lj : List Loc) (Tj : State) (Xj : Stand p l e (⟨0, 0, 0, 0⟩ : Room) s m #[(.ref a1)] below meth c Tj Lj (0 + 0 * j) (0 + 0 * j)) (Nj : Fr n0 Lj) (ej : Tj.heap = h0), own_G p.tables e below (own_PN s (own_live_Q Z a1 arr nn tt sf ka lo0 hi0 B W q h0 n0) n0 (⟨0, 0, 0, 0⟩ : Room).cells (⟨0, 0, 0, 0⟩ : Room).slots) (Tj.setTop (mkF m 13 #[.val (.ref a1), .val (.int (own_ct W j)), .val (.ref arr), .val (.int nn), .val (.int (Int32.ofNat j)), x5] [])) := by
    intro k
    induction k with
    | zero =>
      intro j hkj x5 h5 Lj Tj Xj Nj ej
      refine oJ Xj K rfl rfl <| oI Xj K rfl rfl <| oCY Xj K rfl (XT.ii_ge_t (own_ofge hkj hn8)) <| oI Xj K rfl rfl ?_
      exact oRi Xj K rfl ej Nj (by refine ⟨?_, ?_⟩ <;> first | decide | (dsimp only; omega) | omega) ⟨(by rw [← hkj, Nat.zero_add]), rfl⟩
    | succ k ih =>
      intro j hkj x5 h5 Lj Tj Xj Nj ej
      refine oJ Xj K rfl rfl <| oI Xj K rfl rfl <| oCN Xj K rfl (XT.ii_ge_f (own_oflt hkj hn8)) <| oA Xj K rfl rfl rfl <| oJ Xj K rfl rfl ?_
      have hat := Ha2 j (own_ofj hkj)
      by_cases hwj : (W j).isSome = true
      · rw [if_pos hwj] at hat
        obtain ⟨bx, hbx⟩ : ∃ z, z = (B j).1 := ⟨_, rfl⟩
        rw [← hbx] at hat
        refine oAL (v := (.ref bx)) Xj K rfl ej Ar2 rfl (own_ofin hkj hn8 Sa2) (by rw [own_ofn hkj hn8]; exact hat) <| oSA (L' := #[.val (.ref a1), .val (.int (own_ct W j)), .val (.ref arr), .val (.int nn), .val (.int (Int32.ofNat j)), .val (.ref bx)]) Xj K rfl rfl (XS.store1 rfl h5 rfl) <| oB Xj K rfl rfl rfl <| oNN Xj K rfl <| oInc (z := ((own_ct W j) + (1 : Int32))) (L' := #[.val (.ref a1), .val (.int ((own_ct W j) + (1 : Int32))), .val (.ref arr), .val (.int nn), .val (.int (Int32.ofNat j)), .val (.ref bx)]) Xj K rfl rfl rfl rfl <| oInc (z := ((Int32.ofNat j) + (1 : Int32))) (L' := #[.val (.ref a1), .val (.int ((own_ct W j) + (1 : Int32))), .val (.ref arr), .val (.int nn), .val (.int ((Int32.ofNat j) + (1 : Int32))), .val (.ref bx)]) Xj K rfl rfl rfl rfl <| oGo Xj K rfl ?_
        show own_G _ _ _ _ (Tj.setTop (mkF m 13 #[.val (.ref a1), .val (.int ((own_ct W j) + (1 : Int32))), .val (.ref arr), .val (.int nn), .val (.int ((Int32.ofNat j) + (1 : Int32))), .val (.ref bx)] []))
        rw [own_ctS hwj, own_ofS]
        exact ih (j + 1) (by omega) _ (Or.inr ⟨_, rfl, rfl⟩) _ _ (Xj.more (by (try dsimp only); omega) (by (try dsimp only); omega)) Nj ej 
      · rw [if_neg hwj] at hat
        refine oAL (v := .null) Xj K rfl ej Ar2 rfl (own_ofin hkj hn8 Sa2) (by rw [own_ofn hkj hn8]; exact hat) <| oSA (L' := #[.val (.ref a1), .val (.int (own_ct W j)), .val (.ref arr), .val (.int nn), .val (.int (Int32.ofNat j)), .val .null]) Xj K rfl rfl (XS.store1 rfl h5 rfl) <| oB Xj K rfl rfl rfl <| oNY Xj K rfl <| oInc (z := ((Int32.ofNat j) + (1 : Int32))) (L' := #[.val (.ref a1), .val (.int (own_ct W j)), .val (.ref arr), .val (.int nn), .val (.int ((Int32.ofNat j) + (1 : Int32))), .val .null]) Xj K rfl rfl rfl rfl <| oGo Xj K rfl ?_
        show own_G _ _ _ _ (Tj.setTop (mkF m 13 #[.val (.ref a1), .val (.int (own_ct W j)), .val (.ref arr), .val (.int nn), .val (.int ((Int32.ofNat j) + (1 : Int32))), .val .null] []))
        rw [own_ctZ hwj, own_ofS]
        exact ih (j + 1) (by omega) _ (Or.inr ⟨_, rfl, rfl⟩) _ _ (Xj.more (by (try dsimp only); omega) (by (try dsimp only); omega)) Nj ej 
  exact J _ 0 (Nat.add_zero _) .unset (Or.inl rfl) _ _ X1 N0 e1 
def own_quit_Q (Z : State) (a1 : Addr) (arr : Addr) (nn : Int32) (tt : Int32) (sf : Int32) (ka : ClassId) (lo0 : Nat) (hi0 : Nat) (B : Nat -> Nat × Nat × Nat) (W : Nat -> Option (Option own_S)) (q : own_P0) (h0 : Heap) (n0 : Nat) (v : Option Value) (h : Heap) : Prop := ∃ ar : Addr, (v = some (.ref ar) /\ Keep h0 h (own_WS lo0 hi0 [arr]) /\ (own_Sy Z q nn tt sf arr ka lo0 hi0 B h own_no) /\ (Exa Z h ar "java/util/ArrayList") /\ (f43 Z h ar (.ref q.fDB)) /\ (f44 Z h ar (.int 0)) /\ (h0.size <= ar))
theorem own_quit (hw : own_HW a0 Z) {a1 arr : Addr} {nn tt sf : Int32} {ka : ClassId} {lo0 hi0 : Nat} {B : Nat -> Nat × Nat × Nat} {W : Nat -> Option (Option own_S)} {q : own_P0} (Z0 : n0 <= h0.size) (Y0 : Exa Z h0 a1 "convoke/protocol/AllToAll") (Y1 : f9 Z h0 a1 (.ref arr)) (hS : own_Sy Z q nn tt sf arr ka lo0 hi0 B h0 W) (hn8 : 1 <= nn.toInt /\ nn.toInt <= 8) (hla1 : @LT.lt Nat _ a1 lo0) (hna1 : @Ne Nat a1 arr) (Y2 : n0 <= arr) (Y3 : n0 <= lo0) (hq : own_Env Z q) (hOld : Old Z n0 h0) : own_MW own_EL l ⟨"convoke/protocol/AllToAll", "quit", "()Ljava/util/List;"⟩ prog_58_method_6_code 3 (some (.object "java/util/List")) ⟨5, 9, 67, 75⟩ ws Z h0 n0 #[(.ref a1)] (own_quit_Q Z a1 arr nn tt sf ka lo0 hi0 B W q h0 n0) := by
  refine own_begW (plainFor_of_name own_pn26) own_t92 #[.val (.ref a1), .unset, .unset] (own_e1_3 · rfl) fun p e s m below meth c sa K X0 e0 hh hS0 R0 => ?_
  have N0 := Fr.nil n0
  have H := oh hw
  have hEL := own_ew hw
  refine oNew X0 K rfl (H 626) (H 424) (H 425) e0 (Nat.le_refl _) (by decide) fun T1 h1 b1 g1 Y4 X1 e1 E1 A1 D1 => ?_
  have R2 := own_re R0 E1
  refine oDup X1 K rfl rfl ?_
  refine oNc X1 K rfl (H 674) (H 675) (H 676) (H 425) (by decide) rfl e1 (own_i_AL0 hw (Nat.le_trans Z0 E1.1) A1 (D1 (Or.inl (H 443)) (ty := .int) (by decide)) (D1 (Or.inl (H 447)) (ty := (.array (.object "java/lang/Object"))) (by decide)) (D1 (Or.inl (H 462)) (ty := .int) (by decide)) (Nat.le_trans Z0 Y4) hq (Old.ext hOld E1)) rfl rfl (lenOf own_pd0 rfl) rfl N0 1 rfl (by decide) fun v4 T4 h4 L4 N4 q4 e4 X4 => ?_
  obtain ⟨rfl, K4, Y5, Y6, Y7, Y8⟩ := q4
  have R5 := own_rk R2 K4 (sfS (oSx K.wz A1 (by decide)) sf0)
  refine oSAn X4 K rfl rfl rfl <| oC (z := 0) X4 K rfl rfl <| oSIn X4 K rfl rfl ?_
  have hoal : hi0 <= b1 := Nat.le_trans hS.lz Y4
  have hneal : @Ne Nat arr b1 := oNe (Nat.lt_of_lt_of_le hS.al hS.lh) hoal
  have hN8 := (own_nn8 hn8).2
  have J : ∀ (k j : Nat) (hkj : k + j = nn.toNatClampNeg) (mcj : Int32) (Lj : List Loc) (Tj : State) (hj : Heap) (vj : Vm) (nj : Nat) (K : own_K p c own_L92 Z (s.setVm vj) "convoke/protocol/AllToAll" m meth 3 (some (.object "java/util/List")) "quit") (hSj : s.Since vj nj) (hkn : nj <= hj.size) (RRj : CHr Z own_EL s.vm h0 vj hj) (Xj : Stand p l e (⟨5, 9, 67, 75⟩ : Room) (s.setVm vj) m #[(.ref a1)] below meth c Tj Lj (1 + 1 * j) (3 + 8 * j)) (Nj : Fr n0 Lj) (ej : Tj.heap = hj) (Kj : Keep h0 hj (own_WS lo0 hi0 [arr])) (Sj : own_Sy Z q nn tt sf arr ka lo0 hi0 B hj (own_cut W j)) (Fj0 : Exa Z hj b1 "java/util/ArrayList") (Fj1 : f42 Z hj b1 (.int mcj)) (Fj2 : f43 Z hj b1 (.ref q.fDB)) (Fj3 : f44 Z hj b1 (.int 0)), own_G p.tables e below (own_PV Z own_EL s (own_quit_Q Z a1 arr nn tt sf ka lo0 hi0 B W q h0 n0) n0 (⟨5, 9, 67, 75⟩ : Room).cells (⟨5, 9, 67, 75⟩ : Room).slots) (Tj.setTop (mkF m 10 #[.val (.ref a1), .val (.ref b1), .val (.int (Int32.ofNat j))] [])) := by
    intro k
    induction k with
    | zero =>
      intro j hkj mcj Lj Tj hj vj nj K hSj hkn RRj Xj Nj ej Kj Sj Fj0 Fj1 Fj2 Fj3
      refine oI Xj K rfl rfl <| oA Xj K rfl rfl rfl ?_
      refine oGf Xj K rfl (H 68) ej (Y1.keep Kj (own_ninW (Or.inl hla1) (ninS hna1 nin0))) fun T6 X6 e6 => ?_
      obtain ⟨ac7, Ar7, qa7, Sa7, Ha7⟩ := Sj.ar
      refine oAn X6 K rfl e6 Ar7 (len_of Sa7 (own_nn8 hn8).1) <| oCY X6 K rfl (XT.ii_ge_t (own_ofge hkj hn8)) <| oA X6 K rfl rfl rfl ?_
      exact oRaw X6 K rfl rfl rfl e6 Nj (by refine ⟨?_, ?_⟩ <;> first | decide | (dsimp only; omega) | omega) hh hEL hSj hkn RRj ⟨b1, rfl, ((Keep.refl _ _).trans Kj (own_allW (fun y l u => Or.inl (own_inW ⟨l, u⟩)) (allS (Or.inl (own_inW2 (List.mem_of_getElem? (i := 0) rfl))) all0))), (own_Sy.cutE Sj (by omega)), Fj0, Fj2, Fj3, Y4⟩
    | succ k ih =>
      intro j hkj mcj Lj Tj hj vj nj K hSj hkn RRj Xj Nj ej Kj Sj Fj0 Fj1 Fj2 Fj3
      refine oI Xj K rfl rfl <| oA Xj K rfl rfl rfl ?_
      refine oGf Xj K rfl (H 68) ej (Y1.keep Kj (own_ninW (Or.inl hla1) (ninS hna1 nin0))) fun T8 X8 e8 => ?_
      obtain ⟨ac9, Ar9, qa9, Sa9, Ha9⟩ := Sj.ar
      refine oAn X8 K rfl e8 Ar9 (len_of Sa9 (own_nn8 hn8).1) <| oCN X8 K rfl (XT.ii_ge_f (own_oflt hkj hn8)) <| oA X8 K rfl rfl rfl ?_
      refine oGf X8 K rfl (H 68) e8 (Y1.keep Kj (own_ninW (Or.inl hla1) (ninS hna1 nin0))) fun T10 X10 e10 => ?_
      refine oI X10 K rfl rfl ?_
      have hjl := own_ofj hkj
      have hat := Ha9 j hjl
      by_cases hwj : (own_cut W j j).isSome = true
      · rw [if_pos hwj] at hat
        obtain ⟨bj, loj, hij, hBj, Alj, ⟨rj1, rj2⟩, ⟨rj3, rj4⟩⟩ := Sj.geta hjl hwj
        rw [hBj] at hat
        change _ = some (Value.ref bj) at hat
        obtain ⟨w1, w2, w5, w10, w11, w12, w7, w8, w9, w13, Al0, Al1, Al2, Al3, Al4, Al5, Al6, Al7, Al8, Al9, Al10, Al11, Al12, Al13⟩ := Alj
        have Y9 : n0 <= bj := Nat.le_trans Y3 (Nat.le_trans rj1 rj3)
        have hnab : @Ne Nat arr bj := oNe hS.al (Nat.le_trans rj1 rj3)
        refine oAL (v := (.ref bj)) X10 K rfl e10 Ar9 rfl (own_ofin hkj hn8 Sa9) (by rw [own_ofn hkj hn8]; exact hat) <| oNN X10 K rfl <| oA X10 K rfl rfl rfl <| oA X10 K rfl rfl rfl ?_
        refine oGf X10 K rfl (H 68) e10 (Y1.keep Kj (own_ninW (Or.inl hla1) (ninS hna1 nin0))) fun T11 X11 e11 => ?_
        refine oI X11 K rfl rfl <| oAL (v := (.ref bj)) X11 K rfl e11 Ar9 rfl (own_ofin hkj hn8 Sa9) (by rw [own_ofn hkj hn8]; exact hat) ?_
        refine oVc X11 K rfl (H 706) (H 707) (notFace_of_selects (args := #[]) (mvT K.wz (H 709))) (H 709) (H 708) (H 710) (H 37) (by decide) e11 Al0 (own_brq hw (Nat.le_trans Z0 Kj.1) Al0 Al1 Al2 Al3 Al4 Al5 Al6 Al7 Al8 Al9 Al10 Al11 Al12 Al13 Y9 hq (Old.keep hOld Kj (own_allW (fun y l _ => Nat.le_trans Y3 l) (allS Y2 all0)))) rfl rfl (lenOf own_pd33 rfl) rfl Nj 1 rfl (by refine ⟨?_, ?_⟩ <;> first | decide | (dsimp only; omega) | omega) fun v13 T13 h13 L13 N13 q13 e13 X13 => ?_
        obtain ⟨rfl, K13⟩ := q13
        have R14 := own_rk RRj K13 (sfS (oSx K.wz Al0 (by decide)) sf0)
        refine oFc X13 K rfl (H 678) (H 679) (mvT K.wz (H 680)) (H 681) (H 682) (H 683) (H 684) (H 457) (H 685) (H 425) (by decide) e13 (Fj0.keep K13) (own_addaN hw (Nat.le_trans Z0 (Nat.le_trans Kj.1 K13.1)) (Fj0.keep K13) (Fj1.keep K13 (ninS (Ne.symm (Exa.ne Al0 Fj0 (by decide))) nin0)) (Fj2.keep K13 (ninS (Ne.symm (Exa.ne Al0 Fj0 (by decide))) nin0)) (Fj3.keep K13 (ninS (Ne.symm (Exa.ne Al0 Fj0 (by decide))) nin0)) (Nat.le_trans Z0 Y4) hq (Old.keep (Old.keep hOld Kj (own_allW (fun y l _ => Nat.le_trans Y3 l) (allS Y2 all0))) K13 (allS Y9 all0))) rfl rfl (lenOf own_pd54 rfl) rfl N13 0 rfl (by refine ⟨?_, ?_⟩ <;> first | decide | (dsimp only; omega) | omega) fun v16 T16 h16 L16 N16 q16 e16 X16 => ?_
        obtain ⟨rfl, K16, Y10, Y11, Y12, Y13⟩ := q16
        have R17 := own_rk R14 K16 (sfS (oSx K.wz (Fj0.keep K13) (by decide)) sf0)
        refine oPop X16 K rfl rfl <| oA X16 K rfl rfl rfl ?_
        refine oGf X16 K rfl (H 68) e16 (((Y1.keep Kj (own_ninW (Or.inl hla1) (ninS hna1 nin0))).keep K13 (ninS (Exa.ne (Y0.keep Kj) Al0 (by decide)) nin0)).keep K16 (ninS (oNe (Exa.lt Y0) Y4) nin0)) fun T18 X18 e18 => ?_
        refine oI X18 K rfl rfl <| oN X18 K rfl ?_
        have An19 := (own_arK (own_arK Ar9 K13 (ninS hnab nin0)) K16 (ninS hneal nin0))
        have Kk19 := (((Keep.refl _ [bj, b1]).trans K13 (allS (oM 0 rfl) all0)).trans K16 (allS (oM 1 rfl) all0))
        obtain ⟨T20, h20, X20, e20, W20, st20⟩ := stR X18 K.1 K.wz e18 An19 (j := (Int32.ofNat j)) (own_ofin hkj hn8 Sa9) rfl (Or.inl rfl) (g := (mkF m 50 #[.val (.ref a1), .val (.ref b1), .val (.int (Int32.ofNat j))] [.null, (.int (Int32.ofNat j)), (.ref arr)])) rfl rfl (K.d rfl)
        refine own_fs (st20 _ (Steps.refl _)) ?_
        have Sk19 := own_cutS W j ▸ own_Sy.kill Sj hjl hBj Kk19 (allS (P := fun y : Nat => (y < lo0 /\ y ≠ arr) ∨ hi0 <= y ∨ (loj <= y /\ y < hij)) (Or.inr (Or.inr ⟨rj3, rj4⟩)) (allS (P := fun y : Nat => (y < lo0 /\ y ≠ arr) ∨ hi0 <= y ∨ (loj <= y /\ y < hij)) (Or.inr (Or.inl hoal)) all0)) (own_ofn hkj hn8 ▸ W20)
        have R21 := own_rw R17 W20 (Safe.arr K.wz.alike An19 (by decide))
        have N20 := Fr.snoc X20 N16 Y2
        show own_G _ _ _ _ (T20.setTop (mkF m 51 #[.val (.ref a1), .val (.ref b1), .val (.int (Int32.ofNat j))] []))
        refine oInc (z := ((Int32.ofNat j) + (1 : Int32))) X20 K rfl rfl rfl rfl <| oGo X20 K rfl ?_
        show own_G _ _ _ _ (T20.setTop (mkF m 10 #[.val (.ref a1), .val (.ref b1), .val (.int ((Int32.ofNat j) + (1 : Int32)))] []))
        rw [own_ofS]
        exact ih (j + 1) (by omega) _ _ _ _ _ _ K hSj (Nat.le_trans (Nat.le_trans (Nat.le_trans hkn K13.1) K16.1) (Keep.of_wr W20).1) R21 (X20.more (by (try dsimp only); omega) (by (try dsimp only); omega)) N20 e20 (((((Keep.refl _ _).trans Kj (own_allW (fun y l u => Or.inl (own_inW ⟨l, u⟩)) (allS (Or.inl (own_inW2 (List.mem_of_getElem? (i := 0) rfl))) all0))).trans K13 (allS (Or.inl (own_inW ⟨Nat.le_trans rj1 rj3, Nat.lt_of_lt_of_le rj4 rj2⟩)) all0)).trans K16 (allS (Or.inr Y4) all0)).wr W20 (Or.inl (own_inW2 (List.mem_of_getElem? (i := 0) rfl)))) Sk19 (Exa.wr W20 Y10) (oFn W20 Y11 (Ne.symm hneal)) (oFn W20 Y12 (Ne.symm hneal)) (oFn W20 Y13 (Ne.symm hneal))
      · rw [if_neg hwj] at hat
        refine oAL (v := .null) X10 K rfl e10 Ar9 rfl (own_ofin hkj hn8 Sa9) (by rw [own_ofn hkj hn8]; exact hat) <| oNY X10 K rfl <| oInc (z := ((Int32.ofNat j) + (1 : Int32))) X10 K rfl rfl rfl rfl <| oGo X10 K rfl ?_
        show own_G _ _ _ _ (T10.setTop (mkF m 10 #[.val (.ref a1), .val (.ref b1), .val (.int ((Int32.ofNat j) + (1 : Int32)))] []))
        rw [own_ofS]
        exact ih (j + 1) (by omega) _ _ _ _ _ _ K hSj hkn RRj (X10.more (by (try dsimp only); omega) (by (try dsimp only); omega)) Nj e10 ((Keep.refl _ _).trans Kj (own_allW (fun y l u => Or.inl (own_inW ⟨l, u⟩)) (allS (Or.inl (own_inW2 (List.mem_of_getElem? (i := 0) rfl))) all0))) (own_cutN hwj ▸ Sj) Fj0 Fj1 Fj2 Fj3
  exact J _ 0 (Nat.add_zero _) _ _ _ _ _ _ K hS0 (Nat.le_trans (Nat.le_trans (Nat.zero_le _) E1.1) K4.1) R5 X4 N4 e4 (((Keep.refl _ _).ext E1).trans K4 (allS (Or.inr Y4) all0)) (own_Sy.cut0 (own_Sy.keep (own_Sy.ext hS E1) K4 (allS (P := fun y : Nat => (y < lo0 /\ y ≠ arr) ∨ hi0 <= y) (Or.inr hoal) all0))) Y5 Y6 Y7 Y8
def own_quit0_Q (Z : State) (a1 : Addr) (arr : Addr) (nn : Int32) (tt : Int32) (sf : Int32) (ka : ClassId) (lo0 : Nat) (hi0 : Nat) (B : Nat -> Nat × Nat × Nat) (q : own_P0) (h0 : Heap) (n0 : Nat) (v : Option Value) (h : Heap) : Prop := ∃ ar : Addr, (v = some (.ref ar) /\ Keep h0 h [] /\ (own_Sy Z q nn tt sf arr ka lo0 hi0 B h own_no) /\ (Exa Z h ar "java/util/ArrayList") /\ (f43 Z h ar (.ref q.fDB)) /\ (f44 Z h ar (.int 0)) /\ (h0.size <= ar))
theorem own_quit0 (hw : own_HW a0 Z) {a1 arr : Addr} {nn tt sf : Int32} {ka : ClassId} {lo0 hi0 : Nat} {B : Nat -> Nat × Nat × Nat} {q : own_P0} (Z0 : n0 <= h0.size) (Y0 : Exa Z h0 a1 "convoke/protocol/AllToAll") (Y1 : f9 Z h0 a1 (.ref arr)) (hS : own_Sy Z q nn tt sf arr ka lo0 hi0 B h0 own_no) (hn8 : 1 <= nn.toInt /\ nn.toInt <= 8) (hla1 : @LT.lt Nat _ a1 lo0) (hna1 : @Ne Nat a1 arr) (Y2 : n0 <= arr) (Y3 : n0 <= lo0) (hq : own_Env Z q) (hOld : Old Z n0 h0) : own_MW own_EL l ⟨"convoke/protocol/AllToAll", "quit", "()Ljava/util/List;"⟩ prog_58_method_6_code 3 (some (.object "java/util/List")) ⟨4, 1, 3, 49⟩ ws Z h0 n0 #[(.ref a1)] (own_quit0_Q Z a1 arr nn tt sf ka lo0 hi0 B q h0 n0) := by
  refine own_begW (plainFor_of_name own_pn26) own_t92 #[.val (.ref a1), .unset, .unset] (own_e1_3 · rfl) fun p e s m below meth c sa K X0 e0 hh hS0 R0 => ?_
  have N0 := Fr.nil n0
  have H := oh hw
  have hEL := own_ew hw
  refine oNew X0 K rfl (H 626) (H 424) (H 425) e0 (Nat.le_refl _) (by decide) fun T1 h1 b1 g1 Y4 X1 e1 E1 A1 D1 => ?_
  have R2 := own_re R0 E1
  refine oDup X1 K rfl rfl ?_
  refine oNc X1 K rfl (H 674) (H 675) (H 676) (H 425) (by decide) rfl e1 (own_i_AL0 hw (Nat.le_trans Z0 E1.1) A1 (D1 (Or.inl (H 443)) (ty := .int) (by decide)) (D1 (Or.inl (H 447)) (ty := (.array (.object "java/lang/Object"))) (by decide)) (D1 (Or.inl (H 462)) (ty := .int) (by decide)) (Nat.le_trans Z0 Y4) hq (Old.ext hOld E1)) rfl rfl (lenOf own_pd0 rfl) rfl N0 1 rfl (by decide) fun v4 T4 h4 L4 N4 q4 e4 X4 => ?_
  obtain ⟨rfl, K4, Y5, Y6, Y7, Y8⟩ := q4
  have R5 := own_rk R2 K4 (sfS (oSx K.wz A1 (by decide)) sf0)
  refine oSAn X4 K rfl rfl rfl <| oC (z := 0) X4 K rfl rfl <| oSIn X4 K rfl rfl ?_
  have hoal : hi0 <= b1 := Nat.le_trans hS.lz Y4
  have hN8 := (own_nn8 hn8).2
  have J : ∀ (k j : Nat) (hkj : k + j = nn.toNatClampNeg) (mcj : Int32) (Lj : List Loc) (Tj : State) (hj : Heap) (vj : Vm) (nj : Nat) (K : own_K p c own_L92 Z (s.setVm vj) "convoke/protocol/AllToAll" m meth 3 (some (.object "java/util/List")) "quit") (hSj : s.Since vj nj) (hkn : nj <= hj.size) (RRj : CHr Z own_EL s.vm h0 vj hj) (Xj : Stand p l e (⟨4, 1, 3, 49⟩ : Room) (s.setVm vj) m #[(.ref a1)] below meth c Tj Lj (1 + 0 * j) (3 + 0 * j)) (Nj : Fr n0 Lj) (ej : Tj.heap = hj) (Kj : Keep h0 hj []) (Sj : own_Sy Z q nn tt sf arr ka lo0 hi0 B hj own_no) (Fj0 : Exa Z hj b1 "java/util/ArrayList") (Fj1 : f42 Z hj b1 (.int mcj)) (Fj2 : f43 Z hj b1 (.ref q.fDB)) (Fj3 : f44 Z hj b1 (.int 0)), own_G p.tables e below (own_PV Z own_EL s (own_quit0_Q Z a1 arr nn tt sf ka lo0 hi0 B q h0 n0) n0 (⟨4, 1, 3, 49⟩ : Room).cells (⟨4, 1, 3, 49⟩ : Room).slots) (Tj.setTop (mkF m 10 #[.val (.ref a1), .val (.ref b1), .val (.int (Int32.ofNat j))] [])) := by
    intro k
    induction k with
    | zero =>
      intro j hkj mcj Lj Tj hj vj nj K hSj hkn RRj Xj Nj ej Kj Sj Fj0 Fj1 Fj2 Fj3
      refine oI Xj K rfl rfl <| oA Xj K rfl rfl rfl ?_
      refine oGf Xj K rfl (H 68) ej (Y1.keep Kj nin0) fun T6 X6 e6 => ?_
      obtain ⟨ac7, Ar7, qa7, Sa7, Ha7⟩ := Sj.ar
      refine oAn X6 K rfl e6 Ar7 (len_of Sa7 (own_nn8 hn8).1) <| oCY X6 K rfl (XT.ii_ge_t (own_ofge hkj hn8)) <| oA X6 K rfl rfl rfl ?_
      exact oRaw X6 K rfl rfl rfl e6 Nj (by refine ⟨?_, ?_⟩ <;> first | decide | (dsimp only; omega) | omega) hh hEL hSj hkn RRj ⟨b1, rfl, ((Keep.refl _ _).trans Kj all0), Sj, Fj0, Fj2, Fj3, Y4⟩
    | succ k ih =>
      intro j hkj mcj Lj Tj hj vj nj K hSj hkn RRj Xj Nj ej Kj Sj Fj0 Fj1 Fj2 Fj3
      refine oI Xj K rfl rfl <| oA Xj K rfl rfl rfl ?_
      refine oGf Xj K rfl (H 68) ej (Y1.keep Kj nin0) fun T8 X8 e8 => ?_
      obtain ⟨ac9, Ar9, qa9, Sa9, Ha9⟩ := Sj.ar
      refine oAn X8 K rfl e8 Ar9 (len_of Sa9 (own_nn8 hn8).1) <| oCN X8 K rfl (XT.ii_ge_f (own_oflt hkj hn8)) <| oA X8 K rfl rfl rfl ?_
      refine oGf X8 K rfl (H 68) e8 (Y1.keep Kj nin0) fun T10 X10 e10 => ?_
      refine oI X10 K rfl rfl ?_
      have hat := Ha9 j (own_ofj hkj)
      rw [if_neg (by simp [own_no])] at hat
      refine oAL (v := .null) X10 K rfl e10 Ar9 rfl (own_ofin hkj hn8 Sa9) (by rw [own_ofn hkj hn8]; exact hat) <| oNY X10 K rfl <| oInc (z := ((Int32.ofNat j) + (1 : Int32))) X10 K rfl rfl rfl rfl <| oGo X10 K rfl ?_
      show own_G _ _ _ _ (T10.setTop (mkF m 10 #[.val (.ref a1), .val (.ref b1), .val (.int ((Int32.ofNat j) + (1 : Int32)))] []))
      rw [own_ofS]
      exact ih (j + 1) (by omega) _ _ _ _ _ _ K hSj hkn RRj (X10.more (by (try dsimp only); omega) (by (try dsimp only); omega)) Nj e10 ((Keep.refl _ _).trans Kj all0) Sj Fj0 Fj1 Fj2 Fj3
  exact J _ 0 (Nat.add_zero _) _ _ _ _ _ _ K hS0 (Nat.le_trans (Nat.le_trans (Nat.zero_le _) E1.1) K4.1) R5 X4 N4 e4 (((Keep.refl _ _).ext E1).trans K4 (allS (Or.inr Y4) all0)) (own_Sy.keep (own_Sy.ext hS E1) K4 (allS (P := fun y : Nat => (y < lo0 /\ y ≠ arr) ∨ hi0 <= y) (Or.inr hoal) all0)) Y5 Y6 Y7 Y8
def own_i_A2_Q (Z : State) (a1 : Addr) (p1 : Int32) (p2 : Int32) (p3 : Int32) (u1 : Value) (u2 : Int32) (u3 : Int32) (u4 : Int32) (u5 : Value) (q : own_P0) (h0 : Heap) (n0 : Nat) (v : Option Value) (h : Heap) : Prop := ∃ tm : Addr, ∃ arr : Addr, ∃ ka : ClassId, ∃ lo0 : Nat, ∃ B : Nat -> Nat × Nat × Nat, (v = none /\ Keep h0 h [a1] /\ (f3 Z h a1 (.ref tm)) /\ (f6 Z h a1 (.int p1)) /\ (f7 Z h a1 (.int p3)) /\ (f8 Z h a1 (.int (p1 - p2))) /\ (f9 Z h a1 (.ref arr)) /\ (Exa Z h tm "java/util/TreeMap") /\ (f0 Z h tm (.int 0)) /\ (f1 Z h tm (.int 0)) /\ (f2 Z h tm .null) /\ (f47 Z h tm .null) /\ (h0.size <= tm) /\ (h0.size <= arr) /\ (own_In Z q p1 p2 p3 arr ka lo0 h p1.toNatClampNeg B) /\ (@LT.lt Nat _ a1 lo0) /\ (@LT.lt Nat _ tm lo0) /\ (@Ne Nat a1 arr) /\ (@Ne Nat tm arr) /\ (Exa Z h a1 "convoke/protocol/AllToAll"))
theorem own_i_A2 (hw : own_HW a0 Z) {a1 : Addr} {p1 p2 p3 : Int32} {u1 : Value} {u2 u3 u4 : Int32} {u5 : Value} {q : own_P0} (Z0 : n0 <= h0.size) (Y0 : Exa Z h0 a1 "convoke/protocol/AllToAll") (Y1 : f3 Z h0 a1 u1) (Y2 : f6 Z h0 a1 (.int u2)) (Y3 : f7 Z h0 a1 (.int u3)) (Y4 : f8 Z h0 a1 (.int u4)) (Y5 : f9 Z h0 a1 u5) (Y6 : n0 <= a1) (ht0 : ¬ (p2 < (0 : Int32))) (h3t : ((3 : Int64) * (p2.toInt64)) < (p1.toInt64)) (hv1 : ¬ (p3 < (1 : Int32))) (hv2 : ¬ (p1 < p3)) (hn8 : 1 <= p1.toInt /\ p1.toInt <= 8) (hq : own_Env Z q) (hOld : Old Z n0 h0) : own_MW own_EL l ⟨"convoke/protocol/AllToAll", "<init>", "(IIIZ)V"⟩ prog_58_method_2_code 6 none ⟨5, 134, 1465, 76⟩ ws Z h0 n0 #[(.ref a1), (.int p1), (.int p2), (.int p3), (.int 0)] (own_i_A2_Q Z a1 p1 p2 p3 u1 u2 u3 u4 u5 q h0 n0) := by
  refine own_begW (plainFor_of_name own_pn26) own_t2 #[.val (.ref a1), .val (.int p1), .val (.int p2), .val (.int p3), .val (.int 0), .unset] (own_e5_6 · ⟨rfl, rfl, rfl, rfl, rfl⟩) fun p e s m below meth c sa K X0 e0 hh hS0 R0 => ?_
  have N0 := Fr.nil n0
  have H := oh hw
  have hEL := own_ew hw
  refine oA X0 K rfl rfl rfl ?_
  refine oObj X0 K rfl (H 11) (H 12) (H 13) e0 rfl 0 rfl (by decide) fun T1 X1 e1 => ?_
  refine oA X1 K rfl rfl rfl ?_
  refine oNew X1 K rfl (H 14) (H 15) (H 16) e1 (Nat.le_refl _) (by decide) fun T2 h2 b2 g2 Y7 X2 e2 E2 A2 D2 => ?_
  have R3 := own_re R0 E2
  refine oDup X2 K rfl rfl ?_
  refine oNc X2 K rfl (H 17) (H 18) (H 19) (H 16) (by decide) rfl e2 (own_i_TM hw (Nat.le_trans Z0 E2.1) A2 (D2 (Or.inl (H 28)) (ty := .int) (by decide)) (D2 (Or.inl (H 30)) (ty := .int) (by decide)) (D2 (Or.inr (H 32)) (ty := (.object "java/util/Comparator")) (by decide)) (D2 (Or.inl (H 564)) (ty := (.object "java/util/TreeMap$Entry")) (by decide)) (Nat.le_trans Z0 Y7)) rfl rfl (lenOf own_pd0 rfl) rfl N0 2 rfl (by decide) fun v5 T5 h5 L5 N5 q5 e5 X5 => ?_
  obtain ⟨rfl, K5, Y8, Y9, Y10, Y11⟩ := q5
  have R6 := own_rk R3 K5 (sfS (oSx K.wz A2 (by decide)) sf0)
  refine oPf (ty := (.object "java/util/SortedMap")) X5 K rfl (H 33) e5 ((Fld.ext E2 Y1).keep K5 (ninS (oNe (Exa.lt Y0) Y7) nin0)) ((Exa.ext E2 Y0).keep K5) (Or.inr ⟨(H 34), rfl, K.nm⟩) (H 3) (by decide) rfl rfl N5 Y6 fun T7 h7 L7 N7 X7 e7 W7 Fw7 => ?_
  have R8 := own_rw R6 W7 (oSx K.wz ((Exa.ext E2 Y0).keep K5) (by decide))
  refine oI X7 K rfl rfl <| oI X7 K rfl rfl ?_
  have z10 := (Nat.le_trans (Nat.le_trans E2.1 K5.1) (Keep.of_wr W7).1)
  refine oTw X7 K hS0 (Nat.le_trans (Nat.le_trans (Nat.le_trans (Nat.zero_le _) E2.1) K5.1) (Keep.of_wr W7).1) hEL R8 rfl (H 35) (H 36) (H 38) (H 37) (by decide) e7 (own_ckB hw (Nat.le_trans Z0 z10) ht0 h3t) rfl (lenOf own_pd3 rfl) rfl N7 0 rfl (by decide) fun v11 T11 h11 L11 N11 q11 e11 X11 hS11 K R11 => ?_
  obtain ⟨rfl, K11⟩ := q11
  refine oLd (n := 16) X11 K rfl (H 55) (own_wS hw) e11 hS11 (Nat.le_refl _) hEL R11 (by decide) fun la12 T12 h12 k12 X12 e12 E12 hS12 hk12 K R12 => ?_
  refine oI X12 K rfl rfl <| oI X12 K rfl rfl ?_
  have z14 := (Nat.le_trans (Nat.le_trans z10 K11.1) E12.1)
  refine oTc X12 K rfl (H 56) (H 57) (H 59) (H 58) (by decide) e12 (own_ckP hw (Nat.le_trans Z0 z14) hv1 hv2) rfl (lenOf own_pd2 rfl) rfl N11 0 rfl (by decide) fun v15 T15 h15 L15 N15 q15 e15 X15 => ?_
  obtain ⟨rfl, y15⟩ := q15
  refine oA X15 K rfl rfl rfl <| oI X15 K rfl rfl ?_
  refine oPf (ty := .int) X15 K rfl (H 60) (e15.trans y15) (Fld.ext E12 ((oFo W7 ((Fld.ext E2 Y2).keep K5 (ninS (oNe (Exa.lt Y0) Y7) nin0)) (Or.inr (H 61)) (Or.inr (H 34)) (by decide)).keep K11 nin0)) (Exa.ext E12 ((Exa.wr W7 ((Exa.ext E2 Y0).keep K5)).keep K11)) (Or.inr ⟨(H 61), rfl, K.nm⟩) (H 3) (by decide) rfl rfl N15 Y6 fun T16 h16 L16 N16 X16 e16 W16 Fw16 => ?_
  have R17 := own_rw R12 W16 (oSx K.wz (Exa.ext E12 ((Exa.wr W7 ((Exa.ext E2 Y0).keep K5)).keep K11)) (by decide))
  refine oA X16 K rfl rfl rfl <| oI X16 K rfl rfl ?_
  refine oPf (ty := .int) X16 K rfl (H 62) e16 (oFo W16 (Fld.ext E12 ((oFo W7 ((Fld.ext E2 Y3).keep K5 (ninS (oNe (Exa.lt Y0) Y7) nin0)) (Or.inr (H 63)) (Or.inr (H 34)) (by decide)).keep K11 nin0)) (Or.inr (H 63)) (Or.inr (H 61)) (by decide)) (Exa.wr W16 (Exa.ext E12 ((Exa.wr W7 ((Exa.ext E2 Y0).keep K5)).keep K11))) (Or.inr ⟨(H 63), rfl, K.nm⟩) (H 3) (by decide) rfl rfl N16 Y6 fun T18 h18 L18 N18 X18 e18 W18 Fw18 => ?_
  have R19 := own_rw R17 W18 (oSx K.wz (Exa.wr W16 (Exa.ext E12 ((Exa.wr W7 ((Exa.ext E2 Y0).keep K5)).keep K11))) (by decide))
  refine oA X18 K rfl rfl rfl <| oI X18 K rfl rfl <| oI X18 K rfl rfl <| oSub X18 K rfl rfl ?_
  refine oPf (ty := .int) X18 K rfl (H 64) e18 (oFo W18 (oFo W16 (Fld.ext E12 ((oFo W7 ((Fld.ext E2 Y4).keep K5 (ninS (oNe (Exa.lt Y0) Y7) nin0)) (Or.inr (H 65)) (Or.inr (H 34)) (by decide)).keep K11 nin0)) (Or.inr (H 65)) (Or.inr (H 61)) (by decide)) (Or.inr (H 65)) (Or.inr (H 63)) (by decide)) (Exa.wr W18 (Exa.wr W16 (Exa.ext E12 ((Exa.wr W7 ((Exa.ext E2 Y0).keep K5)).keep K11)))) (Or.inr ⟨(H 65), rfl, K.nm⟩) (H 3) (by decide) rfl rfl N18 Y6 fun T20 h20 L20 N20 X20 e20 W20 Fw20 => ?_
  have R21 := own_rw R19 W20 (oSx K.wz (Exa.wr W18 (Exa.wr W16 (Exa.ext E12 ((Exa.wr W7 ((Exa.ext E2 Y0).keep K5)).keep K11)))) (by decide))
  refine oA X20 K rfl rfl rfl <| oI X20 K rfl rfl ?_
  have z22 := (Nat.le_trans (Nat.le_trans (Nat.le_trans z14 (Keep.of_wr W16).1) (Keep.of_wr W18).1) (Keep.of_wr W20).1)
  refine oNR X20 K rfl (H 66) (H 67) e20 z22 (own_nn8 hn8).1 8 (own_nn8 hn8).2 (by decide) fun T23 h23 b23 k23 g23 Y12 X23 e23 E23 A23 D23 O23 => ?_
  have Y13 : Arh Z h23 b23 k23 (.object "convoke/protocol/Bracha") p1 [] [] .null := A23
  have R24 := own_re R21 E23
  refine oPf (ty := (.array (.object "convoke/protocol/Bracha"))) X23 K rfl (H 68) e23 (Fld.ext E23 (oFo W20 (oFo W18 (oFo W16 (Fld.ext E12 ((oFo W7 ((Fld.ext E2 Y5).keep K5 (ninS (oNe (Exa.lt Y0) Y7) nin0)) (Or.inr (H 69)) (Or.inr (H 34)) (by decide)).keep K11 nin0)) (Or.inr (H 69)) (Or.inr (H 61)) (by decide)) (Or.inr (H 69)) (Or.inr (H 63)) (by decide)) (Or.inr (H 69)) (Or.inr (H 65)) (by decide))) (Exa.ext E23 (Exa.wr W20 (Exa.wr W18 (Exa.wr W16 (Exa.ext E12 ((Exa.wr W7 ((Exa.ext E2 Y0).keep K5)).keep K11)))))) (Or.inr ⟨(H 69), rfl, K.nm⟩) (H 3) (by decide) rfl rfl N20 Y6 fun T25 h25 L25 N25 X25 e25 W25 Fw25 => ?_
  have R26 := own_rw R24 W25 (oSx K.wz (Exa.ext E23 (Exa.wr W20 (Exa.wr W18 (Exa.wr W16 (Exa.ext E12 ((Exa.wr W7 ((Exa.ext E2 Y0).keep K5)).keep K11)))))) (by decide))
  refine oC (z := 1) X25 K rfl rfl <| oSI (L' := #[.val (.ref a1), .val (.int p1), .val (.int p2), .val (.int p3), .val (.int 0), .val (.int 1)]) X25 K rfl rfl ?_
  have In0 := own_In.zero (q := q) (t := p2) (sf := p3) (Y13.other W25 (Ne.symm (oNe (Exa.lt Y0) Y12))) O23
  obtain ⟨lo0, glo0⟩ : ∃ z, z = h25.size := ⟨_, rfl⟩
  rw [← glo0] at In0
  have hla1 : @LT.lt Nat _ a1 lo0 := by rw [glo0]; exact Exa.lt (Exa.wr W25 (Exa.ext E23 (Exa.wr W20 (Exa.wr W18 (Exa.wr W16 (Exa.ext E12 ((Exa.wr W7 ((Exa.ext E2 Y0).keep K5)).keep K11)))))))
  have hltm : @LT.lt Nat _ b2 lo0 := by rw [glo0]; exact Exa.lt (Exa.wr W25 (Exa.ext E23 (Exa.wr W20 (Exa.wr W18 (Exa.wr W16 (Exa.ext E12 ((Exa.wr W7 (A2.keep K5)).keep K11)))))))
  have ne_a1_ar : a1 ≠ b23 := (oNe (Exa.lt Y0) Y12)
  have ne_b2_ar : b2 ≠ b23 := (oNe (Exa.lt (Exa.wr W20 (Exa.wr W18 (Exa.wr W16 (Exa.ext E12 ((Exa.wr W7 (A2.keep K5)).keep K11)))))) (Nat.le_of_eq g23.symm))
  have hN8 := (own_nn8 hn8).2
  have J : ∀ (k j : Nat) (hkj : k + j = p1.toNatClampNeg) (Bj : Nat -> Nat × Nat × Nat) (Lj : List Loc) (Tj : State) (hj : Heap) (vj : Vm) (nj : Nat) (K : own_K p c own_L2 Z (s.setVm vj) "convoke/protocol/AllToAll" m meth 6 none "<init>") (hSj : s.Since vj nj) (hkn : nj <= hj.size) (RRj : CHr Z own_EL s.vm h0 vj hj) (Xj : Stand p l e (⟨5, 134, 1465, 76⟩ : Room) (s.setVm vj) m #[(.ref a1), (.int p1), (.int p2), (.int p3), (.int 0)] below meth c Tj Lj (6 + 16 * j) (105 + 170 * j)) (Nj : Fr n0 Lj) (ej : Tj.heap = hj) (Kj : Keep h0 hj [a1]) (In : own_In Z q p1 p2 p3 b23 k23 lo0 hj j Bj) (Fa0 : Exa Z hj a1 "convoke/protocol/AllToAll") (Fa1 : f3 Z hj a1 (.ref b2)) (Fa2 : f6 Z hj a1 (.int p1)) (Fa3 : f7 Z hj a1 (.int p3)) (Fa4 : f8 Z hj a1 (.int (p1 - p2))) (Fa5 : f9 Z hj a1 (.ref b23)) (Ft0 : Exa Z hj b2 "java/util/TreeMap") (Ft1 : f0 Z hj b2 (.int 0)) (Ft2 : f1 Z hj b2 (.int 0)) (Ft3 : f2 Z hj b2 .null) (Ft4 : f47 Z hj b2 .null), own_G p.tables e below (own_PV Z own_EL s (own_i_A2_Q Z a1 p1 p2 p3 u1 u2 u3 u4 u5 q h0 n0) n0 (⟨5, 134, 1465, 76⟩ : Room).cells (⟨5, 134, 1465, 76⟩ : Room).slots) (Tj.setTop (mkF m 55 #[.val (.ref a1), .val (.int p1), .val (.int p2), .val (.int p3), .val (.int 0), .val (.int (Int32.ofNat (j + 1)))] [])) := by
    intro k
    induction k with
    | zero =>
      intro j hkj Bj Lj Tj hj vj nj K hSj hkn RRj Xj Nj ej Kj In Fa0 Fa1 Fa2 Fa3 Fa4 Fa5 Ft0 Ft1 Ft2 Ft3 Ft4
      refine oJ Xj K rfl rfl <| oI Xj K rfl rfl <| oCY Xj K rfl (XT.ii_gt_t (own_ofgt hkj hn8)) ?_
      exact oRvw Xj K rfl ej Nj (by refine ⟨?_, ?_⟩ <;> first | decide | (dsimp only; omega) | omega) hh hEL hSj hkn RRj ⟨b2, b23, k23, lo0, Bj, rfl, ((Keep.refl _ _).trans Kj (allS (oM 0 rfl) all0)), Fa1, Fa2, Fa3, Fa4, Fa5, Ft0, Ft1, Ft2, Ft3, Ft4, Y7, Y12, ((show j = p1.toNatClampNeg by omega) ▸ In), hla1, hltm, ne_a1_ar, ne_b2_ar, Fa0⟩
    | succ k ih =>
      intro j hkj Bj Lj Tj hj vj nj K hSj hkn RRj Xj Nj ej Kj In Fa0 Fa1 Fa2 Fa3 Fa4 Fa5 Ft0 Ft1 Ft2 Ft3 Ft4
      refine oJ Xj K rfl rfl <| oI Xj K rfl rfl <| oCN Xj K rfl (XT.ii_gt_f (own_ofle hkj hn8)) <| oA Xj K rfl rfl rfl ?_
      refine oGf Xj K rfl (H 68) ej Fa5 fun T27 X27 e27 => ?_
      refine oJ X27 K rfl rfl <| oC (z := 1) X27 K rfl rfl <| oSub X27 K rfl rfl ?_
      refine oNew X27 K rfl (H 66) (H 70) (H 37) e27 Kj.1 (by refine ⟨?_, ?_⟩ <;> first | decide | (dsimp only; omega) | omega) fun T28 h28 b28 g28 Y14 X28 e28 E28 A28 D28 => ?_
      have R29 := own_re RRj E28
      refine oDup X28 K rfl rfl <| oI X28 K rfl rfl <| oI X28 K rfl rfl <| oI X28 K rfl rfl <| oJ X28 K rfl rfl <| oJ X28 K rfl rfl ?_
      refine oNw X28 K hSj (Nat.le_trans hkn E28.1) hEL R29 rfl (H 71) (H 72) (H 73) (H 37) (by decide) rfl e28 (own_i_BR hw (Nat.le_trans Z0 (Nat.le_trans Kj.1 E28.1)) A28 (D28 (Or.inr (H 113)) (ty := (.object "convoke/protocol/Seat")) (by decide)) (D28 (Or.inr (H 115)) (ty := (.object "convoke/model/Kinds")) (by decide)) (D28 (Or.inr (H 117)) (ty := (.object "convoke/model/Message$Kind")) (by decide)) (D28 (Or.inr (H 119)) (ty := (.object "convoke/model/Message$Kind")) (by decide)) (D28 (Or.inl (H 348)) (ty := .boolean) (by decide)) (D28 (Or.inl (H 350)) (ty := .boolean) (by decide)) (D28 (Or.inl (H 476)) (ty := (.object "convoke/model/Value")) (by decide)) (D28 (Or.inr (H 121)) (ty := .boolean) (by decide)) (D28 (Or.inr (H 124)) (ty := .int) (by decide)) (D28 (Or.inr (H 126)) (ty := .int) (by decide)) (D28 (Or.inr (H 128)) (ty := .int) (by decide)) (D28 (Or.inr (H 130)) (ty := .int) (by decide)) (D28 (Or.inl (H 149)) (ty := (.object "convoke/protocol/Votes")) (by decide)) (D28 (Or.inl (H 151)) (ty := (.object "convoke/protocol/Votes")) (by decide)) (D28 (Or.inl (H 153)) (ty := (.object "convoke/protocol/Votes")) (by decide)) (D28 (Or.inl (H 403)) (ty := .boolean) (by decide)) (D28 (Or.inl (H 737)) (ty := .int) (by decide)) (Nat.le_trans Z0 Y14) ht0 h3t hv1 hv2 (own_of1 hkj hn8) (own_ofle hkj hn8) hn8 hq (Old.ext (Old.keep hOld Kj (allS Y6 all0)) E28)) rfl rfl (lenOf own_pd55 rfl) rfl Nj 3 rfl (by refine ⟨?_, ?_⟩ <;> first | decide | (dsimp only; omega) | omega) fun v40 T40 h40 L40 N40 q40 e40 X40 hS40 K R40 => ?_
      obtain ⟨sd30, ec31, rd32, va33, ca34, co35, kva36, kca37, kco38, rfl, K40, Y15, Y16, Y17, Y18, Y19, Y20, Y21, Y22, Y23, Y24, Y25, Y26, Y27, Y28, Y29, Y30, Y31, Y32, Y33, Y34, Y35, Y36, Y37, Y38, Y39, Y40, Y41, Y42, Y43, Y44, Y45, Y46, Y47, Y48⟩ := q40
      obtain ⟨ac41, Ar41, qa41, Sa41, Ha41⟩ := In.at E28 K40 g28
      have Bn41 : own_Br Z q p1 p2 p3 h40 b28 h40.size b28 own_s0 := ⟨sd30, ec31, rd32, va33, ca34, co35, kva36, kca37, kco38, (Int32.ofNat (j + 1)), _, ⟨⟨Nat.le_refl _, Exa.lt Y15⟩, ⟨Nat.le_of_lt (Nat.lt_of_lt_of_le (Exa.lt A28) Y43), (Exa.lt Y29)⟩, ⟨Nat.le_of_lt (Nat.lt_of_lt_of_le (Exa.lt A28) Y45), (Exa.lt Y33)⟩, ⟨Nat.le_of_lt (Nat.lt_of_lt_of_le (Exa.lt A28) Y46), (Y39).lt⟩, ⟨Nat.le_of_lt (Nat.lt_of_lt_of_le (Exa.lt A28) Y47), (Y41).lt⟩, ⟨Nat.le_of_lt (Nat.lt_of_lt_of_le (Exa.lt A28) Y48), (Y42).lt⟩⟩, ⟨Y15, Y16, Y17, Y18, Y19, Y20, Y21, Y22, Y23, Y24, Y25, Y26, Y27, Y28⟩, ⟨Y29, Y30, Y31, Y32, own_of1 hkj hn8⟩, ⟨Y33, Y34, Y35, Y36, Y37, Y38⟩, ⟨Y39, Y40, Y41, Y42⟩⟩
      have hz41 : (((Int32.ofNat (j + 1)) - (1 : Int32))).toNatClampNeg = j := by rw [own_ofm]; exact own_ofn hkj hn8
      obtain ⟨T42, h42, X42, e42, W42, st42⟩ := stR X40 K.1 K.wz e40 Ar41 (j := ((Int32.ofNat (j + 1)) - (1 : Int32))) (by rw [own_ofm]; exact own_ofin hkj hn8 Sa41) rfl (Sto.ofV Ar41 qa41 In.ov (Ins.self Y15)) (g := (mkF m 83 #[.val (.ref a1), .val (.int p1), .val (.int p2), .val (.int p3), .val (.int 0), .val (.int (Int32.ofNat (j + 1)))] [(.ref b28), (.int ((Int32.ofNat (j + 1)) - (1 : Int32))), (.ref b23)])) rfl rfl (K.d rfl)
      refine own_fs (st42 _ (Steps.refl _)) ?_
      have In42 := own_In.push In E28 K40 g28 Ar41 qa41 Sa41 Ha41 (z := ((Int32.ofNat (j + 1)) - (1 : Int32))) hz41 W42 Bn41
      have R43 := own_rw R40 W42 (Safe.arr K.wz.alike Ar41 (by decide))
      have N42 := Fr.snoc X42 N40 (Nat.le_trans Z0 Y12)
      show own_G _ _ _ _ (T42.setTop (mkF m 84 #[.val (.ref a1), .val (.int p1), .val (.int p2), .val (.int p3), .val (.int 0), .val (.int (Int32.ofNat (j + 1)))] []))
      refine oInc (z := ((Int32.ofNat (j + 1)) + (1 : Int32))) (L' := #[.val (.ref a1), .val (.int p1), .val (.int p2), .val (.int p3), .val (.int 0), .val (.int ((Int32.ofNat (j + 1)) + (1 : Int32)))]) X42 K rfl rfl rfl rfl <| oGo X42 K rfl ?_
      show own_G _ _ _ _ (T42.setTop (mkF m 55 #[.val (.ref a1), .val (.int p1), .val (.int p2), .val (.int p3), .val (.int 0), .val (.int ((Int32.ofNat (j + 1)) + (1 : Int32)))] []))
      rw [own_ofS]
      exact ih (j + 1) (by omega) _ _ _ _ _ _ K hS40 (Nat.le_trans (Nat.le_refl _) (Keep.of_wr W42).1) R43 (X42.more (by (try dsimp only); omega) (by (try dsimp only); omega)) N42 e42 (((((Keep.refl _ _).trans Kj (allS (oM 0 rfl) all0)).ext E28).trans K40 (allS (Or.inr Y14) all0)).wr W42 (Or.inr Y12)) In42 (Exa.wr W42 ((Exa.ext E28 Fa0).keep K40)) (oFn W42 ((Fld.ext E28 Fa1).keep K40 (ninS (oNe (Exa.lt Y0) Y14) nin0)) ne_a1_ar) (oFn W42 ((Fld.ext E28 Fa2).keep K40 (ninS (oNe (Exa.lt Y0) Y14) nin0)) ne_a1_ar) (oFn W42 ((Fld.ext E28 Fa3).keep K40 (ninS (oNe (Exa.lt Y0) Y14) nin0)) ne_a1_ar) (oFn W42 ((Fld.ext E28 Fa4).keep K40 (ninS (oNe (Exa.lt Y0) Y14) nin0)) ne_a1_ar) (oFn W42 ((Fld.ext E28 Fa5).keep K40 (ninS (oNe (Exa.lt Y0) Y14) nin0)) ne_a1_ar) (Exa.wr W42 ((Exa.ext E28 Ft0).keep K40)) (oFn W42 ((Fld.ext E28 Ft1).keep K40 (ninS (oNe (Exa.lt Ft0) (Nat.le_of_eq g28.symm)) nin0)) ne_b2_ar) (oFn W42 ((Fld.ext E28 Ft2).keep K40 (ninS (oNe (Exa.lt Ft0) (Nat.le_of_eq g28.symm)) nin0)) ne_b2_ar) (oFn W42 ((Fld.ext E28 Ft3).keep K40 (ninS (oNe (Exa.lt Ft0) (Nat.le_of_eq g28.symm)) nin0)) ne_b2_ar) (oFn W42 ((Fld.ext E28 Ft4).keep K40 (ninS (oNe (Exa.lt Ft0) (Nat.le_of_eq g28.symm)) nin0)) ne_b2_ar)
  exact J _ 0 (Nat.add_zero _) _ _ _ _ _ _ K hS12 (Nat.le_trans (Nat.le_trans (Nat.le_trans (Nat.le_trans (Nat.le_trans hk12 (Keep.of_wr W16).1) (Keep.of_wr W18).1) (Keep.of_wr W20).1) E23.1) (Keep.of_wr W25).1) R26 X25 N25 e25 (((((((((((Keep.refl _ _).ext E2).trans K5 (allS (Or.inr Y7) all0)).wr W7 (oM 0 rfl)).trans K11 all0).ext E12).wr W16 (oM 0 rfl)).wr W18 (oM 0 rfl)).wr W20 (oM 0 rfl)).ext E23).wr W25 (oM 0 rfl)) In0 (Exa.wr W25 (Exa.ext E23 (Exa.wr W20 (Exa.wr W18 (Exa.wr W16 (Exa.ext E12 ((Exa.wr W7 ((Exa.ext E2 Y0).keep K5)).keep K11))))))) (oFo W25 (Fld.ext E23 (oFo W20 (oFo W18 (oFo W16 (Fld.ext E12 (Fw7.keep K11 nin0)) (Or.inr (H 34)) (Or.inr (H 61)) (by decide)) (Or.inr (H 34)) (Or.inr (H 63)) (by decide)) (Or.inr (H 34)) (Or.inr (H 65)) (by decide))) (Or.inr (H 34)) (Or.inr (H 69)) (by decide)) (oFo W25 (Fld.ext E23 (oFo W20 (oFo W18 Fw16 (Or.inr (H 61)) (Or.inr (H 63)) (by decide)) (Or.inr (H 61)) (Or.inr (H 65)) (by decide))) (Or.inr (H 61)) (Or.inr (H 69)) (by decide)) (oFo W25 (Fld.ext E23 (oFo W20 Fw18 (Or.inr (H 63)) (Or.inr (H 65)) (by decide))) (Or.inr (H 63)) (Or.inr (H 69)) (by decide)) (oFo W25 (Fld.ext E23 Fw20) (Or.inr (H 65)) (Or.inr (H 69)) (by decide)) Fw25 (Exa.wr W25 (Exa.ext E23 (Exa.wr W20 (Exa.wr W18 (Exa.wr W16 (Exa.ext E12 ((Exa.wr W7 (A2.keep K5)).keep K11))))))) (oFn W25 (Fld.ext E23 (oFn W20 (oFn W18 (oFn W16 (Fld.ext E12 ((oFn W7 Y8 (Ne.symm (oNe (Exa.lt Y0) Y7))).keep K11 nin0)) (Ne.symm (oNe (Exa.lt Y0) Y7))) (Ne.symm (oNe (Exa.lt Y0) Y7))) (Ne.symm (oNe (Exa.lt Y0) Y7)))) (Ne.symm (oNe (Exa.lt Y0) Y7))) (oFn W25 (Fld.ext E23 (oFn W20 (oFn W18 (oFn W16 (Fld.ext E12 ((oFn W7 Y9 (Ne.symm (oNe (Exa.lt Y0) Y7))).keep K11 nin0)) (Ne.symm (oNe (Exa.lt Y0) Y7))) (Ne.symm (oNe (Exa.lt Y0) Y7))) (Ne.symm (oNe (Exa.lt Y0) Y7)))) (Ne.symm (oNe (Exa.lt Y0) Y7))) (oFn W25 (Fld.ext E23 (oFn W20 (oFn W18 (oFn W16 (Fld.ext E12 ((oFn W7 Y10 (Ne.symm (oNe (Exa.lt Y0) Y7))).keep K11 nin0)) (Ne.symm (oNe (Exa.lt Y0) Y7))) (Ne.symm (oNe (Exa.lt Y0) Y7))) (Ne.symm (oNe (Exa.lt Y0) Y7)))) (Ne.symm (oNe (Exa.lt Y0) Y7))) (oFn W25 (Fld.ext E23 (oFn W20 (oFn W18 (oFn W16 (Fld.ext E12 ((oFn W7 Y11 (Ne.symm (oNe (Exa.lt Y0) Y7))).keep K11 nin0)) (Ne.symm (oNe (Exa.lt Y0) Y7))) (Ne.symm (oNe (Exa.lt Y0) Y7))) (Ne.symm (oNe (Exa.lt Y0) Y7)))) (Ne.symm (oNe (Exa.lt Y0) Y7)))
theorem own_i_A3 (hw : own_HW a0 Z) {a1 : Addr} {p1 p2 p3 : Int32} {u1 : Value} {u2 u3 u4 : Int32} {u5 : Value} {q : own_P0} (Z0 : n0 <= h0.size) (Y0 : Exa Z h0 a1 "convoke/protocol/AllToAll") (Y1 : f3 Z h0 a1 u1) (Y2 : f6 Z h0 a1 (.int u2)) (Y3 : f7 Z h0 a1 (.int u3)) (Y4 : f8 Z h0 a1 (.int u4)) (Y5 : f9 Z h0 a1 u5) (Y6 : n0 <= a1) (ht0 : ¬ (p2 < (0 : Int32))) (h3t : ((3 : Int64) * (p2.toInt64)) < (p1.toInt64)) (hv1 : ¬ (p3 < (1 : Int32))) (hv2 : ¬ (p1 < p3)) (hn8 : 1 <= p1.toInt /\ p1.toInt <= 8) (hq : own_Env Z q) (hOld : Old Z n0 h0) : own_MW own_EL l ⟨"convoke/protocol/AllToAll", "<init>", "(III)V"⟩ prog_58_method_1_code 4 none ⟨6, 134, 1465, 93⟩ ws Z h0 n0 #[(.ref a1), (.int p1), (.int p2), (.int p3)] (fun v h => ∃ tm : Addr, ∃ arr : Addr, ∃ ka : ClassId, ∃ lo0 : Nat, ∃ B : Nat -> Nat × Nat × Nat, (v = none /\ Keep h0 h [a1] /\ (f3 Z h a1 (.ref tm)) /\ (f6 Z h a1 (.int p1)) /\ (f7 Z h a1 (.int p3)) /\ (f8 Z h a1 (.int (p1 - p2))) /\ (f9 Z h a1 (.ref arr)) /\ (Exa Z h tm "java/util/TreeMap") /\ (f0 Z h tm (.int 0)) /\ (f1 Z h tm (.int 0)) /\ (f2 Z h tm .null) /\ (f47 Z h tm .null) /\ (h0.size <= tm) /\ (h0.size <= arr) /\ (own_In Z q p1 p2 p3 arr ka lo0 h p1.toNatClampNeg B) /\ (@LT.lt Nat _ a1 lo0) /\ (@LT.lt Nat _ tm lo0) /\ (@Ne Nat a1 arr) /\ (@Ne Nat tm arr) /\ (Exa Z h a1 "convoke/protocol/AllToAll"))) := by
  refine own_begW (plainFor_of_name own_pn26) own_t1 #[.val (.ref a1), .val (.int p1), .val (.int p2), .val (.int p3)] (own_e4_4 · ⟨rfl, rfl, rfl, rfl⟩) fun p e s m below meth c sa K X0 e0 hh hS0 R0 => ?_
  have N0 := Fr.nil n0
  have H := oh hw
  have hEL := own_ew hw
  refine oA X0 K rfl rfl rfl <| oI X0 K rfl rfl <| oI X0 K rfl rfl <| oI X0 K rfl rfl <| oC (z := 0) X0 K rfl rfl ?_
  refine oNw X0 K hS0 (Nat.zero_le _) hEL R0 rfl (H 8) (H 9) (H 10) (H 4) (by decide) rfl e0 (own_i_A2 hw Z0 Y0 Y1 Y2 Y3 Y4 Y5 Y6 ht0 h3t hv1 hv2 hn8 hq hOld) rfl rfl (lenOf own_pd56 rfl) rfl N0 0 rfl (by decide) fun v2 T2 h2 L2 N2 q2 e2 X2 hS2 K R2 => ?_
  obtain ⟨tm_, arr_, ka_, lo0_, B_, rfl, K2, Y7, Y8, Y9, Y10, Y11, Y12, Y13, Y14, Y15, Y16, Y17, Y18, Y19, Y20, Y21, Y22, Y23, Y24⟩ := q2
  exact oRvw X2 K rfl e2 N2 (by decide) hh hEL hS2 (Nat.le_refl _) R2 ⟨tm_, arr_, ka_, lo0_, B_, rfl, ((Keep.refl _ _).trans K2 (allS (oM 0 rfl) all0)), Y7, Y8, Y9, Y10, Y11, Y12, Y13, Y14, Y15, Y16, Y17, Y18, Y19, Y20, Y21, Y22, Y23, Y24⟩
def own_Wn (c : Prop) [Decidable c] (W : Nat -> Option (Option own_S)) (i : Nat) : Nat -> Option (Option own_S) := if c then own_no else own_up W i none
theorem own_Wy {c : Prop} [Decidable c] {W : Nat -> Option (Option own_S)} {i : Nat} (q : c) : own_Wn c W i = own_no := if_pos q
theorem own_Wx {c : Prop} [Decidable c] {W : Nat -> Option (Option own_S)} {i : Nat} (q : ¬ c) : own_Wn c W i = own_up W i none := if_neg q
theorem own_some {W : Nat -> Option (Option own_S)} {i : Nat} {s : Option own_S} (e : W i = some s) : (W i).isSome = true := by rw [e]; rfl
theorem own_rcvN (hw : own_HW a0 Z) {a1 arr m1 tm v1 : Addr} {nn sf p1 p4 nd : Int32} {ka : ClassId} {lo0 hi0 : Nat} {B : Nat -> Nat × Nat × Nat} {W : Nat -> Option (Option own_S)} {tt : Int32} {q : own_P0} (Z0 : n0 <= h0.size) (Y0 : Exa Z h0 a1 "convoke/protocol/AllToAll") (Y1 : f3 Z h0 a1 (.ref tm)) (Y2 : f6 Z h0 a1 (.int nn)) (Y3 : f7 Z h0 a1 (.int sf)) (Y4 : f8 Z h0 a1 (.int nd)) (Y5 : f9 Z h0 a1 (.ref arr)) (hS : own_Sy Z q nn tt sf arr ka lo0 hi0 B h0 W) (hla1 : @LT.lt Nat _ a1 lo0) (hna1 : @Ne Nat a1 arr) (hltm : @LT.lt Nat _ tm lo0) (hnt : @Ne Nat tm arr) (Y6 : n0 <= arr) (Y7 : n0 <= lo0) (Y8 : Exa Z h0 m1 "convoke/model/Message") (Y9 : f31 Z h0 m1 (.int p1)) (Y10 : f32 Z h0 m1 (.int sf)) (Y11 : f33 Z h0 m1 (.int p4)) (Y12 : f34 Z h0 m1 (.ref q.fKR)) (Y13 : f35 Z h0 m1 (.ref v1)) (Y14 : Exa Z h0 v1 "convoke/model/Value") (hp1 : ¬ (p1 < (1 : Int32))) (hp2 : ¬ (nn < p1)) (hn8 : 1 <= nn.toInt /\ nn.toInt <= 8) (hi1 : ¬ (p4 < (1 : Int32))) (hi2 : ¬ (nn < p4)) (hsf : ¬ (sf < (1 : Int32))) (Y15 : Exa Z h0 tm "java/util/TreeMap") (hW0 : ¬ (W (own_ix p4)).isSome = true) (hq : own_Env Z q) (hOld : Old Z n0 h0) : own_MW own_EL l ⟨"convoke/protocol/AllToAll", "receive", "(Lconvoke/model/Message;)Ljava/util/List;"⟩ prog_58_method_5_code 6 (some (.object "java/util/List")) ⟨2, 4, 128, 28⟩ ws Z h0 n0 #[(.ref a1), (.ref m1)] (fun v h => ∃ ar : Addr, (v = some (.ref ar) /\ Keep h0 h [] /\ (own_Sy Z q nn tt sf arr ka lo0 hi0 B h W))) := by
  refine own_begW (plainFor_of_name own_pn26) own_t36 #[.val (.ref a1), .val (.ref m1), .unset, .unset, .unset, .unset] (own_e2_6 · ⟨rfl, rfl⟩) fun p e s m below meth c sa K X0 e0 hh hS0 R0 => ?_
  have N0 := Fr.nil n0
  have H := oh hw
  have hEL := own_ew hw
  refine oA X0 K rfl rfl rfl <| oA X0 K rfl rfl rfl ?_
  refine oGf X0 K rfl (H 62) e0 Y3 fun T1 X1 e1 => ?_
  refine oA X1 K rfl rfl rfl ?_
  refine oGf X1 K rfl (H 60) e1 Y2 fun T2 X2 e2 => ?_
  refine oTw X2 K hS0 (Nat.zero_le _) hEL R0 rfl (H 298) (H 299) (H 300) (H 80) (by decide) e2 (own_ckA hw Z0 Y8 Y10 Y9 hp1 hp2) rfl (lenOf own_pd57 rfl) rfl N0 0 rfl (by decide) fun v4 T4 h4 L4 N4 q4 e4 X4 hS4 K R4 => ?_
  obtain ⟨rfl, K4⟩ := q4
  refine oLd (n := 64) X4 K rfl (H 312) (own_wS hw) e4 hS4 (Nat.le_refl _) hEL R4 (by decide) fun la5 T5 h5 k5 X5 e5 E5 hS5 hk5 K R5 => ?_
  refine oA X5 K rfl rfl rfl ?_
  refine oVc X5 K rfl (H 313) (H 314) (notFace_of_selects (args := #[]) (mvT K.wz (H 316))) (H 316) (H 315) (H 317) (H 257) (by decide) e5 (Exa.ext E5 (Y8.keep K4)) (own_m_instance hw (Nat.le_trans Z0 (Nat.le_trans K4.1 E5.1)) (Fld.ext E5 (Y11.keep K4 nin0))) rfl rfl (lenOf own_pd11 rfl) rfl N4 1 rfl (by decide) fun v7 T7 h7 L7 N7 q7 e7 X7 => ?_
  obtain ⟨rfl, y7⟩ := q7
  refine oA X7 K rfl rfl rfl ?_
  refine oGf X7 K rfl (H 60) (e7.trans y7) (Fld.ext E5 (Y2.keep K4 nin0)) fun T8 X8 e8 => ?_
  refine oTc X8 K rfl (H 56) (H 57) (H 59) (H 58) (by decide) e8 (own_ckP hw (Nat.le_trans Z0 (Nat.le_trans K4.1 E5.1)) hi1 hi2) rfl (lenOf own_pd2 rfl) rfl N7 0 rfl (by decide) fun v10 T10 h10 L10 N10 q10 e10 X10 => ?_
  obtain ⟨rfl, y10⟩ := q10
  refine oA X10 K rfl rfl rfl ?_
  refine oVc X10 K rfl (H 318) (H 319) (notFace_of_selects (args := #[]) (mvT K.wz (H 321))) (H 321) (H 320) (H 322) (H 257) (by decide) (e10.trans y10) (Exa.ext E5 (Y8.keep K4)) (own_m_kind hw (Nat.le_trans Z0 (Nat.le_trans K4.1 E5.1)) (Fld.ext E5 (Y12.keep K4 nin0))) rfl rfl (lenOf own_pd38 rfl) rfl N10 0 rfl (by decide) fun v12 T12 h12 L12 N12 q12 e12 X12 => ?_
  obtain ⟨rfl, y12⟩ := q12
  refine oTc X12 K rfl (H 323) (H 324) (H 325) (H 100) (by decide) (e12.trans y12) (own_kof hw (Nat.le_trans Z0 (Nat.le_trans K4.1 E5.1)) hq (Old.ext (Old.keep hOld K4 all0) E5)) rfl (lenOf own_pd58 rfl) rfl N12 0 rfl (by decide) fun v14 T14 h14 L14 N14 q14 e14 X14 => ?_
  obtain ⟨rfl, y14⟩ := q14
  refine oPop X14 K rfl rfl <| oA X14 K rfl rfl rfl ?_
  refine oVc X14 K rfl (H 313) (H 314) (notFace_of_selects (args := #[]) (mvT K.wz (H 316))) (H 316) (H 315) (H 317) (H 257) (by decide) (e14.trans y14) (Exa.ext E5 (Y8.keep K4)) (own_m_instance hw (Nat.le_trans Z0 (Nat.le_trans K4.1 E5.1)) (Fld.ext E5 (Y11.keep K4 nin0))) rfl rfl (lenOf own_pd11 rfl) rfl N14 0 rfl (by decide) fun v16 T16 h16 L16 N16 q16 e16 X16 => ?_
  obtain ⟨rfl, y16⟩ := q16
  refine oC (z := 1) X16 K rfl rfl <| oSub X16 K rfl rfl <| oSIn (L' := #[.val (.ref a1), .val (.ref m1), .val (.int (p4 - (1 : Int32))), .unset, .unset, .unset]) X16 K rfl rfl <| oA X16 K rfl rfl rfl ?_
  refine oGf X16 K rfl (H 68) (e16.trans y16) (Fld.ext E5 (Y5.keep K4 nin0)) fun T17 X17 e17 => ?_
  refine oI X17 K rfl rfl ?_
  have S45 := (own_Sy.ext (own_Sy.keep hS K4 all0) E5)
  have hil : own_ix p4 < nn.toNatClampNeg := own_ixlt hi1 hi2 hn8
  obtain ⟨ac18, Ar18, qa18, Sa18, Ha18⟩ := S45.ar
  have hat := Ha18 (own_ix p4) hil
  have hinj := own_ixin (m := ac18.slots.size) hi1 (by rw [Sa18]; exact hil)
  rw [if_neg hW0] at hat
  refine oAL (v := .null) X17 K rfl e17 Ar18 rfl hinj hat <| oSAn (L' := #[.val (.ref a1), .val (.ref m1), .val (.int (p4 - (1 : Int32))), .val .null, .unset, .unset]) X17 K rfl rfl rfl <| oA X17 K rfl rfl rfl <| oMN X17 K rfl ?_
  refine oTc X17 K rfl (H 686) (H 397) (H 399) (H 398) (by decide) e17 (own_lof hw (Nat.le_trans Z0 (Nat.le_trans K4.1 E5.1)) hq (Old.ext (Old.keep hOld K4 all0) E5)) rfl (lenOf own_pd33 rfl) rfl N16 0 rfl (by decide) fun v20 T20 h20 L20 N20 q20 e20 X20 => ?_
  obtain ⟨rfl, y20⟩ := q20
  exact oRaw X20 K rfl rfl rfl (e20.trans y20) N20 (by decide) hh hEL hS5 hk5 R5 ⟨q.fEL, rfl, (((Keep.refl _ _).trans K4 all0).ext E5), S45⟩
theorem own_rcvC (hw : own_HW a0 Z) {a1 arr m1 tm v1 : Addr} {nn sf p1 p4 nd : Int32} {ka : ClassId} {lo0 hi0 : Nat} {B : Nat -> Nat × Nat × Nat} {W : Nat -> Option (Option own_S)} {tt : Int32} {hs : List (Int32 × Value)} {q : own_P0} (Z0 : n0 <= h0.size) (Y0 : Exa Z h0 a1 "convoke/protocol/AllToAll") (Y1 : f3 Z h0 a1 (.ref tm)) (Y2 : f6 Z h0 a1 (.int nn)) (Y3 : f7 Z h0 a1 (.int sf)) (Y4 : f8 Z h0 a1 (.int nd)) (Y5 : f9 Z h0 a1 (.ref arr)) (hS : own_Sy Z q nn tt sf arr ka lo0 hi0 B h0 W) (hla1 : @LT.lt Nat _ a1 lo0) (hna1 : @Ne Nat a1 arr) (hltm : @LT.lt Nat _ tm lo0) (hnt : @Ne Nat tm arr) (Y6 : n0 <= arr) (Y7 : n0 <= lo0) (Y8 : Exa Z h0 m1 "convoke/model/Message") (Y9 : f31 Z h0 m1 (.int p1)) (Y10 : f32 Z h0 m1 (.int sf)) (Y11 : f33 Z h0 m1 (.int p4)) (Y12 : f34 Z h0 m1 (.ref q.fKR)) (Y13 : f35 Z h0 m1 (.ref v1)) (Y14 : Exa Z h0 v1 "convoke/model/Value") (hp1 : ¬ (p1 < (1 : Int32))) (hp2 : ¬ (nn < p1)) (hn8 : 1 <= nn.toInt /\ nn.toInt <= 8) (hi1 : ¬ (p4 < (1 : Int32))) (hi2 : ¬ (nn < p4)) (hsf : ¬ (sf < (1 : Int32))) (Y15 : Exa Z h0 tm "java/util/TreeMap") (hW0 : W (own_ix p4) = some (some ⟨hs, (1 : Int32), .ref v1, (1 : Int32)⟩)) (hg : getH hs [] (.int 0) p1.toNatClampNeg = .int 1) (hq : own_Env Z q) (hOld : Old Z n0 h0) : own_MW own_EL l ⟨"convoke/protocol/AllToAll", "receive", "(Lconvoke/model/Message;)Ljava/util/List;"⟩ prog_58_method_5_code 6 (some (.object "java/util/List")) ⟨5, 4, 128, 73⟩ ws Z h0 n0 #[(.ref a1), (.ref m1)] (fun v h => ∃ ar : Addr, (v = some (.ref ar) /\ Keep h0 h [] /\ (own_Sy Z q nn tt sf arr ka lo0 hi0 B h W))) := by
  refine own_begW (plainFor_of_name own_pn26) own_t36 #[.val (.ref a1), .val (.ref m1), .unset, .unset, .unset, .unset] (own_e2_6 · ⟨rfl, rfl⟩) fun p e s m below meth c sa K X0 e0 hh hS0 R0 => ?_
  have N0 := Fr.nil n0
  have H := oh hw
  have hEL := own_ew hw
  refine oA X0 K rfl rfl rfl <| oA X0 K rfl rfl rfl ?_
  refine oGf X0 K rfl (H 62) e0 Y3 fun T1 X1 e1 => ?_
  refine oA X1 K rfl rfl rfl ?_
  refine oGf X1 K rfl (H 60) e1 Y2 fun T2 X2 e2 => ?_
  refine oTw X2 K hS0 (Nat.zero_le _) hEL R0 rfl (H 298) (H 299) (H 300) (H 80) (by decide) e2 (own_ckA hw Z0 Y8 Y10 Y9 hp1 hp2) rfl (lenOf own_pd57 rfl) rfl N0 0 rfl (by decide) fun v4 T4 h4 L4 N4 q4 e4 X4 hS4 K R4 => ?_
  obtain ⟨rfl, K4⟩ := q4
  refine oLd (n := 64) X4 K rfl (H 312) (own_wS hw) e4 hS4 (Nat.le_refl _) hEL R4 (by decide) fun la5 T5 h5 k5 X5 e5 E5 hS5 hk5 K R5 => ?_
  refine oA X5 K rfl rfl rfl ?_
  refine oVc X5 K rfl (H 313) (H 314) (notFace_of_selects (args := #[]) (mvT K.wz (H 316))) (H 316) (H 315) (H 317) (H 257) (by decide) e5 (Exa.ext E5 (Y8.keep K4)) (own_m_instance hw (Nat.le_trans Z0 (Nat.le_trans K4.1 E5.1)) (Fld.ext E5 (Y11.keep K4 nin0))) rfl rfl (lenOf own_pd11 rfl) rfl N4 1 rfl (by decide) fun v7 T7 h7 L7 N7 q7 e7 X7 => ?_
  obtain ⟨rfl, y7⟩ := q7
  refine oA X7 K rfl rfl rfl ?_
  refine oGf X7 K rfl (H 60) (e7.trans y7) (Fld.ext E5 (Y2.keep K4 nin0)) fun T8 X8 e8 => ?_
  refine oTc X8 K rfl (H 56) (H 57) (H 59) (H 58) (by decide) e8 (own_ckP hw (Nat.le_trans Z0 (Nat.le_trans K4.1 E5.1)) hi1 hi2) rfl (lenOf own_pd2 rfl) rfl N7 0 rfl (by decide) fun v10 T10 h10 L10 N10 q10 e10 X10 => ?_
  obtain ⟨rfl, y10⟩ := q10
  refine oA X10 K rfl rfl rfl ?_
  refine oVc X10 K rfl (H 318) (H 319) (notFace_of_selects (args := #[]) (mvT K.wz (H 321))) (H 321) (H 320) (H 322) (H 257) (by decide) (e10.trans y10) (Exa.ext E5 (Y8.keep K4)) (own_m_kind hw (Nat.le_trans Z0 (Nat.le_trans K4.1 E5.1)) (Fld.ext E5 (Y12.keep K4 nin0))) rfl rfl (lenOf own_pd38 rfl) rfl N10 0 rfl (by decide) fun v12 T12 h12 L12 N12 q12 e12 X12 => ?_
  obtain ⟨rfl, y12⟩ := q12
  refine oTc X12 K rfl (H 323) (H 324) (H 325) (H 100) (by decide) (e12.trans y12) (own_kof hw (Nat.le_trans Z0 (Nat.le_trans K4.1 E5.1)) hq (Old.ext (Old.keep hOld K4 all0) E5)) rfl (lenOf own_pd58 rfl) rfl N12 0 rfl (by decide) fun v14 T14 h14 L14 N14 q14 e14 X14 => ?_
  obtain ⟨rfl, y14⟩ := q14
  refine oPop X14 K rfl rfl <| oA X14 K rfl rfl rfl ?_
  refine oVc X14 K rfl (H 313) (H 314) (notFace_of_selects (args := #[]) (mvT K.wz (H 316))) (H 316) (H 315) (H 317) (H 257) (by decide) (e14.trans y14) (Exa.ext E5 (Y8.keep K4)) (own_m_instance hw (Nat.le_trans Z0 (Nat.le_trans K4.1 E5.1)) (Fld.ext E5 (Y11.keep K4 nin0))) rfl rfl (lenOf own_pd11 rfl) rfl N14 0 rfl (by decide) fun v16 T16 h16 L16 N16 q16 e16 X16 => ?_
  obtain ⟨rfl, y16⟩ := q16
  refine oC (z := 1) X16 K rfl rfl <| oSub X16 K rfl rfl <| oSIn (L' := #[.val (.ref a1), .val (.ref m1), .val (.int (p4 - (1 : Int32))), .unset, .unset, .unset]) X16 K rfl rfl <| oA X16 K rfl rfl rfl ?_
  refine oGf X16 K rfl (H 68) (e16.trans y16) (Fld.ext E5 (Y5.keep K4 nin0)) fun T17 X17 e17 => ?_
  refine oI X17 K rfl rfl ?_
  have S45 := (own_Sy.ext (own_Sy.keep hS K4 all0) E5)
  have hil : own_ix p4 < nn.toNatClampNeg := own_ixlt hi1 hi2 hn8
  obtain ⟨ac18, Ar18, qa18, Sa18, Ha18⟩ := S45.ar
  have hat := Ha18 (own_ix p4) hil
  have hinj := own_ixin (m := ac18.slots.size) hi1 (by rw [Sa18]; exact hil)
  rw [if_pos (own_some hW0)] at hat
  obtain ⟨bb, lob, hib, hBb, Brb, ⟨rb1, rb2⟩⟩ := S45.get hil hW0
  rw [hBb] at hat
  change _ = some (Value.ref bb) at hat
  obtain ⟨sd, ec, rd, va, ca, co, kva, kca, kco, ixb, vt, ⟨r1, r2, r3, r4, r5, r6⟩, ⟨z0, z1, z2, z3, z4, z5, z6, z7, z8, z9, z10, z11, z12, z13⟩, ⟨s0, s1, s2, s3, s4⟩, ⟨u0, u1, u2, u3, u4, u5⟩, ⟨t1, t2, t3, t4⟩⟩ := Brb
  have Y16 : n0 <= bb := Nat.le_trans Y7 (Nat.le_trans rb1 r1.1)
  have Y17 : n0 <= rd := Nat.le_trans Y7 (Nat.le_trans rb1 r3.1)
  have Y18 : n0 <= va := Nat.le_trans Y7 (Nat.le_trans rb1 r4.1)
  have Y19 : n0 <= ca := Nat.le_trans Y7 (Nat.le_trans rb1 r5.1)
  have Y20 : n0 <= co := Nat.le_trans Y7 (Nat.le_trans rb1 r6.1)
  have y20 : f40 Z h5 rd (.int 1) := u4
  have y21 : Arv Z h5 va kva (.object "convoke/model/Value") (1 : Int32) [(.ref v1)] .null := t1
  have y22 : Arv Z h5 ca kca .int 1 [.int 1] (.int 0) := t3
  have y23 : Arh Z h5 co kco .boolean (nn + (1 : Int32)) hs [] (.int 0) := t4
  refine oAL (v := (.ref bb)) X17 K rfl e17 Ar18 rfl hinj hat <| oSAn (L' := #[.val (.ref a1), .val (.ref m1), .val (.int (p4 - (1 : Int32))), .val (.ref bb), .unset, .unset]) X17 K rfl rfl rfl <| oA X17 K rfl rfl rfl <| oMY X17 K rfl <| oA X17 K rfl rfl rfl <| oA X17 K rfl rfl rfl ?_
  refine oUc X17 K rfl (H 337) (H 338) (H 339) (H 341) (H 340) (H 342) (H 109) (by decide) e17 z0 (own_hanC hw (Nat.le_trans Z0 (Nat.le_trans K4.1 E5.1)) (tt := tt) z0 z1 z2 z3 z4 z5 z6 z7 z8 z9 z10 z11 z12 z13 Y16 s0 s1 s2 s3 u0 u1 u2 u3 y20 u5 y21 t2 y22 y23 Y17 Y18 Y19 Y20 hp1 hp2 hn8 hsf s4 (Exa.ext E5 (Y14.keep K4)) hg hq (Old.ext (Old.keep hOld K4 all0) E5) (Exa.ext E5 (Y8.keep K4)) (Fld.ext E5 (Y12.keep K4 nin0)) (Fld.ext E5 (Y9.keep K4 nin0)) (Fld.ext E5 (Y13.keep K4 nin0))) rfl rfl (lenOf own_pd59 rfl) rfl N16 0 rfl (by decide) fun v20 T20 h20 L20 N20 q20 e20 X20 => ?_
  obtain ⟨rfl, y20⟩ := q20
  refine oSA (L' := #[.val (.ref a1), .val (.ref m1), .val (.int (p4 - (1 : Int32))), .val (.ref bb), .val (.ref q.fEL), .unset]) X20 K rfl rfl rfl <| oA X20 K rfl rfl rfl ?_
  refine oVc X20 K rfl (H 526) (H 527) (notFace_of_selects (args := #[]) (mvT K.wz (H 529))) (H 529) (H 528) (H 530) (H 37) (by decide) (e20.trans y20) z0 (own_btrma0 hw (Nat.le_trans Z0 (Nat.le_trans K4.1 E5.1)) z0 z3) rfl rfl (lenOf own_pd9 rfl) rfl N20 0 rfl (by decide) fun v22 T22 h22 L22 N22 q22 e22 X22 => ?_
  obtain ⟨rfl, y22⟩ := q22
  refine oFY X22 K rfl (XT.i0_eq_t (by decide : (0 : Int32) = (0 : Int32))) <| oB X22 K rfl rfl rfl ?_
  exact oRaw X22 K rfl rfl rfl (e22.trans y22) N22 (by decide) hh hEL hS5 hk5 R5 ⟨q.fEL, rfl, (((Keep.refl _ _).trans K4 all0).ext E5), S45⟩
theorem own_rcvA (hw : own_HW a0 Z) {a1 arr m1 tm v1 : Addr} {nn sf p1 p4 nd : Int32} {ka : ClassId} {lo0 hi0 : Nat} {B : Nat -> Nat × Nat × Nat} {W : Nat -> Option (Option own_S)} {tt : Int32} {hs : List (Int32 × Value)} {q : own_P0} (Z0 : n0 <= h0.size) (Y0 : Exa Z h0 a1 "convoke/protocol/AllToAll") (Y1 : f3 Z h0 a1 (.ref tm)) (Y2 : f6 Z h0 a1 (.int nn)) (Y3 : f7 Z h0 a1 (.int sf)) (Y4 : f8 Z h0 a1 (.int nd)) (Y5 : f9 Z h0 a1 (.ref arr)) (hS : own_Sy Z q nn tt sf arr ka lo0 hi0 B h0 W) (hla1 : @LT.lt Nat _ a1 lo0) (hna1 : @Ne Nat a1 arr) (hltm : @LT.lt Nat _ tm lo0) (hnt : @Ne Nat tm arr) (Y6 : n0 <= arr) (Y7 : n0 <= lo0) (Y8 : Exa Z h0 m1 "convoke/model/Message") (Y9 : f31 Z h0 m1 (.int p1)) (Y10 : f32 Z h0 m1 (.int sf)) (Y11 : f33 Z h0 m1 (.int p4)) (Y12 : f34 Z h0 m1 (.ref q.fKR)) (Y13 : f35 Z h0 m1 (.ref v1)) (Y14 : Exa Z h0 v1 "convoke/model/Value") (hp1 : ¬ (p1 < (1 : Int32))) (hp2 : ¬ (nn < p1)) (hn8 : 1 <= nn.toInt /\ nn.toInt <= 8) (hi1 : ¬ (p4 < (1 : Int32))) (hi2 : ¬ (nn < p4)) (hsf : ¬ (sf < (1 : Int32))) (Y15 : Exa Z h0 tm "java/util/TreeMap") (hW0 : W (own_ix p4) = some (some ⟨hs, (0 : Int32), .null, (0 : Int32)⟩)) (hg : getH hs [] (.int 0) p1.toNatClampNeg = .int 0) (hA1 : (1 : Int32) < (tt + (1 : Int32))) (hA2 : (1 : Int32) < (((2 : Int32) * tt) + (1 : Int32))) (hq : own_Env Z q) (hOld : Old Z n0 h0) : own_MW own_EL l ⟨"convoke/protocol/AllToAll", "receive", "(Lconvoke/model/Message;)Ljava/util/List;"⟩ prog_58_method_5_code 6 (some (.object "java/util/List")) ⟨7, 4, 128, 95⟩ ws Z h0 n0 #[(.ref a1), (.ref m1)] (fun v h => ∃ ar : Addr, (v = some (.ref ar) /\ Keep h0 h (own_WS lo0 hi0 []) /\ (own_Sy Z q nn tt sf arr ka lo0 hi0 B h (own_up W (own_ix p4) (some (some ⟨((p1, .int 1) :: hs), (1 : Int32), .ref v1, (1 : Int32)⟩)))))) := by
  refine own_begW (plainFor_of_name own_pn26) own_t36 #[.val (.ref a1), .val (.ref m1), .unset, .unset, .unset, .unset] (own_e2_6 · ⟨rfl, rfl⟩) fun p e s m below meth c sa K X0 e0 hh hS0 R0 => ?_
  have N0 := Fr.nil n0
  have H := oh hw
  have hEL := own_ew hw
  refine oA X0 K rfl rfl rfl <| oA X0 K rfl rfl rfl ?_
  refine oGf X0 K rfl (H 62) e0 Y3 fun T1 X1 e1 => ?_
  refine oA X1 K rfl rfl rfl ?_
  refine oGf X1 K rfl (H 60) e1 Y2 fun T2 X2 e2 => ?_
  refine oTw X2 K hS0 (Nat.zero_le _) hEL R0 rfl (H 298) (H 299) (H 300) (H 80) (by decide) e2 (own_ckA hw Z0 Y8 Y10 Y9 hp1 hp2) rfl (lenOf own_pd57 rfl) rfl N0 0 rfl (by decide) fun v4 T4 h4 L4 N4 q4 e4 X4 hS4 K R4 => ?_
  obtain ⟨rfl, K4⟩ := q4
  refine oLd (n := 64) X4 K rfl (H 312) (own_wS hw) e4 hS4 (Nat.le_refl _) hEL R4 (by decide) fun la5 T5 h5 k5 X5 e5 E5 hS5 hk5 K R5 => ?_
  refine oA X5 K rfl rfl rfl ?_
  refine oVc X5 K rfl (H 313) (H 314) (notFace_of_selects (args := #[]) (mvT K.wz (H 316))) (H 316) (H 315) (H 317) (H 257) (by decide) e5 (Exa.ext E5 (Y8.keep K4)) (own_m_instance hw (Nat.le_trans Z0 (Nat.le_trans K4.1 E5.1)) (Fld.ext E5 (Y11.keep K4 nin0))) rfl rfl (lenOf own_pd11 rfl) rfl N4 1 rfl (by decide) fun v7 T7 h7 L7 N7 q7 e7 X7 => ?_
  obtain ⟨rfl, y7⟩ := q7
  refine oA X7 K rfl rfl rfl ?_
  refine oGf X7 K rfl (H 60) (e7.trans y7) (Fld.ext E5 (Y2.keep K4 nin0)) fun T8 X8 e8 => ?_
  refine oTc X8 K rfl (H 56) (H 57) (H 59) (H 58) (by decide) e8 (own_ckP hw (Nat.le_trans Z0 (Nat.le_trans K4.1 E5.1)) hi1 hi2) rfl (lenOf own_pd2 rfl) rfl N7 0 rfl (by decide) fun v10 T10 h10 L10 N10 q10 e10 X10 => ?_
  obtain ⟨rfl, y10⟩ := q10
  refine oA X10 K rfl rfl rfl ?_
  refine oVc X10 K rfl (H 318) (H 319) (notFace_of_selects (args := #[]) (mvT K.wz (H 321))) (H 321) (H 320) (H 322) (H 257) (by decide) (e10.trans y10) (Exa.ext E5 (Y8.keep K4)) (own_m_kind hw (Nat.le_trans Z0 (Nat.le_trans K4.1 E5.1)) (Fld.ext E5 (Y12.keep K4 nin0))) rfl rfl (lenOf own_pd38 rfl) rfl N10 0 rfl (by decide) fun v12 T12 h12 L12 N12 q12 e12 X12 => ?_
  obtain ⟨rfl, y12⟩ := q12
  refine oTc X12 K rfl (H 323) (H 324) (H 325) (H 100) (by decide) (e12.trans y12) (own_kof hw (Nat.le_trans Z0 (Nat.le_trans K4.1 E5.1)) hq (Old.ext (Old.keep hOld K4 all0) E5)) rfl (lenOf own_pd58 rfl) rfl N12 0 rfl (by decide) fun v14 T14 h14 L14 N14 q14 e14 X14 => ?_
  obtain ⟨rfl, y14⟩ := q14
  refine oPop X14 K rfl rfl <| oA X14 K rfl rfl rfl ?_
  refine oVc X14 K rfl (H 313) (H 314) (notFace_of_selects (args := #[]) (mvT K.wz (H 316))) (H 316) (H 315) (H 317) (H 257) (by decide) (e14.trans y14) (Exa.ext E5 (Y8.keep K4)) (own_m_instance hw (Nat.le_trans Z0 (Nat.le_trans K4.1 E5.1)) (Fld.ext E5 (Y11.keep K4 nin0))) rfl rfl (lenOf own_pd11 rfl) rfl N14 0 rfl (by decide) fun v16 T16 h16 L16 N16 q16 e16 X16 => ?_
  obtain ⟨rfl, y16⟩ := q16
  refine oC (z := 1) X16 K rfl rfl <| oSub X16 K rfl rfl <| oSIn (L' := #[.val (.ref a1), .val (.ref m1), .val (.int (p4 - (1 : Int32))), .unset, .unset, .unset]) X16 K rfl rfl <| oA X16 K rfl rfl rfl ?_
  refine oGf X16 K rfl (H 68) (e16.trans y16) (Fld.ext E5 (Y5.keep K4 nin0)) fun T17 X17 e17 => ?_
  refine oI X17 K rfl rfl ?_
  have S45 := (own_Sy.ext (own_Sy.keep hS K4 all0) E5)
  have hil : own_ix p4 < nn.toNatClampNeg := own_ixlt hi1 hi2 hn8
  obtain ⟨ac18, Ar18, qa18, Sa18, Ha18⟩ := S45.ar
  have hat := Ha18 (own_ix p4) hil
  have hinj := own_ixin (m := ac18.slots.size) hi1 (by rw [Sa18]; exact hil)
  rw [if_pos (own_some hW0)] at hat
  obtain ⟨bb, lob, hib, hBb, Brb, ⟨rb1, rb2⟩⟩ := S45.get hil hW0
  rw [hBb] at hat
  change _ = some (Value.ref bb) at hat
  obtain ⟨sd, ec, rd, va, ca, co, kva, kca, kco, ixb, vt, ⟨r1, r2, r3, r4, r5, r6⟩, ⟨z0, z1, z2, z3, z4, z5, z6, z7, z8, z9, z10, z11, z12, z13⟩, ⟨s0, s1, s2, s3, s4⟩, ⟨u0, u1, u2, u3, u4, u5⟩, ⟨t1, t2, t3, t4⟩⟩ := Brb
  have Y16 : n0 <= bb := Nat.le_trans Y7 (Nat.le_trans rb1 r1.1)
  have Y17 : n0 <= rd := Nat.le_trans Y7 (Nat.le_trans rb1 r3.1)
  have Y18 : n0 <= va := Nat.le_trans Y7 (Nat.le_trans rb1 r4.1)
  have Y19 : n0 <= ca := Nat.le_trans Y7 (Nat.le_trans rb1 r5.1)
  have Y20 : n0 <= co := Nat.le_trans Y7 (Nat.le_trans rb1 r6.1)
  have y20 : f40 Z h5 rd (.int 0) := u4
  have y21 : Arv Z h5 va kva (.object "convoke/model/Value") (1 : Int32) [.null] .null := t1
  have y22 : Arv Z h5 ca kca .int 1 [.int 0] (.int 0) := t3
  have y23 : Arh Z h5 co kco .boolean (nn + (1 : Int32)) hs [] (.int 0) := t4
  refine oAL (v := (.ref bb)) X17 K rfl e17 Ar18 rfl hinj hat <| oSAn (L' := #[.val (.ref a1), .val (.ref m1), .val (.int (p4 - (1 : Int32))), .val (.ref bb), .unset, .unset]) X17 K rfl rfl rfl <| oA X17 K rfl rfl rfl <| oMY X17 K rfl <| oA X17 K rfl rfl rfl <| oA X17 K rfl rfl rfl ?_
  refine oUc X17 K rfl (H 337) (H 338) (H 339) (H 341) (H 340) (H 342) (H 109) (by decide) e17 z0 (own_hanA hw (Nat.le_trans Z0 (Nat.le_trans K4.1 E5.1)) (tt := tt) z0 z1 z2 z3 z4 z5 z6 z7 z8 z9 z10 z11 z12 z13 Y16 s0 s1 s2 s3 u0 u1 u2 u3 y20 u5 y21 t2 y22 y23 Y17 Y18 Y19 Y20 hp1 hp2 hn8 hsf s4 (Exa.ext E5 (Y14.keep K4)) hg hA1 hA2 hq (Old.ext (Old.keep hOld K4 all0) E5) (Exa.ext E5 (Y8.keep K4)) (Fld.ext E5 (Y12.keep K4 nin0)) (Fld.ext E5 (Y9.keep K4 nin0)) (Fld.ext E5 (Y13.keep K4 nin0))) rfl rfl (lenOf own_pd59 rfl) rfl N16 0 rfl (by decide) fun v20 T20 h20 L20 N20 q20 e20 X20 => ?_
  obtain ⟨rfl, K20, Y21, Y22, Y23, Y24, Y25, Y26, Y27, Y28, Y29, Y30⟩ := q20
  have R21 := own_rk R5 K20 (sfS (oSx K.wz u0 (by decide)) (sfS (own_safeH (vm := T5.vm) K.wz.alike y23 (by decide)) (sfS (own_safeV (vm := T5.vm) K.wz.alike y21 (by decide)) (sfS (own_safeV (vm := T5.vm) K.wz.alike y22 (by decide)) sf0))))
  refine oSA (L' := #[.val (.ref a1), .val (.ref m1), .val (.int (p4 - (1 : Int32))), .val (.ref bb), .val (.ref q.fEL), .unset]) X20 K rfl rfl rfl <| oA X20 K rfl rfl rfl ?_
  have z23 := (Nat.le_trans (Nat.le_trans K4.1 E5.1) K20.1)
  refine oVc X20 K rfl (H 526) (H 527) (notFace_of_selects (args := #[]) (mvT K.wz (H 529))) (H 529) (H 528) (H 530) (H 37) (by decide) e20 (z0.keep K20) (own_btrma0 hw (Nat.le_trans Z0 z23) (z0.keep K20) (z3.keep K20 (ninS (Exa.ne (z0.keep K20) Y21 (by decide)) (ninS (own_neArh (z0.keep K20) Y30 (H 70)) (ninS (Exa.neArv (z0.keep K20) Y27 (H 70)) (ninS (Exa.neArv (z0.keep K20) Y29 (H 70)) nin0)))))) rfl rfl (lenOf own_pd9 rfl) rfl N20 0 rfl (by decide) fun v24 T24 h24 L24 N24 q24 e24 X24 => ?_
  obtain ⟨rfl, y24⟩ := q24
  refine oFY X24 K rfl (XT.i0_eq_t (by decide : (0 : Int32) = (0 : Int32))) <| oB X24 K rfl rfl rfl ?_
  exact oRaw X24 K rfl rfl rfl (e24.trans y24) N24 (by decide) hh hEL hS5 (Nat.le_trans hk5 K20.1) R21 ⟨q.fEL, rfl, ((((Keep.refl _ _).trans K4 all0).ext E5).trans K20 (allS (Or.inl (own_inW ⟨Nat.le_trans rb1 r3.1, Nat.lt_of_lt_of_le r3.2 rb2⟩)) (allS (Or.inl (own_inW ⟨Nat.le_trans rb1 r6.1, Nat.lt_of_lt_of_le r6.2 rb2⟩)) (allS (Or.inl (own_inW ⟨Nat.le_trans rb1 r4.1, Nat.lt_of_lt_of_le r4.2 rb2⟩)) (allS (Or.inl (own_inW ⟨Nat.le_trans rb1 r5.1, Nat.lt_of_lt_of_le r5.2 rb2⟩)) all0))))), (own_Sy.upd S45 hil hBb (own_some hW0) ((Keep.refl _ [rd, co, va, ca]).trans K20 (allS (oM 0 rfl) (allS (oM 1 rfl) (allS (oM 2 rfl) (allS (oM 3 rfl) all0))))) (allS (P := fun y : Nat => (y < lo0 /\ y ≠ arr) ∨ hi0 <= y ∨ (lob <= y /\ y < hib)) (Or.inr (Or.inr ⟨r3.1, r3.2⟩)) (allS (P := fun y : Nat => (y < lo0 /\ y ≠ arr) ∨ hi0 <= y ∨ (lob <= y /\ y < hib)) (Or.inr (Or.inr ⟨r6.1, r6.2⟩)) (allS (P := fun y : Nat => (y < lo0 /\ y ≠ arr) ∨ hi0 <= y ∨ (lob <= y /\ y < hib)) (Or.inr (Or.inr ⟨r4.1, r4.2⟩)) (allS (P := fun y : Nat => (y < lo0 /\ y ≠ arr) ∨ hi0 <= y ∨ (lob <= y /\ y < hib)) (Or.inr (Or.inr ⟨r5.1, r5.2⟩)) all0)))) (some ⟨((p1, .int 1) :: hs), (1 : Int32), .ref v1, (1 : Int32)⟩) (show own_Br Z q nn tt sf h20 lob hib bb ⟨((p1, .int 1) :: hs), (1 : Int32), .ref v1, (1 : Int32)⟩ from ⟨sd, ec, rd, va, ca, co, kva, kca, kco, ixb, _, ⟨r1, r2, r3, r4, r5, r6⟩, ⟨(z0.keep K20), (z1.keep K20 (ninS (Exa.ne (z0.keep K20) Y21 (by decide)) (ninS (own_neArh (z0.keep K20) Y30 (H 70)) (ninS (Exa.neArv (z0.keep K20) Y27 (H 70)) (ninS (Exa.neArv (z0.keep K20) Y29 (H 70)) nin0))))), (z2.keep K20 (ninS (Exa.ne (z0.keep K20) Y21 (by decide)) (ninS (own_neArh (z0.keep K20) Y30 (H 70)) (ninS (Exa.neArv (z0.keep K20) Y27 (H 70)) (ninS (Exa.neArv (z0.keep K20) Y29 (H 70)) nin0))))), (z3.keep K20 (ninS (Exa.ne (z0.keep K20) Y21 (by decide)) (ninS (own_neArh (z0.keep K20) Y30 (H 70)) (ninS (Exa.neArv (z0.keep K20) Y27 (H 70)) (ninS (Exa.neArv (z0.keep K20) Y29 (H 70)) nin0))))), (z4.keep K20 (ninS (Exa.ne (z0.keep K20) Y21 (by decide)) (ninS (own_neArh (z0.keep K20) Y30 (H 70)) (ninS (Exa.neArv (z0.keep K20) Y27 (H 70)) (ninS (Exa.neArv (z0.keep K20) Y29 (H 70)) nin0))))), (z5.keep K20 (ninS (Exa.ne (z0.keep K20) Y21 (by decide)) (ninS (own_neArh (z0.keep K20) Y30 (H 70)) (ninS (Exa.neArv (z0.keep K20) Y27 (H 70)) (ninS (Exa.neArv (z0.keep K20) Y29 (H 70)) nin0))))), (z6.keep K20 (ninS (Exa.ne (z0.keep K20) Y21 (by decide)) (ninS (own_neArh (z0.keep K20) Y30 (H 70)) (ninS (Exa.neArv (z0.keep K20) Y27 (H 70)) (ninS (Exa.neArv (z0.keep K20) Y29 (H 70)) nin0))))), (z7.keep K20 (ninS (Exa.ne (z0.keep K20) Y21 (by decide)) (ninS (own_neArh (z0.keep K20) Y30 (H 70)) (ninS (Exa.neArv (z0.keep K20) Y27 (H 70)) (ninS (Exa.neArv (z0.keep K20) Y29 (H 70)) nin0))))), (z8.keep K20 (ninS (Exa.ne (z0.keep K20) Y21 (by decide)) (ninS (own_neArh (z0.keep K20) Y30 (H 70)) (ninS (Exa.neArv (z0.keep K20) Y27 (H 70)) (ninS (Exa.neArv (z0.keep K20) Y29 (H 70)) nin0))))), (z9.keep K20 (ninS (Exa.ne (z0.keep K20) Y21 (by decide)) (ninS (own_neArh (z0.keep K20) Y30 (H 70)) (ninS (Exa.neArv (z0.keep K20) Y27 (H 70)) (ninS (Exa.neArv (z0.keep K20) Y29 (H 70)) nin0))))), (z10.keep K20 (ninS (Exa.ne (z0.keep K20) Y21 (by decide)) (ninS (own_neArh (z0.keep K20) Y30 (H 70)) (ninS (Exa.neArv (z0.keep K20) Y27 (H 70)) (ninS (Exa.neArv (z0.keep K20) Y29 (H 70)) nin0))))), (z11.keep K20 (ninS (Exa.ne (z0.keep K20) Y21 (by decide)) (ninS (own_neArh (z0.keep K20) Y30 (H 70)) (ninS (Exa.neArv (z0.keep K20) Y27 (H 70)) (ninS (Exa.neArv (z0.keep K20) Y29 (H 70)) nin0))))), (z12.keep K20 (ninS (Exa.ne (z0.keep K20) Y21 (by decide)) (ninS (own_neArh (z0.keep K20) Y30 (H 70)) (ninS (Exa.neArv (z0.keep K20) Y27 (H 70)) (ninS (Exa.neArv (z0.keep K20) Y29 (H 70)) nin0))))), (z13.keep K20 (ninS (Exa.ne (z0.keep K20) Y21 (by decide)) (ninS (own_neArh (z0.keep K20) Y30 (H 70)) (ninS (Exa.neArv (z0.keep K20) Y27 (H 70)) (ninS (Exa.neArv (z0.keep K20) Y29 (H 70)) nin0)))))⟩, ⟨(s0.keep K20), (s1.keep K20 (ninS (Exa.ne (s0.keep K20) Y21 (by decide)) (ninS (own_neArh (s0.keep K20) Y30 (H 79)) (ninS (Exa.neArv (s0.keep K20) Y27 (H 79)) (ninS (Exa.neArv (s0.keep K20) Y29 (H 79)) nin0))))), (s2.keep K20 (ninS (Exa.ne (s0.keep K20) Y21 (by decide)) (ninS (own_neArh (s0.keep K20) Y30 (H 79)) (ninS (Exa.neArv (s0.keep K20) Y27 (H 79)) (ninS (Exa.neArv (s0.keep K20) Y29 (H 79)) nin0))))), (s3.keep K20 (ninS (Exa.ne (s0.keep K20) Y21 (by decide)) (ninS (own_neArh (s0.keep K20) Y30 (H 79)) (ninS (Exa.neArv (s0.keep K20) Y27 (H 79)) (ninS (Exa.neArv (s0.keep K20) Y29 (H 79)) nin0))))), s4⟩, ⟨Y21, Y22, Y23, Y24, Y25, Y26⟩, ⟨Y27, t2, Y29, Y30⟩⟩))⟩
theorem own_rcvD (hw : own_HW a0 Z) {a1 arr m1 tm v1 : Addr} {nn sf p1 p4 nd : Int32} {ka : ClassId} {lo0 hi0 : Nat} {B : Nat -> Nat × Nat × Nat} {W : Nat -> Option (Option own_S)} {tt : Int32} {hs : List (Int32 × Value)} {q : own_P0} (Z0 : n0 <= h0.size) (Y0 : Exa Z h0 a1 "convoke/protocol/AllToAll") (Y1 : f3 Z h0 a1 (.ref tm)) (Y2 : f6 Z h0 a1 (.int nn)) (Y3 : f7 Z h0 a1 (.int sf)) (Y4 : f8 Z h0 a1 (.int nd)) (Y5 : f9 Z h0 a1 (.ref arr)) (hS : own_Sy Z q nn tt sf arr ka lo0 hi0 B h0 W) (hla1 : @LT.lt Nat _ a1 lo0) (hna1 : @Ne Nat a1 arr) (hltm : @LT.lt Nat _ tm lo0) (hnt : @Ne Nat tm arr) (Y6 : n0 <= arr) (Y7 : n0 <= lo0) (Y8 : Exa Z h0 m1 "convoke/model/Message") (Y9 : f31 Z h0 m1 (.int p1)) (Y10 : f32 Z h0 m1 (.int sf)) (Y11 : f33 Z h0 m1 (.int p4)) (Y12 : f34 Z h0 m1 (.ref q.fKR)) (Y13 : f35 Z h0 m1 (.ref v1)) (Y14 : Exa Z h0 v1 "convoke/model/Value") (hp1 : ¬ (p1 < (1 : Int32))) (hp2 : ¬ (nn < p1)) (hn8 : 1 <= nn.toInt /\ nn.toInt <= 8) (hi1 : ¬ (p4 < (1 : Int32))) (hi2 : ¬ (nn < p4)) (hsf : ¬ (sf < (1 : Int32))) (Y15 : Exa Z h0 tm "java/util/TreeMap") (hW0 : W (own_ix p4) = some (some ⟨hs, (1 : Int32), .ref v1, (1 : Int32)⟩)) (hg : getH hs [] (.int 0) p1.toNatClampNeg = .int 0) (hA2 : (2 : Int32) < (((2 : Int32) * tt) + (1 : Int32))) (hq : own_Env Z q) (hOld : Old Z n0 h0) : own_MW own_EL l ⟨"convoke/protocol/AllToAll", "receive", "(Lconvoke/model/Message;)Ljava/util/List;"⟩ prog_58_method_5_code 6 (some (.object "java/util/List")) ⟨9, 46, 531, 127⟩ ws Z h0 n0 #[(.ref a1), (.ref m1)] (fun v h => ∃ ar : Addr, (v = some (.ref ar) /\ Keep h0 h (own_WS lo0 hi0 []) /\ (own_Sy Z q nn tt sf arr ka lo0 hi0 B h (own_up W (own_ix p4) (some none))))) := by
  refine own_begW (plainFor_of_name own_pn26) own_t36 #[.val (.ref a1), .val (.ref m1), .unset, .unset, .unset, .unset] (own_e2_6 · ⟨rfl, rfl⟩) fun p e s m below meth c sa K X0 e0 hh hS0 R0 => ?_
  have N0 := Fr.nil n0
  have H := oh hw
  have hEL := own_ew hw
  refine oA X0 K rfl rfl rfl <| oA X0 K rfl rfl rfl ?_
  refine oGf X0 K rfl (H 62) e0 Y3 fun T1 X1 e1 => ?_
  refine oA X1 K rfl rfl rfl ?_
  refine oGf X1 K rfl (H 60) e1 Y2 fun T2 X2 e2 => ?_
  refine oTw X2 K hS0 (Nat.zero_le _) hEL R0 rfl (H 298) (H 299) (H 300) (H 80) (by decide) e2 (own_ckA hw Z0 Y8 Y10 Y9 hp1 hp2) rfl (lenOf own_pd57 rfl) rfl N0 0 rfl (by decide) fun v4 T4 h4 L4 N4 q4 e4 X4 hS4 K R4 => ?_
  obtain ⟨rfl, K4⟩ := q4
  refine oLd (n := 64) X4 K rfl (H 312) (own_wS hw) e4 hS4 (Nat.le_refl _) hEL R4 (by decide) fun la5 T5 h5 k5 X5 e5 E5 hS5 hk5 K R5 => ?_
  refine oA X5 K rfl rfl rfl ?_
  refine oVc X5 K rfl (H 313) (H 314) (notFace_of_selects (args := #[]) (mvT K.wz (H 316))) (H 316) (H 315) (H 317) (H 257) (by decide) e5 (Exa.ext E5 (Y8.keep K4)) (own_m_instance hw (Nat.le_trans Z0 (Nat.le_trans K4.1 E5.1)) (Fld.ext E5 (Y11.keep K4 nin0))) rfl rfl (lenOf own_pd11 rfl) rfl N4 1 rfl (by decide) fun v7 T7 h7 L7 N7 q7 e7 X7 => ?_
  obtain ⟨rfl, y7⟩ := q7
  refine oA X7 K rfl rfl rfl ?_
  refine oGf X7 K rfl (H 60) (e7.trans y7) (Fld.ext E5 (Y2.keep K4 nin0)) fun T8 X8 e8 => ?_
  refine oTc X8 K rfl (H 56) (H 57) (H 59) (H 58) (by decide) e8 (own_ckP hw (Nat.le_trans Z0 (Nat.le_trans K4.1 E5.1)) hi1 hi2) rfl (lenOf own_pd2 rfl) rfl N7 0 rfl (by decide) fun v10 T10 h10 L10 N10 q10 e10 X10 => ?_
  obtain ⟨rfl, y10⟩ := q10
  refine oA X10 K rfl rfl rfl ?_
  refine oVc X10 K rfl (H 318) (H 319) (notFace_of_selects (args := #[]) (mvT K.wz (H 321))) (H 321) (H 320) (H 322) (H 257) (by decide) (e10.trans y10) (Exa.ext E5 (Y8.keep K4)) (own_m_kind hw (Nat.le_trans Z0 (Nat.le_trans K4.1 E5.1)) (Fld.ext E5 (Y12.keep K4 nin0))) rfl rfl (lenOf own_pd38 rfl) rfl N10 0 rfl (by decide) fun v12 T12 h12 L12 N12 q12 e12 X12 => ?_
  obtain ⟨rfl, y12⟩ := q12
  refine oTc X12 K rfl (H 323) (H 324) (H 325) (H 100) (by decide) (e12.trans y12) (own_kof hw (Nat.le_trans Z0 (Nat.le_trans K4.1 E5.1)) hq (Old.ext (Old.keep hOld K4 all0) E5)) rfl (lenOf own_pd58 rfl) rfl N12 0 rfl (by decide) fun v14 T14 h14 L14 N14 q14 e14 X14 => ?_
  obtain ⟨rfl, y14⟩ := q14
  refine oPop X14 K rfl rfl <| oA X14 K rfl rfl rfl ?_
  refine oVc X14 K rfl (H 313) (H 314) (notFace_of_selects (args := #[]) (mvT K.wz (H 316))) (H 316) (H 315) (H 317) (H 257) (by decide) (e14.trans y14) (Exa.ext E5 (Y8.keep K4)) (own_m_instance hw (Nat.le_trans Z0 (Nat.le_trans K4.1 E5.1)) (Fld.ext E5 (Y11.keep K4 nin0))) rfl rfl (lenOf own_pd11 rfl) rfl N14 0 rfl (by decide) fun v16 T16 h16 L16 N16 q16 e16 X16 => ?_
  obtain ⟨rfl, y16⟩ := q16
  refine oC (z := 1) X16 K rfl rfl <| oSub X16 K rfl rfl <| oSIn (L' := #[.val (.ref a1), .val (.ref m1), .val (.int (p4 - (1 : Int32))), .unset, .unset, .unset]) X16 K rfl rfl <| oA X16 K rfl rfl rfl ?_
  refine oGf X16 K rfl (H 68) (e16.trans y16) (Fld.ext E5 (Y5.keep K4 nin0)) fun T17 X17 e17 => ?_
  refine oI X17 K rfl rfl ?_
  have S45 := (own_Sy.ext (own_Sy.keep hS K4 all0) E5)
  have hil : own_ix p4 < nn.toNatClampNeg := own_ixlt hi1 hi2 hn8
  obtain ⟨ac18, Ar18, qa18, Sa18, Ha18⟩ := S45.ar
  have hat := Ha18 (own_ix p4) hil
  have hinj := own_ixin (m := ac18.slots.size) hi1 (by rw [Sa18]; exact hil)
  rw [if_pos (own_some hW0)] at hat
  obtain ⟨bb, lob, hib, hBb, Brb, ⟨rb1, rb2⟩⟩ := S45.get hil hW0
  rw [hBb] at hat
  change _ = some (Value.ref bb) at hat
  obtain ⟨sd, ec, rd, va, ca, co, kva, kca, kco, ixb, vt, ⟨r1, r2, r3, r4, r5, r6⟩, ⟨z0, z1, z2, z3, z4, z5, z6, z7, z8, z9, z10, z11, z12, z13⟩, ⟨s0, s1, s2, s3, s4⟩, ⟨u0, u1, u2, u3, u4, u5⟩, ⟨t1, t2, t3, t4⟩⟩ := Brb
  have Y16 : n0 <= bb := Nat.le_trans Y7 (Nat.le_trans rb1 r1.1)
  have Y17 : n0 <= rd := Nat.le_trans Y7 (Nat.le_trans rb1 r3.1)
  have Y18 : n0 <= va := Nat.le_trans Y7 (Nat.le_trans rb1 r4.1)
  have Y19 : n0 <= ca := Nat.le_trans Y7 (Nat.le_trans rb1 r5.1)
  have Y20 : n0 <= co := Nat.le_trans Y7 (Nat.le_trans rb1 r6.1)
  have y20 : f40 Z h5 rd (.int 1) := u4
  have y21 : Arv Z h5 va kva (.object "convoke/model/Value") (1 : Int32) [(.ref v1)] .null := t1
  have y22 : Arv Z h5 ca kca .int 1 [.int 1] (.int 0) := t3
  have y23 : Arh Z h5 co kco .boolean (nn + (1 : Int32)) hs [] (.int 0) := t4
  refine oAL (v := (.ref bb)) X17 K rfl e17 Ar18 rfl hinj hat <| oSAn (L' := #[.val (.ref a1), .val (.ref m1), .val (.int (p4 - (1 : Int32))), .val (.ref bb), .unset, .unset]) X17 K rfl rfl rfl <| oA X17 K rfl rfl rfl <| oMY X17 K rfl <| oA X17 K rfl rfl rfl <| oA X17 K rfl rfl rfl ?_
  refine oUw X17 K hS5 hk5 hEL R5 rfl (H 337) (H 338) (H 339) (H 341) (H 340) (H 342) (H 109) (by decide) e17 z0 (own_hanD hw (Nat.le_trans Z0 (Nat.le_trans K4.1 E5.1)) (tt := tt) z0 z1 z2 z3 z4 z5 z6 z7 z8 z9 z10 z11 z12 z13 Y16 s0 s1 s2 s3 u0 u1 u2 u3 y20 u5 y21 t2 y22 y23 Y17 Y18 Y19 Y20 hp1 hp2 hn8 hsf s4 (Exa.ext E5 (Y14.keep K4)) hg hA2 hq (Old.ext (Old.keep hOld K4 all0) E5) (Exa.ext E5 (Y8.keep K4)) (Fld.ext E5 (Y12.keep K4 nin0)) (Fld.ext E5 (Y9.keep K4 nin0)) (Fld.ext E5 (Y13.keep K4 nin0))) rfl rfl (lenOf own_pd59 rfl) rfl N16 0 rfl (by decide) fun v22 T22 h22 L22 N22 q22 e22 X22 hS22 K R22 => ?_
  obtain ⟨ar19, rs20, rfl, K22, Y21, Y22, Y23, Y24, Y25, Y26, Y27, Y28, Y29, Y30, Y31, Y32, Y33, Y34⟩ := q22
  refine oSA (L' := #[.val (.ref a1), .val (.ref m1), .val (.int (p4 - (1 : Int32))), .val (.ref bb), .val (.ref ar19), .unset]) X22 K rfl rfl rfl <| oA X22 K rfl rfl rfl ?_
  have z24 := (Nat.le_trans (Nat.le_trans K4.1 E5.1) K22.1)
  refine oVc X22 K rfl (H 526) (H 527) (notFace_of_selects (args := #[]) (mvT K.wz (H 529))) (H 529) (H 528) (H 530) (H 37) (by decide) e22 Y21 (own_btrma0 hw (Nat.le_trans Z0 z24) Y21 Y24) rfl rfl (lenOf own_pd9 rfl) rfl N22 0 rfl (by decide) fun v25 T25 h25 L25 N25 q25 e25 X25 => ?_
  obtain ⟨rfl, y25⟩ := q25
  refine oFY X25 K rfl (XT.i0_eq_t (by decide : (0 : Int32) = (0 : Int32))) <| oB X25 K rfl rfl rfl ?_
  exact oRaw X25 K rfl rfl rfl (e25.trans y25) N25 (by decide) hh hEL hS22 (Nat.le_refl _) R22 ⟨ar19, rfl, ((((Keep.refl _ _).trans K4 all0).ext E5).trans K22 (allS (Or.inl (own_inW ⟨Nat.le_trans rb1 r1.1, Nat.lt_of_lt_of_le r1.2 rb2⟩)) (allS (Or.inl (own_inW ⟨Nat.le_trans rb1 r3.1, Nat.lt_of_lt_of_le r3.2 rb2⟩)) (allS (Or.inl (own_inW ⟨Nat.le_trans rb1 r6.1, Nat.lt_of_lt_of_le r6.2 rb2⟩)) (allS (Or.inl (own_inW ⟨Nat.le_trans rb1 r5.1, Nat.lt_of_lt_of_le r5.2 rb2⟩)) all0))))), (own_Sy.upd S45 hil hBb (own_some hW0) ((Keep.refl _ [bb, rd, co, ca]).trans K22 (allS (oM 0 rfl) (allS (oM 1 rfl) (allS (oM 2 rfl) (allS (oM 3 rfl) all0))))) (allS (P := fun y : Nat => (y < lo0 /\ y ≠ arr) ∨ hi0 <= y ∨ (lob <= y /\ y < hib)) (Or.inr (Or.inr ⟨r1.1, r1.2⟩)) (allS (P := fun y : Nat => (y < lo0 /\ y ≠ arr) ∨ hi0 <= y ∨ (lob <= y /\ y < hib)) (Or.inr (Or.inr ⟨r3.1, r3.2⟩)) (allS (P := fun y : Nat => (y < lo0 /\ y ≠ arr) ∨ hi0 <= y ∨ (lob <= y /\ y < hib)) (Or.inr (Or.inr ⟨r6.1, r6.2⟩)) (allS (P := fun y : Nat => (y < lo0 /\ y ≠ arr) ∨ hi0 <= y ∨ (lob <= y /\ y < hib)) (Or.inr (Or.inr ⟨r5.1, r5.2⟩)) all0)))) none ⟨r1, _, _, _, _, _, _, _, _, _, _, Y21, Y22, Y23, Y24, Y25, Y26, Y27, Y28, Y29, Y30, Y31, Y32, Y33, Y34⟩)⟩
theorem own_rcvB0 (hw : own_HW a0 Z) {a1 arr m1 tm v1 : Addr} {nn sf p1 p4 nd : Int32} {ka : ClassId} {lo0 hi0 : Nat} {B : Nat -> Nat × Nat × Nat} {W : Nat -> Option (Option own_S)} {hs : List (Int32 × Value)} {mc : Int32} {q : own_P0} (Z0 : n0 <= h0.size) (Y0 : Exa Z h0 a1 "convoke/protocol/AllToAll") (Y1 : f3 Z h0 a1 (.ref tm)) (Y2 : f6 Z h0 a1 (.int nn)) (Y3 : f7 Z h0 a1 (.int sf)) (Y4 : f8 Z h0 a1 (.int nd)) (Y5 : f9 Z h0 a1 (.ref arr)) (hS : own_Sy Z q nn (0 : Int32) sf arr ka lo0 hi0 B h0 W) (hla1 : @LT.lt Nat _ a1 lo0) (hna1 : @Ne Nat a1 arr) (hltm : @LT.lt Nat _ tm lo0) (hnt : @Ne Nat tm arr) (Y6 : n0 <= arr) (Y7 : n0 <= lo0) (Y8 : Exa Z h0 m1 "convoke/model/Message") (Y9 : f31 Z h0 m1 (.int p1)) (Y10 : f32 Z h0 m1 (.int sf)) (Y11 : f33 Z h0 m1 (.int p4)) (Y12 : f34 Z h0 m1 (.ref q.fKR)) (Y13 : f35 Z h0 m1 (.ref v1)) (Y14 : Exa Z h0 v1 "convoke/model/Value") (hp1 : ¬ (p1 < (1 : Int32))) (hp2 : ¬ (nn < p1)) (hn8 : 1 <= nn.toInt /\ nn.toInt <= 8) (hi1 : ¬ (p4 < (1 : Int32))) (hi2 : ¬ (nn < p4)) (hsf : ¬ (sf < (1 : Int32))) (Y15 : Exa Z h0 tm "java/util/TreeMap") (hW0 : W (own_ix p4) = some (some ⟨hs, (0 : Int32), .null, (0 : Int32)⟩)) (hg : getH hs [] (.int 0) p1.toNatClampNeg = .int 0) (Y16 : f0 Z h0 tm (.int 0)) (Y17 : f1 Z h0 tm (.int mc)) (Y18 : f2 Z h0 tm .null) (Y19 : f47 Z h0 tm .null) (Y20 : n0 <= tm) (hq1 : (1 : Int32) = nd -> ∀ k, k < nn.toNatClampNeg -> k ≠ (own_ix p4) -> W k = none) (hq : own_Env Z q) (hOld : Old Z n0 h0) : own_MW own_EL l ⟨"convoke/protocol/AllToAll", "receive", "(Lconvoke/model/Message;)Ljava/util/List;"⟩ prog_58_method_5_code 6 (some (.object "java/util/List")) ⟨9, 53, 561, 127⟩ ws Z h0 n0 #[(.ref a1), (.ref m1)] (fun v h => ∃ ar : Addr, ∃ en : Addr, ∃ kk : Addr, (v = some (.ref ar) /\ Keep h0 h (own_WS lo0 hi0 [tm, arr]) /\ (own_Sy Z q nn (0 : Int32) sf arr ka lo0 hi0 B h (own_Wn ((1 : Int32) = nd) W (own_ix p4))) /\ (Exa Z h tm "java/util/TreeMap") /\ (f0 Z h tm (.int 1)) /\ (f1 Z h tm (.int (mc + (1 : Int32)))) /\ (f2 Z h tm .null) /\ (f47 Z h tm (.ref en)) /\ (Exa Z h en "java/util/TreeMap$Entry") /\ (f49 Z h en (.int 1)) /\ (f50 Z h en (.ref kk)) /\ (f51 Z h en (.ref v1)) /\ (f52 Z h en .null) /\ (f55 Z h en .null) /\ (f53 Z h en .null) /\ (h0.size <= en) /\ (Exa Z Z.heap kk "java/lang/Integer") /\ (f48 Z Z.heap kk (.int p4)))) := by
  refine own_begW (plainFor_of_name own_pn26) own_t36 #[.val (.ref a1), .val (.ref m1), .unset, .unset, .unset, .unset] (own_e2_6 · ⟨rfl, rfl⟩) fun p e s m below meth c sa K X0 e0 hh hS0 R0 => ?_
  have N0 := Fr.nil n0
  have H := oh hw
  have hEL := own_ew hw
  refine oA X0 K rfl rfl rfl <| oA X0 K rfl rfl rfl ?_
  refine oGf X0 K rfl (H 62) e0 Y3 fun T1 X1 e1 => ?_
  refine oA X1 K rfl rfl rfl ?_
  refine oGf X1 K rfl (H 60) e1 Y2 fun T2 X2 e2 => ?_
  refine oTw X2 K hS0 (Nat.zero_le _) hEL R0 rfl (H 298) (H 299) (H 300) (H 80) (by decide) e2 (own_ckA hw Z0 Y8 Y10 Y9 hp1 hp2) rfl (lenOf own_pd57 rfl) rfl N0 0 rfl (by decide) fun v4 T4 h4 L4 N4 q4 e4 X4 hS4 K R4 => ?_
  obtain ⟨rfl, K4⟩ := q4
  refine oLd (n := 64) X4 K rfl (H 312) (own_wS hw) e4 hS4 (Nat.le_refl _) hEL R4 (by decide) fun la5 T5 h5 k5 X5 e5 E5 hS5 hk5 K R5 => ?_
  refine oA X5 K rfl rfl rfl ?_
  refine oVc X5 K rfl (H 313) (H 314) (notFace_of_selects (args := #[]) (mvT K.wz (H 316))) (H 316) (H 315) (H 317) (H 257) (by decide) e5 (Exa.ext E5 (Y8.keep K4)) (own_m_instance hw (Nat.le_trans Z0 (Nat.le_trans K4.1 E5.1)) (Fld.ext E5 (Y11.keep K4 nin0))) rfl rfl (lenOf own_pd11 rfl) rfl N4 1 rfl (by decide) fun v7 T7 h7 L7 N7 q7 e7 X7 => ?_
  obtain ⟨rfl, y7⟩ := q7
  refine oA X7 K rfl rfl rfl ?_
  refine oGf X7 K rfl (H 60) (e7.trans y7) (Fld.ext E5 (Y2.keep K4 nin0)) fun T8 X8 e8 => ?_
  refine oTc X8 K rfl (H 56) (H 57) (H 59) (H 58) (by decide) e8 (own_ckP hw (Nat.le_trans Z0 (Nat.le_trans K4.1 E5.1)) hi1 hi2) rfl (lenOf own_pd2 rfl) rfl N7 0 rfl (by decide) fun v10 T10 h10 L10 N10 q10 e10 X10 => ?_
  obtain ⟨rfl, y10⟩ := q10
  refine oA X10 K rfl rfl rfl ?_
  refine oVc X10 K rfl (H 318) (H 319) (notFace_of_selects (args := #[]) (mvT K.wz (H 321))) (H 321) (H 320) (H 322) (H 257) (by decide) (e10.trans y10) (Exa.ext E5 (Y8.keep K4)) (own_m_kind hw (Nat.le_trans Z0 (Nat.le_trans K4.1 E5.1)) (Fld.ext E5 (Y12.keep K4 nin0))) rfl rfl (lenOf own_pd38 rfl) rfl N10 0 rfl (by decide) fun v12 T12 h12 L12 N12 q12 e12 X12 => ?_
  obtain ⟨rfl, y12⟩ := q12
  refine oTc X12 K rfl (H 323) (H 324) (H 325) (H 100) (by decide) (e12.trans y12) (own_kof hw (Nat.le_trans Z0 (Nat.le_trans K4.1 E5.1)) hq (Old.ext (Old.keep hOld K4 all0) E5)) rfl (lenOf own_pd58 rfl) rfl N12 0 rfl (by decide) fun v14 T14 h14 L14 N14 q14 e14 X14 => ?_
  obtain ⟨rfl, y14⟩ := q14
  refine oPop X14 K rfl rfl <| oA X14 K rfl rfl rfl ?_
  refine oVc X14 K rfl (H 313) (H 314) (notFace_of_selects (args := #[]) (mvT K.wz (H 316))) (H 316) (H 315) (H 317) (H 257) (by decide) (e14.trans y14) (Exa.ext E5 (Y8.keep K4)) (own_m_instance hw (Nat.le_trans Z0 (Nat.le_trans K4.1 E5.1)) (Fld.ext E5 (Y11.keep K4 nin0))) rfl rfl (lenOf own_pd11 rfl) rfl N14 0 rfl (by decide) fun v16 T16 h16 L16 N16 q16 e16 X16 => ?_
  obtain ⟨rfl, y16⟩ := q16
  refine oC (z := 1) X16 K rfl rfl <| oSub X16 K rfl rfl <| oSIn (L' := #[.val (.ref a1), .val (.ref m1), .val (.int (p4 - (1 : Int32))), .unset, .unset, .unset]) X16 K rfl rfl <| oA X16 K rfl rfl rfl ?_
  refine oGf X16 K rfl (H 68) (e16.trans y16) (Fld.ext E5 (Y5.keep K4 nin0)) fun T17 X17 e17 => ?_
  refine oI X17 K rfl rfl ?_
  have S45 := (own_Sy.ext (own_Sy.keep hS K4 all0) E5)
  have hil : own_ix p4 < nn.toNatClampNeg := own_ixlt hi1 hi2 hn8
  obtain ⟨ac18, Ar18, qa18, Sa18, Ha18⟩ := S45.ar
  have hat := Ha18 (own_ix p4) hil
  have hinj := own_ixin (m := ac18.slots.size) hi1 (by rw [Sa18]; exact hil)
  rw [if_pos (own_some hW0)] at hat
  obtain ⟨bb, lob, hib, hBb, Brb, ⟨rb1, rb2⟩⟩ := S45.get hil hW0
  rw [hBb] at hat
  change _ = some (Value.ref bb) at hat
  obtain ⟨sd, ec, rd, va, ca, co, kva, kca, kco, ixb, vt, ⟨r1, r2, r3, r4, r5, r6⟩, ⟨z0, z1, z2, z3, z4, z5, z6, z7, z8, z9, z10, z11, z12, z13⟩, ⟨s0, s1, s2, s3, s4⟩, ⟨u0, u1, u2, u3, u4, u5⟩, ⟨t1, t2, t3, t4⟩⟩ := Brb
  have Y21 : n0 <= bb := Nat.le_trans Y7 (Nat.le_trans rb1 r1.1)
  have Y22 : n0 <= rd := Nat.le_trans Y7 (Nat.le_trans rb1 r3.1)
  have Y23 : n0 <= va := Nat.le_trans Y7 (Nat.le_trans rb1 r4.1)
  have Y24 : n0 <= ca := Nat.le_trans Y7 (Nat.le_trans rb1 r5.1)
  have Y25 : n0 <= co := Nat.le_trans Y7 (Nat.le_trans rb1 r6.1)
  have y7 : f19 Z h5 bb (.int 1) := z7
  have y8 : f20 Z h5 bb (.int 1) := z8
  have y9 : f21 Z h5 bb (.int 1) := z9
  have y20 : f40 Z h5 rd (.int 0) := u4
  have y21 : Arv Z h5 va kva (.object "convoke/model/Value") (1 : Int32) [.null] .null := t1
  have y22 : Arv Z h5 ca kca .int 1 [.int 0] (.int 0) := t3
  have y23 : Arh Z h5 co kco .boolean (nn + (1 : Int32)) hs [] (.int 0) := t4
  refine oAL (v := (.ref bb)) X17 K rfl e17 Ar18 rfl hinj hat <| oSAn (L' := #[.val (.ref a1), .val (.ref m1), .val (.int (p4 - (1 : Int32))), .val (.ref bb), .unset, .unset]) X17 K rfl rfl rfl <| oA X17 K rfl rfl rfl <| oMY X17 K rfl <| oA X17 K rfl rfl rfl <| oA X17 K rfl rfl rfl ?_
  refine oUw X17 K hS5 hk5 hEL R5 rfl (H 337) (H 338) (H 339) (H 341) (H 340) (H 342) (H 109) (by decide) e17 z0 (own_hanB hw (Nat.le_trans Z0 (Nat.le_trans K4.1 E5.1)) z0 z1 z2 z3 z4 z5 z6 y7 y8 y9 z10 z11 z12 z13 Y21 s0 s1 s2 s3 u0 u1 u2 u3 y20 u5 y21 t2 y22 y23 Y22 Y23 Y24 Y25 hp1 hp2 hn8 hsf s4 (Exa.ext E5 (Y14.keep K4)) hg hq (Old.ext (Old.keep hOld K4 all0) E5) (Exa.ext E5 (Y8.keep K4)) (Fld.ext E5 (Y12.keep K4 nin0)) (Fld.ext E5 (Y9.keep K4 nin0)) (Fld.ext E5 (Y13.keep K4 nin0))) rfl rfl (lenOf own_pd59 rfl) rfl N16 0 rfl (by decide) fun v24 T24 h24 L24 N24 q24 e24 X24 hS24 K R24 => ?_
  obtain ⟨ar19, ed20, ke21, hh22, rfl, K24, Y26, Y27, Y28, Y29, Y30, Y31, Y32, Y33, Y34, Y35, Y36, Y37, Y38, Y39, Y40, Y41, Y42, Y43, Y44, Y45, Y46, Y47, Y48⟩ := q24
  have Y49 := Nat.le_trans (Nat.le_trans K4.1 E5.1) Y45
  have Y50 := Nat.le_trans (Nat.le_trans K4.1 E5.1) Y46
  refine oSA (L' := #[.val (.ref a1), .val (.ref m1), .val (.int (p4 - (1 : Int32))), .val (.ref bb), .val (.ref ar19), .unset]) X24 K rfl rfl rfl <| oA X24 K rfl rfl rfl ?_
  have z26 := (Nat.le_trans (Nat.le_trans K4.1 E5.1) K24.1)
  refine oVc X24 K rfl (H 526) (H 527) (notFace_of_selects (args := #[]) (mvT K.wz (H 529))) (H 529) (H 528) (H 530) (H 37) (by decide) e24 Y26 (own_btrma1 hw (Nat.le_trans Z0 z26) Y26 Y29) rfl rfl (lenOf own_pd9 rfl) rfl N24 0 rfl (by decide) fun v27 T27 h27 L27 N27 q27 e27 X27 => ?_
  obtain ⟨rfl, y27⟩ := q27
  refine oFN X27 K rfl (XT.i0_eq_f (by decide : ¬ ((1 : Int32) = (0 : Int32)))) <| oA X27 K rfl rfl rfl ?_
  refine oGf X27 K rfl (H 33) (e27.trans y27) ((Fld.ext E5 (Y1.keep K4 nin0)).keep K24 (ninS (Exa.ne ((Exa.ext E5 (Y0.keep K4)).keep K24) Y26 (by decide)) (ninS (Exa.ne (Exa.ext E5 (Y0.keep K4)) u0 (by decide)) (ninS (own_neArh (Exa.ext E5 (Y0.keep K4)) y23 (H 3)) (ninS (Exa.neArv (Exa.ext E5 (Y0.keep K4)) y21 (H 3)) (ninS (Exa.neArv (Exa.ext E5 (Y0.keep K4)) y22 (H 3)) nin0)))))) fun T28 X28 e28 => ?_
  refine oA X28 K rfl rfl rfl ?_
  refine oVc X28 K rfl (H 313) (H 314) (notFace_of_selects (args := #[]) (mvT K.wz (H 316))) (H 316) (H 315) (H 317) (H 257) (by decide) e28 ((Exa.ext E5 (Y8.keep K4)).keep K24) (own_m_instance hw (Nat.le_trans Z0 z26) ((Fld.ext E5 (Y11.keep K4 nin0)).keep K24 (ninS (Exa.ne ((Exa.ext E5 (Y8.keep K4)).keep K24) Y26 (by decide)) (ninS (Exa.ne (Exa.ext E5 (Y8.keep K4)) u0 (by decide)) (ninS (own_neArh (Exa.ext E5 (Y8.keep K4)) y23 (H 256)) (ninS (Exa.neArv (Exa.ext E5 (Y8.keep K4)) y21 (H 256)) (ninS (Exa.neArv (Exa.ext E5 (Y8.keep K4)) y22 (H 256)) nin0))))))) rfl rfl (lenOf own_pd11 rfl) rfl N27 1 rfl (by decide) fun v30 T30 h30 L30 N30 q30 e30 X30 => ?_
  obtain ⟨rfl, y30⟩ := q30
  refine oTc X30 K rfl (H 535) (H 536) (H 538) (H 537) (by decide) (e30.trans y30) (own_ival hw (Nat.le_trans Z0 z26) (own_r8 hi1 hi2 hn8) hq (Old.keep (Old.ext (Old.keep hOld K4 all0) E5) K24 (allS Y21 (allS Y22 (allS Y25 (allS Y23 (allS Y24 all0))))))) rfl (lenOf own_pd60 rfl) rfl N30 1 rfl (by decide) fun v33 T33 h33 L33 N33 q33 e33 X33 => ?_
  obtain ⟨ar31, rfl, K33, Y51, Y52⟩ := q33
  have R34 := own_rk R24 K33 sf0
  refine oA X33 K rfl rfl rfl ?_
  refine oVc X33 K rfl (H 542) (H 482) (notFace_of_selects (args := #[]) (mvT K.wz (H 484))) (H 484) (H 483) (H 485) (H 37) (by decide) e33 (Y26.keep K33) (own_oB1 hw (Nat.le_trans Z0 (Nat.le_trans z26 K33.1)) (Y26.keep K33) (Y31.keep K33 nin0)) rfl rfl (lenOf own_pd26 rfl) rfl N33 2 rfl (by decide) fun v37 T37 h37 L37 N37 q37 e37 X37 => ?_
  obtain ⟨ar35, rfl, K37, Y53, Y54, Y55⟩ := q37
  have R38 := own_rk R34 K37 sf0
  have z40 := (Nat.le_trans (Nat.le_trans z26 K33.1) K37.1)
  refine oVc X37 K rfl (H 543) (H 544) (notFace_of_selects (args := #[]) (mvT K.wz (H 546))) (H 546) (H 545) (H 547) (H 493) (by decide) e37 Y53 (own_o_orElseThrow hw (Nat.le_trans Z0 z40) Y54) rfl rfl (lenOf own_pd27 rfl) rfl N37 2 rfl (by decide) fun v41 T41 h41 L41 N41 q41 e41 X41 => ?_
  obtain ⟨rfl, y41⟩ := q41
  refine oCst X41 K rfl (H 548) (e41.trans y41) (Ins.self ((((Exa.ext E5 (Y14.keep K4)).keep K24).keep K33).keep K37)) fun T42 X42 e42 => ?_
  refine oGc X42 K rfl (H 549) (H 550) (H 551) (H 552) (H 553) (H 554) (H 555) (H 556) (H 557) (H 16) (by decide) (by decide) (by decide) e42 ((((Exa.ext E5 (Y15.keep K4)).keep K24).keep K33).keep K37) (own_tput20 hw (Nat.le_trans Z0 z40) ((((Exa.ext E5 (Y15.keep K4)).keep K24).keep K33).keep K37) ((((Fld.ext E5 (Y16.keep K4 nin0)).keep K24 (ninS (Exa.ne ((Exa.ext E5 (Y15.keep K4)).keep K24) Y26 (by decide)) (ninS (Exa.ne (Exa.ext E5 (Y15.keep K4)) u0 (by decide)) (ninS (own_neArh (Exa.ext E5 (Y15.keep K4)) y23 (H 15)) (ninS (Exa.neArv (Exa.ext E5 (Y15.keep K4)) y21 (H 15)) (ninS (Exa.neArv (Exa.ext E5 (Y15.keep K4)) y22 (H 15)) nin0)))))).keep K33 nin0).keep K37 nin0) ((((Fld.ext E5 (Y17.keep K4 nin0)).keep K24 (ninS (Exa.ne ((Exa.ext E5 (Y15.keep K4)).keep K24) Y26 (by decide)) (ninS (Exa.ne (Exa.ext E5 (Y15.keep K4)) u0 (by decide)) (ninS (own_neArh (Exa.ext E5 (Y15.keep K4)) y23 (H 15)) (ninS (Exa.neArv (Exa.ext E5 (Y15.keep K4)) y21 (H 15)) (ninS (Exa.neArv (Exa.ext E5 (Y15.keep K4)) y22 (H 15)) nin0)))))).keep K33 nin0).keep K37 nin0) ((((Fld.ext E5 (Y18.keep K4 nin0)).keep K24 (ninS (Exa.ne ((Exa.ext E5 (Y15.keep K4)).keep K24) Y26 (by decide)) (ninS (Exa.ne (Exa.ext E5 (Y15.keep K4)) u0 (by decide)) (ninS (own_neArh (Exa.ext E5 (Y15.keep K4)) y23 (H 15)) (ninS (Exa.neArv (Exa.ext E5 (Y15.keep K4)) y21 (H 15)) (ninS (Exa.neArv (Exa.ext E5 (Y15.keep K4)) y22 (H 15)) nin0)))))).keep K33 nin0).keep K37 nin0) ((((Fld.ext E5 (Y19.keep K4 nin0)).keep K24 (ninS (Exa.ne ((Exa.ext E5 (Y15.keep K4)).keep K24) Y26 (by decide)) (ninS (Exa.ne (Exa.ext E5 (Y15.keep K4)) u0 (by decide)) (ninS (own_neArh (Exa.ext E5 (Y15.keep K4)) y23 (H 15)) (ninS (Exa.neArv (Exa.ext E5 (Y15.keep K4)) y21 (H 15)) (ninS (Exa.neArv (Exa.ext E5 (Y15.keep K4)) y22 (H 15)) nin0)))))).keep K33 nin0).keep K37 nin0) Y20 (Exa.ext (Old.keep (Old.keep (Old.keep (Old.ext (Old.keep hOld K4 all0) E5) K24 (allS Y21 (allS Y22 (allS Y25 (allS Y23 (allS Y24 all0)))))) K33 all0) K37 all0).2 Y51) (Fld.ext (Old.keep (Old.keep (Old.keep (Old.ext (Old.keep hOld K4 all0) E5) K24 (allS Y21 (allS Y22 (allS Y25 (allS Y23 (allS Y24 all0)))))) K33 all0) K37 all0).2 Y52)) rfl rfl (lenOf own_pd61 rfl) rfl N41 0 rfl (by decide) fun v45 T45 h45 L45 N45 q45 e45 X45 => ?_
  obtain ⟨en43, rfl, K45, Y56, Y57, Y58, Y59, Y60, Y61, Y62, Y63, Y64, Y65, Y66, Y67, Y68⟩ := q45
  have R46 := own_rk R38 K45 (sfS (oSx K.wz ((((Exa.ext E5 (Y15.keep K4)).keep K24).keep K33).keep K37) (by decide)) sf0)
  have Y69 := Nat.le_trans z40 Y68
  refine oPop X45 K rfl rfl <| oA X45 K rfl rfl rfl ?_
  refine oGf X45 K rfl (H 68) e45 (((((Fld.ext E5 (Y5.keep K4 nin0)).keep K24 (ninS (Exa.ne ((Exa.ext E5 (Y0.keep K4)).keep K24) Y26 (by decide)) (ninS (Exa.ne (Exa.ext E5 (Y0.keep K4)) u0 (by decide)) (ninS (own_neArh (Exa.ext E5 (Y0.keep K4)) y23 (H 3)) (ninS (Exa.neArv (Exa.ext E5 (Y0.keep K4)) y21 (H 3)) (ninS (Exa.neArv (Exa.ext E5 (Y0.keep K4)) y22 (H 3)) nin0)))))).keep K33 nin0).keep K37 nin0).keep K45 (ninS (Exa.ne Y0 Y15 (by decide)) nin0)) fun T47 X47 e47 => ?_
  refine oI X47 K rfl rfl <| oN X47 K rfl ?_
  have An48 := (own_arK (own_arK (own_arK (own_arK Ar18 K24 (ninS (oNe hS.al (Nat.le_trans rb1 r1.1)) (ninS (oNe hS.al (Nat.le_trans rb1 r3.1)) (ninS (oNe hS.al (Nat.le_trans rb1 r6.1)) (ninS (oNe hS.al (Nat.le_trans rb1 r4.1)) (ninS (oNe hS.al (Nat.le_trans rb1 r5.1)) nin0)))))) K33 nin0) K37 nin0) K45 (ninS (Ne.symm hnt) nin0))
  have Kk48 := (((((Keep.refl _ [bb, rd, co, va, ca, tm]).trans K24 (allS (oM 0 rfl) (allS (oM 1 rfl) (allS (oM 2 rfl) (allS (oM 3 rfl) (allS (oM 4 rfl) all0)))))).trans K33 all0).trans K37 all0).trans K45 (allS (oM 5 rfl) all0))
  obtain ⟨T49, h49, X49, e49, W49, st49⟩ := stR X47 K.1 K.wz e47 An48 (j := (p4 - (1 : Int32))) hinj rfl (Or.inl rfl) (g := (mkF m 102 #[.val (.ref a1), .val (.ref m1), .val (.int (p4 - (1 : Int32))), .val (.ref bb), .val (.ref ar19), .unset] [.null, (.int (p4 - (1 : Int32))), (.ref arr)])) rfl rfl (K.d rfl)
  refine own_fs (st49 _ (Steps.refl _)) ?_
  have Sk := own_Sy.kill S45 hil hBb Kk48 (allS (P := fun y : Nat => (y < lo0 /\ y ≠ arr) ∨ hi0 <= y ∨ (lob <= y /\ y < hib)) (Or.inr (Or.inr ⟨r1.1, r1.2⟩)) (allS (P := fun y : Nat => (y < lo0 /\ y ≠ arr) ∨ hi0 <= y ∨ (lob <= y /\ y < hib)) (Or.inr (Or.inr ⟨r3.1, r3.2⟩)) (allS (P := fun y : Nat => (y < lo0 /\ y ≠ arr) ∨ hi0 <= y ∨ (lob <= y /\ y < hib)) (Or.inr (Or.inr ⟨r6.1, r6.2⟩)) (allS (P := fun y : Nat => (y < lo0 /\ y ≠ arr) ∨ hi0 <= y ∨ (lob <= y /\ y < hib)) (Or.inr (Or.inr ⟨r4.1, r4.2⟩)) (allS (P := fun y : Nat => (y < lo0 /\ y ≠ arr) ∨ hi0 <= y ∨ (lob <= y /\ y < hib)) (Or.inr (Or.inr ⟨r5.1, r5.2⟩)) (allS (P := fun y : Nat => (y < lo0 /\ y ≠ arr) ∨ hi0 <= y ∨ (lob <= y /\ y < hib)) (Or.inl ⟨hltm, hnt⟩) all0)))))) W49
  have R50 := own_rw R46 W49 (Safe.arr (vm := T24.vm) K.wz.alike An48 (by decide))
  have N49 := Fr.snoc X49 N45 Y6
  show own_G _ _ _ _ (T49.setTop (mkF m 103 #[.val (.ref a1), .val (.ref m1), .val (.int (p4 - (1 : Int32))), .val (.ref bb), .val (.ref ar19), .unset] []))
  by_cases hc103 : (1 : Int32) = nd
  · refine oA X49 K rfl rfl rfl ?_
    have z52 := (Nat.le_trans (Nat.le_trans z40 K45.1) (Keep.of_wr W49).1)
    refine oVc X49 K rfl (H 613) (H 614) (notFace_of_selects (args := #[]) (mvT K.wz (H 616))) (H 616) (H 615) (H 617) (H 4) (by decide) e49 (Exa.wr W49 (((((Exa.ext E5 (Y0.keep K4)).keep K24).keep K33).keep K37).keep K45)) (own_trm1 hw (Nat.le_trans Z0 z52) (oFn W49 (((((Fld.ext E5 (Y1.keep K4 nin0)).keep K24 (ninS (Exa.ne ((Exa.ext E5 (Y0.keep K4)).keep K24) Y26 (by decide)) (ninS (Exa.ne (Exa.ext E5 (Y0.keep K4)) u0 (by decide)) (ninS (own_neArh (Exa.ext E5 (Y0.keep K4)) y23 (H 3)) (ninS (Exa.neArv (Exa.ext E5 (Y0.keep K4)) y21 (H 3)) (ninS (Exa.neArv (Exa.ext E5 (Y0.keep K4)) y22 (H 3)) nin0)))))).keep K33 nin0).keep K37 nin0).keep K45 (ninS (Exa.ne Y0 Y15 (by decide)) nin0)) hna1) (oFn W49 (((((Fld.ext E5 (Y4.keep K4 nin0)).keep K24 (ninS (Exa.ne ((Exa.ext E5 (Y0.keep K4)).keep K24) Y26 (by decide)) (ninS (Exa.ne (Exa.ext E5 (Y0.keep K4)) u0 (by decide)) (ninS (own_neArh (Exa.ext E5 (Y0.keep K4)) y23 (H 3)) (ninS (Exa.neArv (Exa.ext E5 (Y0.keep K4)) y21 (H 3)) (ninS (Exa.neArv (Exa.ext E5 (Y0.keep K4)) y22 (H 3)) nin0)))))).keep K33 nin0).keep K37 nin0).keep K45 (ninS (Exa.ne Y0 Y15 (by decide)) nin0)) hna1) (Exa.wr W49 Y56) (oFn W49 Y57 (Ne.symm (Ne.symm hnt))) hc103) rfl rfl (lenOf own_pd9 rfl) rfl N49 0 rfl (by decide) fun v53 T53 h53 L53 N53 q53 e53 X53 => ?_
    obtain ⟨rfl, y53⟩ := q53
    refine oFN X53 K rfl (XT.i0_eq_f (by decide : ¬ ((1 : Int32) = (0 : Int32)))) ?_
    refine oNew X53 K rfl (H 626) (H 424) (H 425) (e53.trans y53) z52 (by decide) fun T54 h54 b54 g54 Y70 X54 e54 E54 A54 D54 => ?_
    have R55 := own_re R50 E54
    refine oDup X54 K rfl rfl <| oB X54 K rfl rfl rfl ?_
    refine oNc X54 K rfl (H 627) (H 628) (H 629) (H 425) (by decide) rfl e54 (own_i_ALc hw (Nat.le_trans Z0 (Nat.le_trans z52 E54.1)) A54 (D54 (Or.inl (H 443)) (ty := .int) (by decide)) (D54 (Or.inl (H 447)) (ty := (.array (.object "java/lang/Object"))) (by decide)) (D54 (Or.inl (H 462)) (ty := .int) (by decide)) (Nat.le_trans Z0 Y70) (Exa.ext E54 (Exa.wr W49 (((Y40.keep K33).keep K37).keep K45))) (Fld.ext E54 (oFn W49 (((Y41.keep K33 nin0).keep K37 nin0).keep K45 (ninS (Ne.symm (oNe (Exa.lt Y15) Y49)) nin0)) (Ne.symm (oNe (Nat.lt_of_lt_of_le hS.al hS.lh) (Nat.le_trans hS.lz Y49))))) (Fld.ext E54 (oFn W49 (((Y42.keep K33 nin0).keep K37 nin0).keep K45 (ninS (Ne.symm (oNe (Exa.lt Y15) Y49)) nin0)) (Ne.symm (oNe (Nat.lt_of_lt_of_le hS.al hS.lh) (Nat.le_trans hS.lz Y49))))) (((((Y43.keep K33 nin0).keep K37 nin0).keep K45 (ninS (Ne.symm (oNe (Exa.lt Y15) Y50)) nin0)).other W49 (Ne.symm (oNe (Nat.lt_of_lt_of_le hS.al hS.lh) (Nat.le_trans hS.lz Y50)))).ext E54) (Exa.ext E54 (Exa.wr W49 (((Y47.keep K33).keep K37).keep K45))) (own_Els.ext (own_Els.wr (own_Els.keep (own_Els.keep (own_Els.keep Y48 K33) K37) K45) W49) E54) hn8 hq (Old.ext (Old.wr (Old.keep (Old.keep (Old.keep (Old.keep (Old.ext (Old.keep hOld K4 all0) E5) K24 (allS Y21 (allS Y22 (allS Y25 (allS Y23 (allS Y24 all0)))))) K33 all0) K37 all0) K45 (allS Y20 all0)) W49 Y6) E54) (Ne.symm (oNe (Exa.lt (Exa.wr W49 (((Y40.keep K33).keep K37).keep K45))) (Nat.le_of_eq g54.symm)))) rfl rfl (lenOf own_pd62 rfl) rfl N53 1 rfl (by decide) fun v58 T58 h58 L58 N58 q58 e58 X58 => ?_
    obtain ⟨e256, rfl, K58, Y71, Y72, Y73, Y74⟩ := q58
    have R59 := own_rk R55 K58 (sfS (oSx K.wz A54 (by decide)) sf0)
    refine oSA (L' := #[.val (.ref a1), .val (.ref m1), .val (.int (p4 - (1 : Int32))), .val (.ref bb), .val (.ref ar19), .val (.ref b54)]) X58 K rfl rfl rfl <| oB X58 K rfl rfl rfl <| oA X58 K rfl rfl rfl ?_
    have Sq0 := own_Sy.none (own_Sy.keep (own_Sy.ext Sk E54) K58 (allS (P := fun y : Nat => (y < lo0 /\ y ≠ arr) ∨ hi0 <= y) (Or.inr (Nat.le_trans hS.lz Y70)) all0)) (own_upn (hq1 hc103))
    have z62 := (Nat.le_trans (Nat.le_trans z52 E54.1) K58.1)
    refine oVw X58 K hS24 (Nat.le_trans (Nat.le_trans (Nat.le_trans (Nat.le_trans (Nat.le_trans (Nat.le_trans (Nat.le_refl _) K33.1) K37.1) K45.1) (Keep.of_wr W49).1) E54.1) K58.1) hEL R59 rfl (H 669) (H 670) (notFace_of_selects (args := #[]) (mvT K.wz (H 672))) (H 672) (H 671) (H 673) (H 4) (by decide) e58 ((Exa.ext E54 (Exa.wr W49 (((((Exa.ext E5 (Y0.keep K4)).keep K24).keep K33).keep K37).keep K45))).keep K58) (own_quit0 hw (Nat.le_trans Z0 z62) (nn := nn) (tt := (0 : Int32)) (sf := sf) (ka := ka) (lo0 := lo0) (hi0 := hi0) (B := B) ((Exa.ext E54 (Exa.wr W49 (((((Exa.ext E5 (Y0.keep K4)).keep K24).keep K33).keep K37).keep K45))).keep K58) ((Fld.ext E54 (oFn W49 (((((Fld.ext E5 (Y5.keep K4 nin0)).keep K24 (ninS (Exa.ne ((Exa.ext E5 (Y0.keep K4)).keep K24) Y26 (by decide)) (ninS (Exa.ne (Exa.ext E5 (Y0.keep K4)) u0 (by decide)) (ninS (own_neArh (Exa.ext E5 (Y0.keep K4)) y23 (H 3)) (ninS (Exa.neArv (Exa.ext E5 (Y0.keep K4)) y21 (H 3)) (ninS (Exa.neArv (Exa.ext E5 (Y0.keep K4)) y22 (H 3)) nin0)))))).keep K33 nin0).keep K37 nin0).keep K45 (ninS (Exa.ne Y0 Y15 (by decide)) nin0)) hna1)).keep K58 (ninS (oNe (Exa.lt Y0) Y70) nin0)) Sq0 hn8 hla1 hna1 Y6 Y7 hq (Old.keep (Old.ext (Old.wr (Old.keep (Old.keep (Old.keep (Old.keep (Old.ext (Old.keep hOld K4 all0) E5) K24 (allS Y21 (allS Y22 (allS Y25 (allS Y23 (allS Y24 all0)))))) K33 all0) K37 all0) K45 (allS Y20 all0)) W49 Y6) E54) K58 (allS (Nat.le_trans Z0 Y70) all0))) rfl rfl (lenOf own_pd33 rfl) rfl N58 1 rfl (by decide) fun v63 T63 h63 L63 N63 q63 e63 X63 hS63 K R63 => ?_
    obtain ⟨ar60, rfl, K63, Y75, Y76, Y77, Y78, Y79⟩ := q63
    refine oFc X63 K rfl (H 678) (H 679) (mvT K.wz (H 680)) (H 681) (H 682) (H 683) (H 684) (H 457) (H 685) (H 425) (by decide) e63 (Y71.keep K63) (own_adda0 hw (Nat.le_trans Z0 (Nat.le_trans z62 K63.1)) (Y71.keep K63) (Y72.keep K63 nin0) (Y73.keep K63 nin0) (Y74.keep K63 nin0) (Nat.le_trans Z0 Y70) Y76 Y77 Y78 hq (Old.keep (Old.keep (Old.ext (Old.wr (Old.keep (Old.keep (Old.keep (Old.keep (Old.ext (Old.keep hOld K4 all0) E5) K24 (allS Y21 (allS Y22 (allS Y25 (allS Y23 (allS Y24 all0)))))) K33 all0) K37 all0) K45 (allS Y20 all0)) W49 Y6) E54) K58 (allS (Nat.le_trans Z0 Y70) all0)) K63 all0)) rfl rfl (lenOf own_pd54 rfl) rfl N63 0 rfl (by decide) fun v65 T65 h65 L65 N65 q65 e65 X65 => ?_
    obtain ⟨rfl, K65, Y80, Y81, Y82, Y83⟩ := q65
    have R66 := own_rk R63 K65 (sfS (oSx K.wz (Y71.keep K63) (by decide)) sf0)
    refine oPop X65 K rfl rfl <| oB X65 K rfl rfl rfl ?_
    exact oRaw X65 K rfl rfl rfl e65 N65 (by decide) hh hEL hS63 (Nat.le_trans (Nat.le_refl _) K65.1) R66 ⟨b54, en43, ar31, rfl, ((((((((((((Keep.refl _ _).trans K4 all0).ext E5).trans K24 (allS (Or.inl (own_inW ⟨Nat.le_trans rb1 r1.1, Nat.lt_of_lt_of_le r1.2 rb2⟩)) (allS (Or.inl (own_inW ⟨Nat.le_trans rb1 r3.1, Nat.lt_of_lt_of_le r3.2 rb2⟩)) (allS (Or.inl (own_inW ⟨Nat.le_trans rb1 r6.1, Nat.lt_of_lt_of_le r6.2 rb2⟩)) (allS (Or.inl (own_inW ⟨Nat.le_trans rb1 r4.1, Nat.lt_of_lt_of_le r4.2 rb2⟩)) (allS (Or.inl (own_inW ⟨Nat.le_trans rb1 r5.1, Nat.lt_of_lt_of_le r5.2 rb2⟩)) all0)))))).trans K33 all0).trans K37 all0).trans K45 (allS (Or.inl (own_inW2 (List.mem_of_getElem? (i := 0) rfl))) all0)).wr W49 (Or.inl (own_inW2 (List.mem_of_getElem? (i := 1) rfl)))).ext E54).trans K58 (allS (Or.inr Y70) all0)).trans K63 all0).trans K65 (allS (Or.inr Y70) all0)), (by rw [own_Wy hc103]; exact (own_Sy.keep Y75 K65 (allS (P := fun y : Nat => (y < lo0 /\ y ≠ arr) ∨ hi0 <= y) (Or.inr (Nat.le_trans hS.lz Y70)) all0))), ((((Exa.ext E54 (Exa.wr W49 Y56)).keep K58).keep K63).keep K65), ((((Fld.ext E54 (oFn W49 Y57 (Ne.symm (Ne.symm hnt)))).keep K58 (ninS (oNe (Exa.lt Y15) Y70) nin0)).keep K63 nin0).keep K65 (ninS (oNe (Exa.lt Y15) Y70) nin0)), ((((Fld.ext E54 (oFn W49 Y58 (Ne.symm (Ne.symm hnt)))).keep K58 (ninS (oNe (Exa.lt Y15) Y70) nin0)).keep K63 nin0).keep K65 (ninS (oNe (Exa.lt Y15) Y70) nin0)), ((((Fld.ext E54 (oFn W49 Y59 (Ne.symm (Ne.symm hnt)))).keep K58 (ninS (oNe (Exa.lt Y15) Y70) nin0)).keep K63 nin0).keep K65 (ninS (oNe (Exa.lt Y15) Y70) nin0)), ((((Fld.ext E54 (oFn W49 Y60 (Ne.symm (Ne.symm hnt)))).keep K58 (ninS (oNe (Exa.lt Y15) Y70) nin0)).keep K63 nin0).keep K65 (ninS (oNe (Exa.lt Y15) Y70) nin0)), ((((Exa.ext E54 (Exa.wr W49 Y61)).keep K58).keep K63).keep K65), ((((Fld.ext E54 (oFn W49 Y62 (Ne.symm (oNe (Nat.lt_of_lt_of_le hS.al hS.lh) (Nat.le_trans hS.lz Y69))))).keep K58 (ninS (oNe (Exa.lt (Exa.wr W49 Y61)) (Nat.le_of_eq g54.symm)) nin0)).keep K63 nin0).keep K65 (ninS (oNe (Exa.lt (Exa.wr W49 Y61)) (Nat.le_of_eq g54.symm)) nin0)), ((((Fld.ext E54 (oFn W49 Y63 (Ne.symm (oNe (Nat.lt_of_lt_of_le hS.al hS.lh) (Nat.le_trans hS.lz Y69))))).keep K58 (ninS (oNe (Exa.lt (Exa.wr W49 Y61)) (Nat.le_of_eq g54.symm)) nin0)).keep K63 nin0).keep K65 (ninS (oNe (Exa.lt (Exa.wr W49 Y61)) (Nat.le_of_eq g54.symm)) nin0)), ((((Fld.ext E54 (oFn W49 Y64 (Ne.symm (oNe (Nat.lt_of_lt_of_le hS.al hS.lh) (Nat.le_trans hS.lz Y69))))).keep K58 (ninS (oNe (Exa.lt (Exa.wr W49 Y61)) (Nat.le_of_eq g54.symm)) nin0)).keep K63 nin0).keep K65 (ninS (oNe (Exa.lt (Exa.wr W49 Y61)) (Nat.le_of_eq g54.symm)) nin0)), ((((Fld.ext E54 (oFn W49 Y65 (Ne.symm (oNe (Nat.lt_of_lt_of_le hS.al hS.lh) (Nat.le_trans hS.lz Y69))))).keep K58 (ninS (oNe (Exa.lt (Exa.wr W49 Y61)) (Nat.le_of_eq g54.symm)) nin0)).keep K63 nin0).keep K65 (ninS (oNe (Exa.lt (Exa.wr W49 Y61)) (Nat.le_of_eq g54.symm)) nin0)), ((((Fld.ext E54 (oFn W49 Y66 (Ne.symm (oNe (Nat.lt_of_lt_of_le hS.al hS.lh) (Nat.le_trans hS.lz Y69))))).keep K58 (ninS (oNe (Exa.lt (Exa.wr W49 Y61)) (Nat.le_of_eq g54.symm)) nin0)).keep K63 nin0).keep K65 (ninS (oNe (Exa.lt (Exa.wr W49 Y61)) (Nat.le_of_eq g54.symm)) nin0)), ((((Fld.ext E54 (oFn W49 Y67 (Ne.symm (oNe (Nat.lt_of_lt_of_le hS.al hS.lh) (Nat.le_trans hS.lz Y69))))).keep K58 (ninS (oNe (Exa.lt (Exa.wr W49 Y61)) (Nat.le_of_eq g54.symm)) nin0)).keep K63 nin0).keep K65 (ninS (oNe (Exa.lt (Exa.wr W49 Y61)) (Nat.le_of_eq g54.symm)) nin0)), Y69, Y51, Y52⟩
  · refine oA X49 K rfl rfl rfl ?_
    have z68 := (Nat.le_trans (Nat.le_trans z40 K45.1) (Keep.of_wr W49).1)
    refine oVc X49 K rfl (H 613) (H 614) (notFace_of_selects (args := #[]) (mvT K.wz (H 616))) (H 616) (H 615) (H 617) (H 4) (by decide) e49 (Exa.wr W49 (((((Exa.ext E5 (Y0.keep K4)).keep K24).keep K33).keep K37).keep K45)) (own_trm0 hw (Nat.le_trans Z0 z68) (oFn W49 (((((Fld.ext E5 (Y1.keep K4 nin0)).keep K24 (ninS (Exa.ne ((Exa.ext E5 (Y0.keep K4)).keep K24) Y26 (by decide)) (ninS (Exa.ne (Exa.ext E5 (Y0.keep K4)) u0 (by decide)) (ninS (own_neArh (Exa.ext E5 (Y0.keep K4)) y23 (H 3)) (ninS (Exa.neArv (Exa.ext E5 (Y0.keep K4)) y21 (H 3)) (ninS (Exa.neArv (Exa.ext E5 (Y0.keep K4)) y22 (H 3)) nin0)))))).keep K33 nin0).keep K37 nin0).keep K45 (ninS (Exa.ne Y0 Y15 (by decide)) nin0)) hna1) (oFn W49 (((((Fld.ext E5 (Y4.keep K4 nin0)).keep K24 (ninS (Exa.ne ((Exa.ext E5 (Y0.keep K4)).keep K24) Y26 (by decide)) (ninS (Exa.ne (Exa.ext E5 (Y0.keep K4)) u0 (by decide)) (ninS (own_neArh (Exa.ext E5 (Y0.keep K4)) y23 (H 3)) (ninS (Exa.neArv (Exa.ext E5 (Y0.keep K4)) y21 (H 3)) (ninS (Exa.neArv (Exa.ext E5 (Y0.keep K4)) y22 (H 3)) nin0)))))).keep K33 nin0).keep K37 nin0).keep K45 (ninS (Exa.ne Y0 Y15 (by decide)) nin0)) hna1) (Exa.wr W49 Y56) (oFn W49 Y57 (Ne.symm (Ne.symm hnt))) hc103) rfl rfl (lenOf own_pd9 rfl) rfl N49 0 rfl (by decide) fun v69 T69 h69 L69 N69 q69 e69 X69 => ?_
    obtain ⟨rfl, y69⟩ := q69
    refine oFY X69 K rfl (XT.i0_eq_t (by decide : (0 : Int32) = (0 : Int32))) <| oB X69 K rfl rfl rfl ?_
    exact oRaw X69 K rfl rfl rfl (e69.trans y69) N69 (by decide) hh hEL hS24 (Nat.le_trans (Nat.le_trans (Nat.le_trans (Nat.le_trans (Nat.le_refl _) K33.1) K37.1) K45.1) (Keep.of_wr W49).1) R50 ⟨ar19, en43, ar31, rfl, ((((((((Keep.refl _ _).trans K4 all0).ext E5).trans K24 (allS (Or.inl (own_inW ⟨Nat.le_trans rb1 r1.1, Nat.lt_of_lt_of_le r1.2 rb2⟩)) (allS (Or.inl (own_inW ⟨Nat.le_trans rb1 r3.1, Nat.lt_of_lt_of_le r3.2 rb2⟩)) (allS (Or.inl (own_inW ⟨Nat.le_trans rb1 r6.1, Nat.lt_of_lt_of_le r6.2 rb2⟩)) (allS (Or.inl (own_inW ⟨Nat.le_trans rb1 r4.1, Nat.lt_of_lt_of_le r4.2 rb2⟩)) (allS (Or.inl (own_inW ⟨Nat.le_trans rb1 r5.1, Nat.lt_of_lt_of_le r5.2 rb2⟩)) all0)))))).trans K33 all0).trans K37 all0).trans K45 (allS (Or.inl (own_inW2 (List.mem_of_getElem? (i := 0) rfl))) all0)).wr W49 (Or.inl (own_inW2 (List.mem_of_getElem? (i := 1) rfl)))), (by rw [own_Wx hc103]; exact Sk), (Exa.wr W49 Y56), (oFn W49 Y57 (Ne.symm (Ne.symm hnt))), (oFn W49 Y58 (Ne.symm (Ne.symm hnt))), (oFn W49 Y59 (Ne.symm (Ne.symm hnt))), (oFn W49 Y60 (Ne.symm (Ne.symm hnt))), (Exa.wr W49 Y61), (oFn W49 Y62 (Ne.symm (oNe (Nat.lt_of_lt_of_le hS.al hS.lh) (Nat.le_trans hS.lz Y69)))), (oFn W49 Y63 (Ne.symm (oNe (Nat.lt_of_lt_of_le hS.al hS.lh) (Nat.le_trans hS.lz Y69)))), (oFn W49 Y64 (Ne.symm (oNe (Nat.lt_of_lt_of_le hS.al hS.lh) (Nat.le_trans hS.lz Y69)))), (oFn W49 Y65 (Ne.symm (oNe (Nat.lt_of_lt_of_le hS.al hS.lh) (Nat.le_trans hS.lz Y69)))), (oFn W49 Y66 (Ne.symm (oNe (Nat.lt_of_lt_of_le hS.al hS.lh) (Nat.le_trans hS.lz Y69)))), (oFn W49 Y67 (Ne.symm (oNe (Nat.lt_of_lt_of_le hS.al hS.lh) (Nat.le_trans hS.lz Y69)))), Y69, Y51, Y52⟩
theorem own_rcvB1 (hw : own_HW a0 Z) {a1 arr m1 tm v1 : Addr} {nn sf p1 p4 nd : Int32} {ka : ClassId} {lo0 hi0 : Nat} {B : Nat -> Nat × Nat × Nat} {W : Nat -> Option (Option own_S)} {hs : List (Int32 × Value)} {mc : Int32} {en k2 : Addr} {w2 : Value} {p2 : Int32} {q : own_P0} (Z0 : n0 <= h0.size) (Y0 : Exa Z h0 a1 "convoke/protocol/AllToAll") (Y1 : f3 Z h0 a1 (.ref tm)) (Y2 : f6 Z h0 a1 (.int nn)) (Y3 : f7 Z h0 a1 (.int sf)) (Y4 : f8 Z h0 a1 (.int nd)) (Y5 : f9 Z h0 a1 (.ref arr)) (hS : own_Sy Z q nn (0 : Int32) sf arr ka lo0 hi0 B h0 W) (hla1 : @LT.lt Nat _ a1 lo0) (hna1 : @Ne Nat a1 arr) (hltm : @LT.lt Nat _ tm lo0) (hnt : @Ne Nat tm arr) (Y6 : n0 <= arr) (Y7 : n0 <= lo0) (Y8 : Exa Z h0 m1 "convoke/model/Message") (Y9 : f31 Z h0 m1 (.int p1)) (Y10 : f32 Z h0 m1 (.int sf)) (Y11 : f33 Z h0 m1 (.int p4)) (Y12 : f34 Z h0 m1 (.ref q.fKR)) (Y13 : f35 Z h0 m1 (.ref v1)) (Y14 : Exa Z h0 v1 "convoke/model/Value") (hp1 : ¬ (p1 < (1 : Int32))) (hp2 : ¬ (nn < p1)) (hn8 : 1 <= nn.toInt /\ nn.toInt <= 8) (hi1 : ¬ (p4 < (1 : Int32))) (hi2 : ¬ (nn < p4)) (hsf : ¬ (sf < (1 : Int32))) (Y15 : Exa Z h0 tm "java/util/TreeMap") (hW0 : W (own_ix p4) = some (some ⟨hs, (0 : Int32), .null, (0 : Int32)⟩)) (hg : getH hs [] (.int 0) p1.toNatClampNeg = .int 0) (Y16 : f0 Z h0 tm (.int 1)) (Y17 : f1 Z h0 tm (.int mc)) (Y18 : f2 Z h0 tm .null) (Y19 : f47 Z h0 tm (.ref en)) (Y20 : n0 <= tm) (hq1 : (2 : Int32) = nd -> ∀ k, k < nn.toNatClampNeg -> k ≠ (own_ix p4) -> W k = none) (Y21 : Exa Z h0 en "java/util/TreeMap$Entry") (Y22 : f49 Z h0 en (.int 1)) (Y23 : f50 Z h0 en (.ref k2)) (Y24 : f51 Z h0 en w2) (Y25 : f52 Z h0 en .null) (Y26 : f55 Z h0 en .null) (Y27 : f53 Z h0 en .null) (Y28 : n0 <= en) (hoen : @LE.le Nat _ hi0 en) (hKe : Exa Z Z.heap k2 "java/lang/Integer") (hKf : f48 Z Z.heap k2 (.int p2)) (hne : ¬ (p4 = p2)) (hq : own_Env Z q) (hOld : Old Z n0 h0) : own_MW own_EL l ⟨"convoke/protocol/AllToAll", "receive", "(Lconvoke/model/Message;)Ljava/util/List;"⟩ prog_58_method_5_code 6 (some (.object "java/util/List")) ⟨9, 53, 561, 127⟩ ws Z h0 n0 #[(.ref a1), (.ref m1)] (fun v h => ∃ ar : Addr, (v = some (.ref ar) /\ Keep h0 h (own_WS lo0 hi0 [tm, arr, en]) /\ (own_Sy Z q nn (0 : Int32) sf arr ka lo0 hi0 B h (own_Wn ((2 : Int32) = nd) W (own_ix p4))) /\ (Exa Z h tm "java/util/TreeMap"))) := by
  refine own_begW (plainFor_of_name own_pn26) own_t36 #[.val (.ref a1), .val (.ref m1), .unset, .unset, .unset, .unset] (own_e2_6 · ⟨rfl, rfl⟩) fun p e s m below meth c sa K X0 e0 hh hS0 R0 => ?_
  have N0 := Fr.nil n0
  have H := oh hw
  have hEL := own_ew hw
  refine oA X0 K rfl rfl rfl <| oA X0 K rfl rfl rfl ?_
  refine oGf X0 K rfl (H 62) e0 Y3 fun T1 X1 e1 => ?_
  refine oA X1 K rfl rfl rfl ?_
  refine oGf X1 K rfl (H 60) e1 Y2 fun T2 X2 e2 => ?_
  refine oTw X2 K hS0 (Nat.zero_le _) hEL R0 rfl (H 298) (H 299) (H 300) (H 80) (by decide) e2 (own_ckA hw Z0 Y8 Y10 Y9 hp1 hp2) rfl (lenOf own_pd57 rfl) rfl N0 0 rfl (by decide) fun v4 T4 h4 L4 N4 q4 e4 X4 hS4 K R4 => ?_
  obtain ⟨rfl, K4⟩ := q4
  refine oLd (n := 64) X4 K rfl (H 312) (own_wS hw) e4 hS4 (Nat.le_refl _) hEL R4 (by decide) fun la5 T5 h5 k5 X5 e5 E5 hS5 hk5 K R5 => ?_
  refine oA X5 K rfl rfl rfl ?_
  refine oVc X5 K rfl (H 313) (H 314) (notFace_of_selects (args := #[]) (mvT K.wz (H 316))) (H 316) (H 315) (H 317) (H 257) (by decide) e5 (Exa.ext E5 (Y8.keep K4)) (own_m_instance hw (Nat.le_trans Z0 (Nat.le_trans K4.1 E5.1)) (Fld.ext E5 (Y11.keep K4 nin0))) rfl rfl (lenOf own_pd11 rfl) rfl N4 1 rfl (by decide) fun v7 T7 h7 L7 N7 q7 e7 X7 => ?_
  obtain ⟨rfl, y7⟩ := q7
  refine oA X7 K rfl rfl rfl ?_
  refine oGf X7 K rfl (H 60) (e7.trans y7) (Fld.ext E5 (Y2.keep K4 nin0)) fun T8 X8 e8 => ?_
  refine oTc X8 K rfl (H 56) (H 57) (H 59) (H 58) (by decide) e8 (own_ckP hw (Nat.le_trans Z0 (Nat.le_trans K4.1 E5.1)) hi1 hi2) rfl (lenOf own_pd2 rfl) rfl N7 0 rfl (by decide) fun v10 T10 h10 L10 N10 q10 e10 X10 => ?_
  obtain ⟨rfl, y10⟩ := q10
  refine oA X10 K rfl rfl rfl ?_
  refine oVc X10 K rfl (H 318) (H 319) (notFace_of_selects (args := #[]) (mvT K.wz (H 321))) (H 321) (H 320) (H 322) (H 257) (by decide) (e10.trans y10) (Exa.ext E5 (Y8.keep K4)) (own_m_kind hw (Nat.le_trans Z0 (Nat.le_trans K4.1 E5.1)) (Fld.ext E5 (Y12.keep K4 nin0))) rfl rfl (lenOf own_pd38 rfl) rfl N10 0 rfl (by decide) fun v12 T12 h12 L12 N12 q12 e12 X12 => ?_
  obtain ⟨rfl, y12⟩ := q12
  refine oTc X12 K rfl (H 323) (H 324) (H 325) (H 100) (by decide) (e12.trans y12) (own_kof hw (Nat.le_trans Z0 (Nat.le_trans K4.1 E5.1)) hq (Old.ext (Old.keep hOld K4 all0) E5)) rfl (lenOf own_pd58 rfl) rfl N12 0 rfl (by decide) fun v14 T14 h14 L14 N14 q14 e14 X14 => ?_
  obtain ⟨rfl, y14⟩ := q14
  refine oPop X14 K rfl rfl <| oA X14 K rfl rfl rfl ?_
  refine oVc X14 K rfl (H 313) (H 314) (notFace_of_selects (args := #[]) (mvT K.wz (H 316))) (H 316) (H 315) (H 317) (H 257) (by decide) (e14.trans y14) (Exa.ext E5 (Y8.keep K4)) (own_m_instance hw (Nat.le_trans Z0 (Nat.le_trans K4.1 E5.1)) (Fld.ext E5 (Y11.keep K4 nin0))) rfl rfl (lenOf own_pd11 rfl) rfl N14 0 rfl (by decide) fun v16 T16 h16 L16 N16 q16 e16 X16 => ?_
  obtain ⟨rfl, y16⟩ := q16
  refine oC (z := 1) X16 K rfl rfl <| oSub X16 K rfl rfl <| oSIn (L' := #[.val (.ref a1), .val (.ref m1), .val (.int (p4 - (1 : Int32))), .unset, .unset, .unset]) X16 K rfl rfl <| oA X16 K rfl rfl rfl ?_
  refine oGf X16 K rfl (H 68) (e16.trans y16) (Fld.ext E5 (Y5.keep K4 nin0)) fun T17 X17 e17 => ?_
  refine oI X17 K rfl rfl ?_
  have S45 := (own_Sy.ext (own_Sy.keep hS K4 all0) E5)
  have hil : own_ix p4 < nn.toNatClampNeg := own_ixlt hi1 hi2 hn8
  obtain ⟨ac18, Ar18, qa18, Sa18, Ha18⟩ := S45.ar
  have hat := Ha18 (own_ix p4) hil
  have hinj := own_ixin (m := ac18.slots.size) hi1 (by rw [Sa18]; exact hil)
  rw [if_pos (own_some hW0)] at hat
  obtain ⟨bb, lob, hib, hBb, Brb, ⟨rb1, rb2⟩⟩ := S45.get hil hW0
  rw [hBb] at hat
  change _ = some (Value.ref bb) at hat
  obtain ⟨sd, ec, rd, va, ca, co, kva, kca, kco, ixb, vt, ⟨r1, r2, r3, r4, r5, r6⟩, ⟨z0, z1, z2, z3, z4, z5, z6, z7, z8, z9, z10, z11, z12, z13⟩, ⟨s0, s1, s2, s3, s4⟩, ⟨u0, u1, u2, u3, u4, u5⟩, ⟨t1, t2, t3, t4⟩⟩ := Brb
  have Y29 : n0 <= bb := Nat.le_trans Y7 (Nat.le_trans rb1 r1.1)
  have Y30 : n0 <= rd := Nat.le_trans Y7 (Nat.le_trans rb1 r3.1)
  have Y31 : n0 <= va := Nat.le_trans Y7 (Nat.le_trans rb1 r4.1)
  have Y32 : n0 <= ca := Nat.le_trans Y7 (Nat.le_trans rb1 r5.1)
  have Y33 : n0 <= co := Nat.le_trans Y7 (Nat.le_trans rb1 r6.1)
  have y7 : f19 Z h5 bb (.int 1) := z7
  have y8 : f20 Z h5 bb (.int 1) := z8
  have y9 : f21 Z h5 bb (.int 1) := z9
  have y20 : f40 Z h5 rd (.int 0) := u4
  have y21 : Arv Z h5 va kva (.object "convoke/model/Value") (1 : Int32) [.null] .null := t1
  have y22 : Arv Z h5 ca kca .int 1 [.int 0] (.int 0) := t3
  have y23 : Arh Z h5 co kco .boolean (nn + (1 : Int32)) hs [] (.int 0) := t4
  refine oAL (v := (.ref bb)) X17 K rfl e17 Ar18 rfl hinj hat <| oSAn (L' := #[.val (.ref a1), .val (.ref m1), .val (.int (p4 - (1 : Int32))), .val (.ref bb), .unset, .unset]) X17 K rfl rfl rfl <| oA X17 K rfl rfl rfl <| oMY X17 K rfl <| oA X17 K rfl rfl rfl <| oA X17 K rfl rfl rfl ?_
  refine oUw X17 K hS5 hk5 hEL R5 rfl (H 337) (H 338) (H 339) (H 341) (H 340) (H 342) (H 109) (by decide) e17 z0 (own_hanB hw (Nat.le_trans Z0 (Nat.le_trans K4.1 E5.1)) z0 z1 z2 z3 z4 z5 z6 y7 y8 y9 z10 z11 z12 z13 Y29 s0 s1 s2 s3 u0 u1 u2 u3 y20 u5 y21 t2 y22 y23 Y30 Y31 Y32 Y33 hp1 hp2 hn8 hsf s4 (Exa.ext E5 (Y14.keep K4)) hg hq (Old.ext (Old.keep hOld K4 all0) E5) (Exa.ext E5 (Y8.keep K4)) (Fld.ext E5 (Y12.keep K4 nin0)) (Fld.ext E5 (Y9.keep K4 nin0)) (Fld.ext E5 (Y13.keep K4 nin0))) rfl rfl (lenOf own_pd59 rfl) rfl N16 0 rfl (by decide) fun v24 T24 h24 L24 N24 q24 e24 X24 hS24 K R24 => ?_
  obtain ⟨ar19, ed20, ke21, hh22, rfl, K24, Y34, Y35, Y36, Y37, Y38, Y39, Y40, Y41, Y42, Y43, Y44, Y45, Y46, Y47, Y48, Y49, Y50, Y51, Y52, Y53, Y54, Y55, Y56⟩ := q24
  have Y57 := Nat.le_trans (Nat.le_trans K4.1 E5.1) Y53
  have Y58 := Nat.le_trans (Nat.le_trans K4.1 E5.1) Y54
  refine oSA (L' := #[.val (.ref a1), .val (.ref m1), .val (.int (p4 - (1 : Int32))), .val (.ref bb), .val (.ref ar19), .unset]) X24 K rfl rfl rfl <| oA X24 K rfl rfl rfl ?_
  have z26 := (Nat.le_trans (Nat.le_trans K4.1 E5.1) K24.1)
  refine oVc X24 K rfl (H 526) (H 527) (notFace_of_selects (args := #[]) (mvT K.wz (H 529))) (H 529) (H 528) (H 530) (H 37) (by decide) e24 Y34 (own_btrma1 hw (Nat.le_trans Z0 z26) Y34 Y37) rfl rfl (lenOf own_pd9 rfl) rfl N24 0 rfl (by decide) fun v27 T27 h27 L27 N27 q27 e27 X27 => ?_
  obtain ⟨rfl, y27⟩ := q27
  refine oFN X27 K rfl (XT.i0_eq_f (by decide : ¬ ((1 : Int32) = (0 : Int32)))) <| oA X27 K rfl rfl rfl ?_
  refine oGf X27 K rfl (H 33) (e27.trans y27) ((Fld.ext E5 (Y1.keep K4 nin0)).keep K24 (ninS (Exa.ne ((Exa.ext E5 (Y0.keep K4)).keep K24) Y34 (by decide)) (ninS (Exa.ne (Exa.ext E5 (Y0.keep K4)) u0 (by decide)) (ninS (own_neArh (Exa.ext E5 (Y0.keep K4)) y23 (H 3)) (ninS (Exa.neArv (Exa.ext E5 (Y0.keep K4)) y21 (H 3)) (ninS (Exa.neArv (Exa.ext E5 (Y0.keep K4)) y22 (H 3)) nin0)))))) fun T28 X28 e28 => ?_
  refine oA X28 K rfl rfl rfl ?_
  refine oVc X28 K rfl (H 313) (H 314) (notFace_of_selects (args := #[]) (mvT K.wz (H 316))) (H 316) (H 315) (H 317) (H 257) (by decide) e28 ((Exa.ext E5 (Y8.keep K4)).keep K24) (own_m_instance hw (Nat.le_trans Z0 z26) ((Fld.ext E5 (Y11.keep K4 nin0)).keep K24 (ninS (Exa.ne ((Exa.ext E5 (Y8.keep K4)).keep K24) Y34 (by decide)) (ninS (Exa.ne (Exa.ext E5 (Y8.keep K4)) u0 (by decide)) (ninS (own_neArh (Exa.ext E5 (Y8.keep K4)) y23 (H 256)) (ninS (Exa.neArv (Exa.ext E5 (Y8.keep K4)) y21 (H 256)) (ninS (Exa.neArv (Exa.ext E5 (Y8.keep K4)) y22 (H 256)) nin0))))))) rfl rfl (lenOf own_pd11 rfl) rfl N27 1 rfl (by decide) fun v30 T30 h30 L30 N30 q30 e30 X30 => ?_
  obtain ⟨rfl, y30⟩ := q30
  refine oTc X30 K rfl (H 535) (H 536) (H 538) (H 537) (by decide) (e30.trans y30) (own_ival hw (Nat.le_trans Z0 z26) (own_r8 hi1 hi2 hn8) hq (Old.keep (Old.ext (Old.keep hOld K4 all0) E5) K24 (allS Y29 (allS Y30 (allS Y33 (allS Y31 (allS Y32 all0))))))) rfl (lenOf own_pd60 rfl) rfl N30 1 rfl (by decide) fun v33 T33 h33 L33 N33 q33 e33 X33 => ?_
  obtain ⟨ar31, rfl, K33, Y59, Y60⟩ := q33
  have R34 := own_rk R24 K33 sf0
  refine oA X33 K rfl rfl rfl ?_
  refine oVc X33 K rfl (H 542) (H 482) (notFace_of_selects (args := #[]) (mvT K.wz (H 484))) (H 484) (H 483) (H 485) (H 37) (by decide) e33 (Y34.keep K33) (own_oB1 hw (Nat.le_trans Z0 (Nat.le_trans z26 K33.1)) (Y34.keep K33) (Y39.keep K33 nin0)) rfl rfl (lenOf own_pd26 rfl) rfl N33 2 rfl (by decide) fun v37 T37 h37 L37 N37 q37 e37 X37 => ?_
  obtain ⟨ar35, rfl, K37, Y61, Y62, Y63⟩ := q37
  have R38 := own_rk R34 K37 sf0
  have z40 := (Nat.le_trans (Nat.le_trans z26 K33.1) K37.1)
  refine oVc X37 K rfl (H 543) (H 544) (notFace_of_selects (args := #[]) (mvT K.wz (H 546))) (H 546) (H 545) (H 547) (H 493) (by decide) e37 Y61 (own_o_orElseThrow hw (Nat.le_trans Z0 z40) Y62) rfl rfl (lenOf own_pd27 rfl) rfl N37 2 rfl (by decide) fun v41 T41 h41 L41 N41 q41 e41 X41 => ?_
  obtain ⟨rfl, y41⟩ := q41
  refine oCst X41 K rfl (H 548) (e41.trans y41) (Ins.self ((((Exa.ext E5 (Y14.keep K4)).keep K24).keep K33).keep K37)) fun T42 X42 e42 => ?_
  refine oGc X42 K rfl (H 549) (H 550) (H 551) (H 552) (H 553) (H 554) (H 555) (H 556) (H 557) (H 16) (by decide) (by decide) (by decide) e42 ((((Exa.ext E5 (Y15.keep K4)).keep K24).keep K33).keep K37) (own_tput21 hw (Nat.le_trans Z0 z40) ((((Exa.ext E5 (Y15.keep K4)).keep K24).keep K33).keep K37) ((((Fld.ext E5 (Y16.keep K4 nin0)).keep K24 (ninS (Exa.ne ((Exa.ext E5 (Y15.keep K4)).keep K24) Y34 (by decide)) (ninS (Exa.ne (Exa.ext E5 (Y15.keep K4)) u0 (by decide)) (ninS (own_neArh (Exa.ext E5 (Y15.keep K4)) y23 (H 15)) (ninS (Exa.neArv (Exa.ext E5 (Y15.keep K4)) y21 (H 15)) (ninS (Exa.neArv (Exa.ext E5 (Y15.keep K4)) y22 (H 15)) nin0)))))).keep K33 nin0).keep K37 nin0) ((((Fld.ext E5 (Y17.keep K4 nin0)).keep K24 (ninS (Exa.ne ((Exa.ext E5 (Y15.keep K4)).keep K24) Y34 (by decide)) (ninS (Exa.ne (Exa.ext E5 (Y15.keep K4)) u0 (by decide)) (ninS (own_neArh (Exa.ext E5 (Y15.keep K4)) y23 (H 15)) (ninS (Exa.neArv (Exa.ext E5 (Y15.keep K4)) y21 (H 15)) (ninS (Exa.neArv (Exa.ext E5 (Y15.keep K4)) y22 (H 15)) nin0)))))).keep K33 nin0).keep K37 nin0) ((((Fld.ext E5 (Y18.keep K4 nin0)).keep K24 (ninS (Exa.ne ((Exa.ext E5 (Y15.keep K4)).keep K24) Y34 (by decide)) (ninS (Exa.ne (Exa.ext E5 (Y15.keep K4)) u0 (by decide)) (ninS (own_neArh (Exa.ext E5 (Y15.keep K4)) y23 (H 15)) (ninS (Exa.neArv (Exa.ext E5 (Y15.keep K4)) y21 (H 15)) (ninS (Exa.neArv (Exa.ext E5 (Y15.keep K4)) y22 (H 15)) nin0)))))).keep K33 nin0).keep K37 nin0) ((((Fld.ext E5 (Y19.keep K4 nin0)).keep K24 (ninS (Exa.ne ((Exa.ext E5 (Y15.keep K4)).keep K24) Y34 (by decide)) (ninS (Exa.ne (Exa.ext E5 (Y15.keep K4)) u0 (by decide)) (ninS (own_neArh (Exa.ext E5 (Y15.keep K4)) y23 (H 15)) (ninS (Exa.neArv (Exa.ext E5 (Y15.keep K4)) y21 (H 15)) (ninS (Exa.neArv (Exa.ext E5 (Y15.keep K4)) y22 (H 15)) nin0)))))).keep K33 nin0).keep K37 nin0) Y20 (Exa.ext (Old.keep (Old.keep (Old.keep (Old.ext (Old.keep hOld K4 all0) E5) K24 (allS Y29 (allS Y30 (allS Y33 (allS Y31 (allS Y32 all0)))))) K33 all0) K37 all0).2 Y59) (Fld.ext (Old.keep (Old.keep (Old.keep (Old.ext (Old.keep hOld K4 all0) E5) K24 (allS Y29 (allS Y30 (allS Y33 (allS Y31 (allS Y32 all0)))))) K33 all0) K37 all0).2 Y60) ((((Exa.ext E5 (Y21.keep K4)).keep K24).keep K33).keep K37) ((((Fld.ext E5 (Y22.keep K4 nin0)).keep K24 (ninS (Exa.ne ((Exa.ext E5 (Y21.keep K4)).keep K24) Y34 (by decide)) (ninS (Exa.ne (Exa.ext E5 (Y21.keep K4)) u0 (by decide)) (ninS (own_neArh (Exa.ext E5 (Y21.keep K4)) y23 (H 598)) (ninS (Exa.neArv (Exa.ext E5 (Y21.keep K4)) y21 (H 598)) (ninS (Exa.neArv (Exa.ext E5 (Y21.keep K4)) y22 (H 598)) nin0)))))).keep K33 nin0).keep K37 nin0) ((((Fld.ext E5 (Y23.keep K4 nin0)).keep K24 (ninS (Exa.ne ((Exa.ext E5 (Y21.keep K4)).keep K24) Y34 (by decide)) (ninS (Exa.ne (Exa.ext E5 (Y21.keep K4)) u0 (by decide)) (ninS (own_neArh (Exa.ext E5 (Y21.keep K4)) y23 (H 598)) (ninS (Exa.neArv (Exa.ext E5 (Y21.keep K4)) y21 (H 598)) (ninS (Exa.neArv (Exa.ext E5 (Y21.keep K4)) y22 (H 598)) nin0)))))).keep K33 nin0).keep K37 nin0) ((((Fld.ext E5 (Y24.keep K4 nin0)).keep K24 (ninS (Exa.ne ((Exa.ext E5 (Y21.keep K4)).keep K24) Y34 (by decide)) (ninS (Exa.ne (Exa.ext E5 (Y21.keep K4)) u0 (by decide)) (ninS (own_neArh (Exa.ext E5 (Y21.keep K4)) y23 (H 598)) (ninS (Exa.neArv (Exa.ext E5 (Y21.keep K4)) y21 (H 598)) (ninS (Exa.neArv (Exa.ext E5 (Y21.keep K4)) y22 (H 598)) nin0)))))).keep K33 nin0).keep K37 nin0) ((((Fld.ext E5 (Y25.keep K4 nin0)).keep K24 (ninS (Exa.ne ((Exa.ext E5 (Y21.keep K4)).keep K24) Y34 (by decide)) (ninS (Exa.ne (Exa.ext E5 (Y21.keep K4)) u0 (by decide)) (ninS (own_neArh (Exa.ext E5 (Y21.keep K4)) y23 (H 598)) (ninS (Exa.neArv (Exa.ext E5 (Y21.keep K4)) y21 (H 598)) (ninS (Exa.neArv (Exa.ext E5 (Y21.keep K4)) y22 (H 598)) nin0)))))).keep K33 nin0).keep K37 nin0) ((((Fld.ext E5 (Y26.keep K4 nin0)).keep K24 (ninS (Exa.ne ((Exa.ext E5 (Y21.keep K4)).keep K24) Y34 (by decide)) (ninS (Exa.ne (Exa.ext E5 (Y21.keep K4)) u0 (by decide)) (ninS (own_neArh (Exa.ext E5 (Y21.keep K4)) y23 (H 598)) (ninS (Exa.neArv (Exa.ext E5 (Y21.keep K4)) y21 (H 598)) (ninS (Exa.neArv (Exa.ext E5 (Y21.keep K4)) y22 (H 598)) nin0)))))).keep K33 nin0).keep K37 nin0) ((((Fld.ext E5 (Y27.keep K4 nin0)).keep K24 (ninS (Exa.ne ((Exa.ext E5 (Y21.keep K4)).keep K24) Y34 (by decide)) (ninS (Exa.ne (Exa.ext E5 (Y21.keep K4)) u0 (by decide)) (ninS (own_neArh (Exa.ext E5 (Y21.keep K4)) y23 (H 598)) (ninS (Exa.neArv (Exa.ext E5 (Y21.keep K4)) y21 (H 598)) (ninS (Exa.neArv (Exa.ext E5 (Y21.keep K4)) y22 (H 598)) nin0)))))).keep K33 nin0).keep K37 nin0) Y28 (Exa.ext (Old.keep (Old.keep (Old.keep (Old.ext (Old.keep hOld K4 all0) E5) K24 (allS Y29 (allS Y30 (allS Y33 (allS Y31 (allS Y32 all0)))))) K33 all0) K37 all0).2 hKe) (Fld.ext (Old.keep (Old.keep (Old.keep (Old.ext (Old.keep hOld K4 all0) E5) K24 (allS Y29 (allS Y30 (allS Y33 (allS Y31 (allS Y32 all0)))))) K33 all0) K37 all0).2 hKf) hne) rfl rfl (lenOf own_pd61 rfl) rfl N41 0 rfl (by decide) fun v44 T44 h44 L44 N44 q44 e44 X44 => ?_
  obtain ⟨rfl, K44, Y64, Y65⟩ := q44
  have R45 := own_rk R38 K44 (sfS (oSx K.wz ((((Exa.ext E5 (Y15.keep K4)).keep K24).keep K33).keep K37) (by decide)) (sfS (oSx K.wz ((((Exa.ext E5 (Y21.keep K4)).keep K24).keep K33).keep K37) (by decide)) sf0))
  refine oPop X44 K rfl rfl <| oA X44 K rfl rfl rfl ?_
  refine oGf X44 K rfl (H 68) e44 (((((Fld.ext E5 (Y5.keep K4 nin0)).keep K24 (ninS (Exa.ne ((Exa.ext E5 (Y0.keep K4)).keep K24) Y34 (by decide)) (ninS (Exa.ne (Exa.ext E5 (Y0.keep K4)) u0 (by decide)) (ninS (own_neArh (Exa.ext E5 (Y0.keep K4)) y23 (H 3)) (ninS (Exa.neArv (Exa.ext E5 (Y0.keep K4)) y21 (H 3)) (ninS (Exa.neArv (Exa.ext E5 (Y0.keep K4)) y22 (H 3)) nin0)))))).keep K33 nin0).keep K37 nin0).keep K44 (ninS (Exa.ne Y0 Y15 (by decide)) (ninS (Exa.ne Y0 Y21 (by decide)) nin0))) fun T46 X46 e46 => ?_
  refine oI X46 K rfl rfl <| oN X46 K rfl ?_
  have An47 := (own_arK (own_arK (own_arK (own_arK Ar18 K24 (ninS (oNe hS.al (Nat.le_trans rb1 r1.1)) (ninS (oNe hS.al (Nat.le_trans rb1 r3.1)) (ninS (oNe hS.al (Nat.le_trans rb1 r6.1)) (ninS (oNe hS.al (Nat.le_trans rb1 r4.1)) (ninS (oNe hS.al (Nat.le_trans rb1 r5.1)) nin0)))))) K33 nin0) K37 nin0) K44 (ninS (Ne.symm hnt) (ninS (oNe (Nat.lt_of_lt_of_le hS.al hS.lh) hoen) nin0)))
  have Kk47 := (((((Keep.refl _ [bb, rd, co, va, ca, tm, en]).trans K24 (allS (oM 0 rfl) (allS (oM 1 rfl) (allS (oM 2 rfl) (allS (oM 3 rfl) (allS (oM 4 rfl) all0)))))).trans K33 all0).trans K37 all0).trans K44 (allS (oM 5 rfl) (allS (oM 6 rfl) all0)))
  obtain ⟨T48, h48, X48, e48, W48, st48⟩ := stR X46 K.1 K.wz e46 An47 (j := (p4 - (1 : Int32))) hinj rfl (Or.inl rfl) (g := (mkF m 102 #[.val (.ref a1), .val (.ref m1), .val (.int (p4 - (1 : Int32))), .val (.ref bb), .val (.ref ar19), .unset] [.null, (.int (p4 - (1 : Int32))), (.ref arr)])) rfl rfl (K.d rfl)
  refine own_fs (st48 _ (Steps.refl _)) ?_
  have Sk := own_Sy.kill S45 hil hBb Kk47 (allS (P := fun y : Nat => (y < lo0 /\ y ≠ arr) ∨ hi0 <= y ∨ (lob <= y /\ y < hib)) (Or.inr (Or.inr ⟨r1.1, r1.2⟩)) (allS (P := fun y : Nat => (y < lo0 /\ y ≠ arr) ∨ hi0 <= y ∨ (lob <= y /\ y < hib)) (Or.inr (Or.inr ⟨r3.1, r3.2⟩)) (allS (P := fun y : Nat => (y < lo0 /\ y ≠ arr) ∨ hi0 <= y ∨ (lob <= y /\ y < hib)) (Or.inr (Or.inr ⟨r6.1, r6.2⟩)) (allS (P := fun y : Nat => (y < lo0 /\ y ≠ arr) ∨ hi0 <= y ∨ (lob <= y /\ y < hib)) (Or.inr (Or.inr ⟨r4.1, r4.2⟩)) (allS (P := fun y : Nat => (y < lo0 /\ y ≠ arr) ∨ hi0 <= y ∨ (lob <= y /\ y < hib)) (Or.inr (Or.inr ⟨r5.1, r5.2⟩)) (allS (P := fun y : Nat => (y < lo0 /\ y ≠ arr) ∨ hi0 <= y ∨ (lob <= y /\ y < hib)) (Or.inl ⟨hltm, hnt⟩) (allS (P := fun y : Nat => (y < lo0 /\ y ≠ arr) ∨ hi0 <= y ∨ (lob <= y /\ y < hib)) (Or.inr (Or.inl hoen)) all0))))))) W48
  have R49 := own_rw R45 W48 (Safe.arr (vm := T24.vm) K.wz.alike An47 (by decide))
  have N48 := Fr.snoc X48 N44 Y6
  show own_G _ _ _ _ (T48.setTop (mkF m 103 #[.val (.ref a1), .val (.ref m1), .val (.int (p4 - (1 : Int32))), .val (.ref bb), .val (.ref ar19), .unset] []))
  by_cases hc103 : (2 : Int32) = nd
  · refine oA X48 K rfl rfl rfl ?_
    have z51 := (Nat.le_trans (Nat.le_trans z40 K44.1) (Keep.of_wr W48).1)
    refine oVc X48 K rfl (H 613) (H 614) (notFace_of_selects (args := #[]) (mvT K.wz (H 616))) (H 616) (H 615) (H 617) (H 4) (by decide) e48 (Exa.wr W48 (((((Exa.ext E5 (Y0.keep K4)).keep K24).keep K33).keep K37).keep K44)) (own_trm1 hw (Nat.le_trans Z0 z51) (oFn W48 (((((Fld.ext E5 (Y1.keep K4 nin0)).keep K24 (ninS (Exa.ne ((Exa.ext E5 (Y0.keep K4)).keep K24) Y34 (by decide)) (ninS (Exa.ne (Exa.ext E5 (Y0.keep K4)) u0 (by decide)) (ninS (own_neArh (Exa.ext E5 (Y0.keep K4)) y23 (H 3)) (ninS (Exa.neArv (Exa.ext E5 (Y0.keep K4)) y21 (H 3)) (ninS (Exa.neArv (Exa.ext E5 (Y0.keep K4)) y22 (H 3)) nin0)))))).keep K33 nin0).keep K37 nin0).keep K44 (ninS (Exa.ne Y0 Y15 (by decide)) (ninS (Exa.ne Y0 Y21 (by decide)) nin0))) hna1) (oFn W48 (((((Fld.ext E5 (Y4.keep K4 nin0)).keep K24 (ninS (Exa.ne ((Exa.ext E5 (Y0.keep K4)).keep K24) Y34 (by decide)) (ninS (Exa.ne (Exa.ext E5 (Y0.keep K4)) u0 (by decide)) (ninS (own_neArh (Exa.ext E5 (Y0.keep K4)) y23 (H 3)) (ninS (Exa.neArv (Exa.ext E5 (Y0.keep K4)) y21 (H 3)) (ninS (Exa.neArv (Exa.ext E5 (Y0.keep K4)) y22 (H 3)) nin0)))))).keep K33 nin0).keep K37 nin0).keep K44 (ninS (Exa.ne Y0 Y15 (by decide)) (ninS (Exa.ne Y0 Y21 (by decide)) nin0))) hna1) (Exa.wr W48 Y64) (oFn W48 Y65 (Ne.symm (Ne.symm hnt))) hc103) rfl rfl (lenOf own_pd9 rfl) rfl N48 0 rfl (by decide) fun v52 T52 h52 L52 N52 q52 e52 X52 => ?_
    obtain ⟨rfl, y52⟩ := q52
    refine oFN X52 K rfl (XT.i0_eq_f (by decide : ¬ ((1 : Int32) = (0 : Int32)))) ?_
    refine oNew X52 K rfl (H 626) (H 424) (H 425) (e52.trans y52) z51 (by decide) fun T53 h53 b53 g53 Y66 X53 e53 E53 A53 D53 => ?_
    have R54 := own_re R49 E53
    refine oDup X53 K rfl rfl <| oB X53 K rfl rfl rfl ?_
    refine oNc X53 K rfl (H 627) (H 628) (H 629) (H 425) (by decide) rfl e53 (own_i_ALc hw (Nat.le_trans Z0 (Nat.le_trans z51 E53.1)) A53 (D53 (Or.inl (H 443)) (ty := .int) (by decide)) (D53 (Or.inl (H 447)) (ty := (.array (.object "java/lang/Object"))) (by decide)) (D53 (Or.inl (H 462)) (ty := .int) (by decide)) (Nat.le_trans Z0 Y66) (Exa.ext E53 (Exa.wr W48 (((Y48.keep K33).keep K37).keep K44))) (Fld.ext E53 (oFn W48 (((Y49.keep K33 nin0).keep K37 nin0).keep K44 (ninS (Ne.symm (oNe (Exa.lt Y15) Y57)) (ninS (Ne.symm (oNe (Exa.lt Y21) Y57)) nin0))) (Ne.symm (oNe (Nat.lt_of_lt_of_le hS.al hS.lh) (Nat.le_trans hS.lz Y57))))) (Fld.ext E53 (oFn W48 (((Y50.keep K33 nin0).keep K37 nin0).keep K44 (ninS (Ne.symm (oNe (Exa.lt Y15) Y57)) (ninS (Ne.symm (oNe (Exa.lt Y21) Y57)) nin0))) (Ne.symm (oNe (Nat.lt_of_lt_of_le hS.al hS.lh) (Nat.le_trans hS.lz Y57))))) (((((Y51.keep K33 nin0).keep K37 nin0).keep K44 (ninS (Ne.symm (oNe (Exa.lt Y15) Y58)) (ninS (Ne.symm (oNe (Exa.lt Y21) Y58)) nin0))).other W48 (Ne.symm (oNe (Nat.lt_of_lt_of_le hS.al hS.lh) (Nat.le_trans hS.lz Y58)))).ext E53) (Exa.ext E53 (Exa.wr W48 (((Y55.keep K33).keep K37).keep K44))) (own_Els.ext (own_Els.wr (own_Els.keep (own_Els.keep (own_Els.keep Y56 K33) K37) K44) W48) E53) hn8 hq (Old.ext (Old.wr (Old.keep (Old.keep (Old.keep (Old.keep (Old.ext (Old.keep hOld K4 all0) E5) K24 (allS Y29 (allS Y30 (allS Y33 (allS Y31 (allS Y32 all0)))))) K33 all0) K37 all0) K44 (allS Y20 (allS Y28 all0))) W48 Y6) E53) (Ne.symm (oNe (Exa.lt (Exa.wr W48 (((Y48.keep K33).keep K37).keep K44))) (Nat.le_of_eq g53.symm)))) rfl rfl (lenOf own_pd62 rfl) rfl N52 1 rfl (by decide) fun v57 T57 h57 L57 N57 q57 e57 X57 => ?_
    obtain ⟨e255, rfl, K57, Y67, Y68, Y69, Y70⟩ := q57
    have R58 := own_rk R54 K57 (sfS (oSx K.wz A53 (by decide)) sf0)
    refine oSA (L' := #[.val (.ref a1), .val (.ref m1), .val (.int (p4 - (1 : Int32))), .val (.ref bb), .val (.ref ar19), .val (.ref b53)]) X57 K rfl rfl rfl <| oB X57 K rfl rfl rfl <| oA X57 K rfl rfl rfl ?_
    have Sq0 := own_Sy.none (own_Sy.keep (own_Sy.ext Sk E53) K57 (allS (P := fun y : Nat => (y < lo0 /\ y ≠ arr) ∨ hi0 <= y) (Or.inr (Nat.le_trans hS.lz Y66)) all0)) (own_upn (hq1 hc103))
    have z61 := (Nat.le_trans (Nat.le_trans z51 E53.1) K57.1)
    refine oVw X57 K hS24 (Nat.le_trans (Nat.le_trans (Nat.le_trans (Nat.le_trans (Nat.le_trans (Nat.le_trans (Nat.le_refl _) K33.1) K37.1) K44.1) (Keep.of_wr W48).1) E53.1) K57.1) hEL R58 rfl (H 669) (H 670) (notFace_of_selects (args := #[]) (mvT K.wz (H 672))) (H 672) (H 671) (H 673) (H 4) (by decide) e57 ((Exa.ext E53 (Exa.wr W48 (((((Exa.ext E5 (Y0.keep K4)).keep K24).keep K33).keep K37).keep K44))).keep K57) (own_quit0 hw (Nat.le_trans Z0 z61) (nn := nn) (tt := (0 : Int32)) (sf := sf) (ka := ka) (lo0 := lo0) (hi0 := hi0) (B := B) ((Exa.ext E53 (Exa.wr W48 (((((Exa.ext E5 (Y0.keep K4)).keep K24).keep K33).keep K37).keep K44))).keep K57) ((Fld.ext E53 (oFn W48 (((((Fld.ext E5 (Y5.keep K4 nin0)).keep K24 (ninS (Exa.ne ((Exa.ext E5 (Y0.keep K4)).keep K24) Y34 (by decide)) (ninS (Exa.ne (Exa.ext E5 (Y0.keep K4)) u0 (by decide)) (ninS (own_neArh (Exa.ext E5 (Y0.keep K4)) y23 (H 3)) (ninS (Exa.neArv (Exa.ext E5 (Y0.keep K4)) y21 (H 3)) (ninS (Exa.neArv (Exa.ext E5 (Y0.keep K4)) y22 (H 3)) nin0)))))).keep K33 nin0).keep K37 nin0).keep K44 (ninS (Exa.ne Y0 Y15 (by decide)) (ninS (Exa.ne Y0 Y21 (by decide)) nin0))) hna1)).keep K57 (ninS (oNe (Exa.lt Y0) Y66) nin0)) Sq0 hn8 hla1 hna1 Y6 Y7 hq (Old.keep (Old.ext (Old.wr (Old.keep (Old.keep (Old.keep (Old.keep (Old.ext (Old.keep hOld K4 all0) E5) K24 (allS Y29 (allS Y30 (allS Y33 (allS Y31 (allS Y32 all0)))))) K33 all0) K37 all0) K44 (allS Y20 (allS Y28 all0))) W48 Y6) E53) K57 (allS (Nat.le_trans Z0 Y66) all0))) rfl rfl (lenOf own_pd33 rfl) rfl N57 1 rfl (by decide) fun v62 T62 h62 L62 N62 q62 e62 X62 hS62 K R62 => ?_
    obtain ⟨ar59, rfl, K62, Y71, Y72, Y73, Y74, Y75⟩ := q62
    refine oFc X62 K rfl (H 678) (H 679) (mvT K.wz (H 680)) (H 681) (H 682) (H 683) (H 684) (H 457) (H 685) (H 425) (by decide) e62 (Y67.keep K62) (own_adda0 hw (Nat.le_trans Z0 (Nat.le_trans z61 K62.1)) (Y67.keep K62) (Y68.keep K62 nin0) (Y69.keep K62 nin0) (Y70.keep K62 nin0) (Nat.le_trans Z0 Y66) Y72 Y73 Y74 hq (Old.keep (Old.keep (Old.ext (Old.wr (Old.keep (Old.keep (Old.keep (Old.keep (Old.ext (Old.keep hOld K4 all0) E5) K24 (allS Y29 (allS Y30 (allS Y33 (allS Y31 (allS Y32 all0)))))) K33 all0) K37 all0) K44 (allS Y20 (allS Y28 all0))) W48 Y6) E53) K57 (allS (Nat.le_trans Z0 Y66) all0)) K62 all0)) rfl rfl (lenOf own_pd54 rfl) rfl N62 0 rfl (by decide) fun v64 T64 h64 L64 N64 q64 e64 X64 => ?_
    obtain ⟨rfl, K64, Y76, Y77, Y78, Y79⟩ := q64
    have R65 := own_rk R62 K64 (sfS (oSx K.wz (Y67.keep K62) (by decide)) sf0)
    refine oPop X64 K rfl rfl <| oB X64 K rfl rfl rfl ?_
    exact oRaw X64 K rfl rfl rfl e64 N64 (by decide) hh hEL hS62 (Nat.le_trans (Nat.le_refl _) K64.1) R65 ⟨b53, rfl, ((((((((((((Keep.refl _ _).trans K4 all0).ext E5).trans K24 (allS (Or.inl (own_inW ⟨Nat.le_trans rb1 r1.1, Nat.lt_of_lt_of_le r1.2 rb2⟩)) (allS (Or.inl (own_inW ⟨Nat.le_trans rb1 r3.1, Nat.lt_of_lt_of_le r3.2 rb2⟩)) (allS (Or.inl (own_inW ⟨Nat.le_trans rb1 r6.1, Nat.lt_of_lt_of_le r6.2 rb2⟩)) (allS (Or.inl (own_inW ⟨Nat.le_trans rb1 r4.1, Nat.lt_of_lt_of_le r4.2 rb2⟩)) (allS (Or.inl (own_inW ⟨Nat.le_trans rb1 r5.1, Nat.lt_of_lt_of_le r5.2 rb2⟩)) all0)))))).trans K33 all0).trans K37 all0).trans K44 (allS (Or.inl (own_inW2 (List.mem_of_getElem? (i := 0) rfl))) (allS (Or.inl (own_inW2 (List.mem_of_getElem? (i := 2) rfl))) all0))).wr W48 (Or.inl (own_inW2 (List.mem_of_getElem? (i := 1) rfl)))).ext E53).trans K57 (allS (Or.inr Y66) all0)).trans K62 all0).trans K64 (allS (Or.inr Y66) all0)), (by rw [own_Wy hc103]; exact (own_Sy.keep Y71 K64 (allS (P := fun y : Nat => (y < lo0 /\ y ≠ arr) ∨ hi0 <= y) (Or.inr (Nat.le_trans hS.lz Y66)) all0))), ((((Exa.ext E53 (Exa.wr W48 Y64)).keep K57).keep K62).keep K64)⟩
  · refine oA X48 K rfl rfl rfl ?_
    have z67 := (Nat.le_trans (Nat.le_trans z40 K44.1) (Keep.of_wr W48).1)
    refine oVc X48 K rfl (H 613) (H 614) (notFace_of_selects (args := #[]) (mvT K.wz (H 616))) (H 616) (H 615) (H 617) (H 4) (by decide) e48 (Exa.wr W48 (((((Exa.ext E5 (Y0.keep K4)).keep K24).keep K33).keep K37).keep K44)) (own_trm0 hw (Nat.le_trans Z0 z67) (oFn W48 (((((Fld.ext E5 (Y1.keep K4 nin0)).keep K24 (ninS (Exa.ne ((Exa.ext E5 (Y0.keep K4)).keep K24) Y34 (by decide)) (ninS (Exa.ne (Exa.ext E5 (Y0.keep K4)) u0 (by decide)) (ninS (own_neArh (Exa.ext E5 (Y0.keep K4)) y23 (H 3)) (ninS (Exa.neArv (Exa.ext E5 (Y0.keep K4)) y21 (H 3)) (ninS (Exa.neArv (Exa.ext E5 (Y0.keep K4)) y22 (H 3)) nin0)))))).keep K33 nin0).keep K37 nin0).keep K44 (ninS (Exa.ne Y0 Y15 (by decide)) (ninS (Exa.ne Y0 Y21 (by decide)) nin0))) hna1) (oFn W48 (((((Fld.ext E5 (Y4.keep K4 nin0)).keep K24 (ninS (Exa.ne ((Exa.ext E5 (Y0.keep K4)).keep K24) Y34 (by decide)) (ninS (Exa.ne (Exa.ext E5 (Y0.keep K4)) u0 (by decide)) (ninS (own_neArh (Exa.ext E5 (Y0.keep K4)) y23 (H 3)) (ninS (Exa.neArv (Exa.ext E5 (Y0.keep K4)) y21 (H 3)) (ninS (Exa.neArv (Exa.ext E5 (Y0.keep K4)) y22 (H 3)) nin0)))))).keep K33 nin0).keep K37 nin0).keep K44 (ninS (Exa.ne Y0 Y15 (by decide)) (ninS (Exa.ne Y0 Y21 (by decide)) nin0))) hna1) (Exa.wr W48 Y64) (oFn W48 Y65 (Ne.symm (Ne.symm hnt))) hc103) rfl rfl (lenOf own_pd9 rfl) rfl N48 0 rfl (by decide) fun v68 T68 h68 L68 N68 q68 e68 X68 => ?_
    obtain ⟨rfl, y68⟩ := q68
    refine oFY X68 K rfl (XT.i0_eq_t (by decide : (0 : Int32) = (0 : Int32))) <| oB X68 K rfl rfl rfl ?_
    exact oRaw X68 K rfl rfl rfl (e68.trans y68) N68 (by decide) hh hEL hS24 (Nat.le_trans (Nat.le_trans (Nat.le_trans (Nat.le_trans (Nat.le_refl _) K33.1) K37.1) K44.1) (Keep.of_wr W48).1) R49 ⟨ar19, rfl, ((((((((Keep.refl _ _).trans K4 all0).ext E5).trans K24 (allS (Or.inl (own_inW ⟨Nat.le_trans rb1 r1.1, Nat.lt_of_lt_of_le r1.2 rb2⟩)) (allS (Or.inl (own_inW ⟨Nat.le_trans rb1 r3.1, Nat.lt_of_lt_of_le r3.2 rb2⟩)) (allS (Or.inl (own_inW ⟨Nat.le_trans rb1 r6.1, Nat.lt_of_lt_of_le r6.2 rb2⟩)) (allS (Or.inl (own_inW ⟨Nat.le_trans rb1 r4.1, Nat.lt_of_lt_of_le r4.2 rb2⟩)) (allS (Or.inl (own_inW ⟨Nat.le_trans rb1 r5.1, Nat.lt_of_lt_of_le r5.2 rb2⟩)) all0)))))).trans K33 all0).trans K37 all0).trans K44 (allS (Or.inl (own_inW2 (List.mem_of_getElem? (i := 0) rfl))) (allS (Or.inl (own_inW2 (List.mem_of_getElem? (i := 2) rfl))) all0))).wr W48 (Or.inl (own_inW2 (List.mem_of_getElem? (i := 1) rfl)))), (by rw [own_Wx hc103]; exact Sk), (Exa.wr W48 Y64)⟩
def own_W0 : Nat -> Option (Option own_S) := fun _ => some (some own_s0)
theorem own_lawn (x : Int32) : 1 <= ((1 : Int32) + (x &&& (7 : Int32))).toInt /\ ((1 : Int32) + (x &&& (7 : Int32))).toInt <= 8 := by
  have h : (x &&& 7).toInt = x.toInt % 8 := c_mask x 7 3 (by decide) (by decide)
  have c := c_iadd 1 (x &&& 7)
  have r := rng32 (1 + (x &&& 7))
  rw [show (1 : Int32).toInt = 1 from by decide] at c
  omega
theorem own_msk (x : Int32) : 0 <= (x &&& (2147483647 : Int32)).toInt := by
  have h : (x &&& 2147483647).toInt = x.toInt % 2147483648 := c_mask x 2147483647 31 (by decide) (by decide)
  omega
theorem own_msk16 (x : Int32) : 0 <= (x &&& (65535 : Int32)).toInt := by
  have h : (x &&& 65535).toInt = x.toInt % 65536 := c_mask x 65535 16 (by decide) (by decide)
  omega
theorem own_ush (x : Int32) : 0 <= ((x.toUInt32 >>> ((16 : Int32) &&& 31).toUInt32).toInt32).toInt := by
  have h : ((x.toUInt32 >>> ((16 : Int32) &&& 31).toUInt32).toInt32).toInt = (x.toInt % 4294967296) / 65536 := c_iushr x 16 16 (by decide) (by decide)
  omega
theorem own_lawi {y n : Int32} (h0 : 0 <= y.toInt) (h8 : 1 <= n.toInt /\ n.toInt <= 8) : ¬ (((1 : Int32) + (y % n)) < (1 : Int32)) /\ ¬ (n < ((1 : Int32) + (y % n))) := by
  have q := (c_iremV y n).1 h0 (by omega)
  have c := c_iadd 1 (y % n)
  have r := rng32 (1 + (y % n))
  rw [show (1 : Int32).toInt = 1 from by decide] at c
  rw [Int32.lt_iff_toInt_lt, Int32.lt_iff_toInt_lt, show (1 : Int32).toInt = 1 from by decide]
  omega
theorem own_lawd {n : Int32} (h8 : 1 <= n.toInt /\ n.toInt <= 8) : (((n - (1 : Int32)) / (3 : Int32)) + (1 : Int32)).toInt = (n.toInt - 1) / 3 + 1 := by
  have c := c_isub n 1
  have r := rng32 (n - 1)
  rw [show (1 : Int32).toInt = 1 from by decide] at c
  have e : (n - 1).toInt = n.toInt - 1 := by omega
  have d := (c_idiv (n - 1) 3 3 (by decide) (by decide)).1 (by omega)
  have c2 := c_iadd ((n - 1) / 3) 1
  have r2 := rng32 ((n - 1) / 3 + 1)
  rw [show (1 : Int32).toInt = 1 from by decide] at c2
  omega
theorem own_lawd0 {n : Int32} (h8 : 1 <= n.toInt /\ n.toInt <= 8) : ¬ (((n - (1 : Int32)) / (3 : Int32)) + (1 : Int32)) = 0 := fun q => by
  have e := own_lawd h8
  rw [q, show (0 : Int32).toInt = 0 from by decide] at e
  omega
theorem own_lawt {y n : Int32} (h0 : 0 <= y.toInt) (h8 : 1 <= n.toInt /\ n.toInt <= 8) : (0 <= (y % (((n - (1 : Int32)) / (3 : Int32)) + (1 : Int32))).toInt /\ 3 * (y % (((n - (1 : Int32)) / (3 : Int32)) + (1 : Int32))).toInt < n.toInt) := by
  have e := own_lawd h8
  have q := (c_iremV y (((n - (1 : Int32)) / (3 : Int32)) + (1 : Int32))).1 h0 (by omega)
  omega
theorem own_tz0 {t n : Int32} (h : 0 <= t.toInt /\ 3 * t.toInt < n.toInt) : ¬ (t < (0 : Int32)) := by
  rw [Int32.lt_iff_toInt_lt, show (0 : Int32).toInt = 0 from by decide]; omega
theorem own_tz3 {t n : Int32} (h8 : 1 <= n.toInt /\ n.toInt <= 8) (h : 0 <= t.toInt /\ 3 * t.toInt < n.toInt) : ((3 : Int64) * (t.toInt64)) < (n.toInt64) := by
  have c := c_lmul 3 t.toInt64
  have r := rng64 (3 * t.toInt64)
  rw [Int64.lt_iff_toInt_lt]
  rw [c_i2l, show (3 : Int64).toInt = 3 from by decide] at c
  rw [c_i2l]
  omega
theorem own_tv (t : Int32) (h : 0 <= t.toInt /\ t.toInt <= 2) : (t + (1 : Int32)).toInt = t.toInt + 1 /\ (((2 : Int32) * t) + (1 : Int32)).toInt = 2 * t.toInt + 1 := by
  have c := c_iadd t 1
  have r := rng32 (t + 1)
  have c2 := c_imul 2 t
  have r2 := rng32 (2 * t)
  have c3 := c_iadd (2 * t) 1
  have r3 := rng32 (2 * t + 1)
  rw [show (1 : Int32).toInt = 1 from by decide] at c c3
  rw [show (2 : Int32).toInt = 2 from by decide] at c2
  omega
theorem own_tA {t n : Int32} (h8 : 1 <= n.toInt /\ n.toInt <= 8) (h : 0 <= t.toInt /\ 3 * t.toInt < n.toInt) (hz : ¬ t = (0 : Int32)) : (1 : Int32) < (t + (1 : Int32)) /\ (1 : Int32) < (((2 : Int32) * t) + (1 : Int32)) := by
  have e := own_tv t (by omega)
  have : t.toInt ≠ 0 := fun q => hz (Int32.toInt_inj.mp (by rw [q]; decide))
  rw [Int32.lt_iff_toInt_lt, Int32.lt_iff_toInt_lt, show (1 : Int32).toInt = 1 from by decide]; omega
theorem own_tD {t n : Int32} (h8 : 1 <= n.toInt /\ n.toInt <= 8) (h : 0 <= t.toInt /\ 3 * t.toInt < n.toInt) (hz : ¬ t = (0 : Int32)) : (2 : Int32) < (((2 : Int32) * t) + (1 : Int32)) := by
  have e := own_tv t (by omega)
  have : t.toInt ≠ 0 := fun q => hz (Int32.toInt_inj.mp (by rw [q]; decide))
  rw [Int32.lt_iff_toInt_lt, show (2 : Int32).toInt = 2 from by decide]; omega
theorem own_nq {t n k : Int32} (ht : t = (0 : Int32)) (hn : n = k) : k = (n - t) := by subst ht; subst hn; exact (Int32.sub_zero n).symm
theorem own_nqn {t n k : Int32} (ht : t = (0 : Int32)) (hn : ¬ n = k) : ¬ (k = (n - t)) := by subst ht; rw [Int32.sub_zero]; exact fun q => hn q.symm
theorem own_upeq {W : Nat -> Option (Option own_S)} {i j : Nat} {x : Option (Option own_S)} (e : i = j) : own_up W j x i = x := by simp [own_up, e]
theorem own_upne {W : Nat -> Option (Option own_S)} {i j : Nat} {x : Option (Option own_S)} (e : i ≠ j) : own_up W j x i = W i := by simp [own_up, e]
theorem own_g0 (k : Nat) : getH [] [] (.int (0 : Int32)) k = .int (0 : Int32) := by simp [getH]
theorem own_ctW0 {n : Int32} (h8 : 1 <= n.toInt /\ n.toInt <= 8) : own_ct own_W0 n.toNatClampNeg = n := own_ct_all h8
theorem own_m2 (n : Int32) : n - (1 : Int32) - (1 : Int32) = n - (2 : Int32) := by
  have c1 := c_isub n 1
  have c2 := c_isub (n - 1) 1
  have c3 := c_isub n 2
  have r1 := rng32 (n - 1 - 1)
  have r2 := rng32 (n - 2)
  rw [show (1 : Int32).toInt = 1 from by decide] at c1 c2
  rw [show (2 : Int32).toInt = 2 from by decide] at c3
  exact Int32.toInt_inj.mp (by omega)
theorem own_pge {p : Int32} (h1 : ¬ p < (1 : Int32)) : ¬ p < (0 : Int32) := by
  rw [Int32.lt_iff_toInt_lt] at *
  rw [show (1 : Int32).toInt = 1 from by decide] at h1
  rw [show (0 : Int32).toInt = 0 from by decide]; omega
theorem own_one {n a b : Int32} (hn : n = (1 : Int32)) (a1 : ¬ a < (1 : Int32)) (a2 : ¬ n < a) (b1 : ¬ b < (1 : Int32)) (b2 : ¬ n < b) : b = a := by
  subst hn
  rw [Int32.lt_iff_toInt_lt] at *
  exact Int32.toInt_inj.mp (by omega)
theorem own_q1 {t n : Int32} {i : Nat} {W : Nat -> Option (Option own_S)} (ht : t = (0 : Int32)) (h1 : i < n.toNatClampNeg) (e : (1 : Int32) = (n - t)) : ∀ k, k < n.toNatClampNeg -> k ≠ i -> W k = none := fun k hk ne => by
  subst ht; rw [Int32.sub_zero] at e; subst e
  have : (1 : Int32).toNatClampNeg = 1 := rfl
  omega
theorem own_q2 {t n : Int32} {i j : Nat} {W : Nat -> Option (Option own_S)} (ht : t = (0 : Int32)) (h1 : i < n.toNatClampNeg) (h2 : j < n.toNatClampNeg) (ne : j ≠ i) (e : (2 : Int32) = (n - t)) : ∀ k, k < n.toNatClampNeg -> k ≠ j -> own_up W i none k = none := fun k hk ne' => by
  subst ht; rw [Int32.sub_zero] at e; subst e
  have : (2 : Int32).toNatClampNeg = 2 := rfl
  obtain rfl : k = i := by omega
  simp [own_up]

theorem own_law (hw : own_HW a0 Z) {x0 x1 x2 x3 x4 x5 : Int32} {q : own_P0} (Z0 : n0 <= h0.size) (hq : own_Env Z q) (hOld : Old Z n0 h0) : own_MW own_EL l x code maxLocals ret room_1 ws Z h0 n0 #[(.int x0), (.int x1), (.int x2), (.int x3), (.int x4), (.int x5)] (fun v h => v = some (.int 1)) := by
  refine own_begW (plainFor_of_name own_pn29) own_t0 #[.val (.int x0), .val (.int x1), .val (.int x2), .val (.int x3), .val (.int x4), .val (.int x5), .unset, .unset, .unset, .unset, .unset, .unset, .unset, .unset, .unset, .unset, .unset, .unset, .unset, .unset, .unset, .unset, .unset] (own_e6_23 · ⟨rfl, rfl, rfl, rfl, rfl, rfl⟩) fun p e s m below meth c sa K X0 e0 hh hS0 R0 => ?_
  have N0 := Fr.nil n0
  have H := oh hw
  have hEL := own_ew hw
  refine oC (z := 1) X0 K rfl rfl <| oI X0 K rfl rfl ?_
  refine own_fs (XS.bipush X0.here K.1 rfl (K.d rfl) (Steps.refl _)) ?_
  show own_G _ _ _ _ (sa.setTop (mkF m 4 #[.val (.int x0), .val (.int x1), .val (.int x2), .val (.int x3), .val (.int x4), .val (.int x5), .unset, .unset, .unset, .unset, .unset, .unset, .unset, .unset, .unset, .unset, .unset, .unset, .unset, .unset, .unset, .unset, .unset] [(.int 7), (.int x0), (.int 1)]))
  refine own_fs (XS.iand X0.here K.1 rfl (K.d rfl) rfl (Steps.refl _)) ?_
  show own_G _ _ _ _ (sa.setTop (mkF m 5 #[.val (.int x0), .val (.int x1), .val (.int x2), .val (.int x3), .val (.int x4), .val (.int x5), .unset, .unset, .unset, .unset, .unset, .unset, .unset, .unset, .unset, .unset, .unset, .unset, .unset, .unset, .unset, .unset, .unset] [(.int (x0 &&& (7 : Int32))), (.int 1)]))
  refine oAdd X0 K rfl rfl <| oSI (L' := #[.val (.int x0), .val (.int x1), .val (.int x2), .val (.int x3), .val (.int x4), .val (.int x5), .val (.int ((1 : Int32) + (x0 &&& (7 : Int32)))), .unset, .unset, .unset, .unset, .unset, .unset, .unset, .unset, .unset, .unset, .unset, .unset, .unset, .unset, .unset, .unset]) X0 K rfl rfl ?_
  have hr_nn := own_lawn x0
  show own_G _ _ _ _ (sa.setTop (mkF m 8 #[.val (.int x0), .val (.int x1), .val (.int x2), .val (.int x3), .val (.int x4), .val (.int x5), .val (.int ((1 : Int32) + (x0 &&& (7 : Int32)))), .unset, .unset, .unset, .unset, .unset, .unset, .unset, .unset, .unset, .unset, .unset, .unset, .unset, .unset, .unset, .unset] []))
  generalize hg_nn : ((1 : Int32) + (x0 &&& (7 : Int32))) = nn at hr_nn ⊢
  have hn8 := hr_nn
  refine oI X0 K rfl rfl ?_
  refine own_fs (X0.ldcInt K.1 K.ow (mvT K.wz (H 0)) (g := (mkF m 9 #[.val (.int x0), .val (.int x1), .val (.int x2), .val (.int x3), .val (.int x4), .val (.int x5), .val (.int nn), .unset, .unset, .unset, .unset, .unset, .unset, .unset, .unset, .unset, .unset, .unset, .unset, .unset, .unset, .unset, .unset] [(.int x1)])) rfl (K.d rfl) _ (Steps.refl _)) ?_
  show own_G _ _ _ _ (sa.setTop (mkF m 11 #[.val (.int x0), .val (.int x1), .val (.int x2), .val (.int x3), .val (.int x4), .val (.int x5), .val (.int nn), .unset, .unset, .unset, .unset, .unset, .unset, .unset, .unset, .unset, .unset, .unset, .unset, .unset, .unset, .unset, .unset] [(.int 2147483647), (.int x1)]))
  refine own_fs (XS.iand X0.here K.1 rfl (K.d rfl) rfl (Steps.refl _)) ?_
  show own_G _ _ _ _ (sa.setTop (mkF m 12 #[.val (.int x0), .val (.int x1), .val (.int x2), .val (.int x3), .val (.int x4), .val (.int x5), .val (.int nn), .unset, .unset, .unset, .unset, .unset, .unset, .unset, .unset, .unset, .unset, .unset, .unset, .unset, .unset, .unset, .unset] [(.int (x1 &&& (2147483647 : Int32)))]))
  refine oJ X0 K rfl rfl <| oC (z := 1) X0 K rfl rfl <| oSub X0 K rfl rfl <| oC (z := 3) X0 K rfl rfl ?_
  refine own_fs (XS.idiv X0.here K.1 rfl (K.d rfl) rfl (by decide) (Steps.refl _)) ?_
  show own_G _ _ _ _ (sa.setTop (mkF m 18 #[.val (.int x0), .val (.int x1), .val (.int x2), .val (.int x3), .val (.int x4), .val (.int x5), .val (.int nn), .unset, .unset, .unset, .unset, .unset, .unset, .unset, .unset, .unset, .unset, .unset, .unset, .unset, .unset, .unset, .unset] [(.int ((nn - (1 : Int32)) / (3 : Int32))), (.int (x1 &&& (2147483647 : Int32)))]))
  refine oC (z := 1) X0 K rfl rfl <| oAdd X0 K rfl rfl ?_
  refine own_fs (iremM (g := (mkF m 20 #[.val (.int x0), .val (.int x1), .val (.int x2), .val (.int x3), .val (.int x4), .val (.int x5), .val (.int nn), .unset, .unset, .unset, .unset, .unset, .unset, .unset, .unset, .unset, .unset, .unset, .unset, .unset, .unset, .unset, .unset] [(.int (((nn - (1 : Int32)) / (3 : Int32)) + (1 : Int32))), (.int (x1 &&& (2147483647 : Int32)))])) X0 K.1 rfl (K.d rfl) rfl (own_lawd0 hn8) (Steps.refl _)) ?_
  show own_G _ _ _ _ (sa.setTop (mkF m 21 #[.val (.int x0), .val (.int x1), .val (.int x2), .val (.int x3), .val (.int x4), .val (.int x5), .val (.int nn), .unset, .unset, .unset, .unset, .unset, .unset, .unset, .unset, .unset, .unset, .unset, .unset, .unset, .unset, .unset, .unset] [(.int ((x1 &&& (2147483647 : Int32)) % (((nn - (1 : Int32)) / (3 : Int32)) + (1 : Int32))))]))
  refine oSI (L' := #[.val (.int x0), .val (.int x1), .val (.int x2), .val (.int x3), .val (.int x4), .val (.int x5), .val (.int nn), .val (.int ((x1 &&& (2147483647 : Int32)) % (((nn - (1 : Int32)) / (3 : Int32)) + (1 : Int32)))), .unset, .unset, .unset, .unset, .unset, .unset, .unset, .unset, .unset, .unset, .unset, .unset, .unset, .unset, .unset]) X0 K rfl rfl ?_
  have hr_tt := own_lawt (own_msk x1) hn8
  show own_G _ _ _ _ (sa.setTop (mkF m 23 #[.val (.int x0), .val (.int x1), .val (.int x2), .val (.int x3), .val (.int x4), .val (.int x5), .val (.int nn), .val (.int ((x1 &&& (2147483647 : Int32)) % (((nn - (1 : Int32)) / (3 : Int32)) + (1 : Int32)))), .unset, .unset, .unset, .unset, .unset, .unset, .unset, .unset, .unset, .unset, .unset, .unset, .unset, .unset, .unset] []))
  generalize hg_tt : ((x1 &&& (2147483647 : Int32)) % (((nn - (1 : Int32)) / (3 : Int32)) + (1 : Int32))) = tt at hr_tt ⊢
  have ht0 := own_tz0 hr_tt
  have h3t := own_tz3 hn8 hr_tt
  refine oC (z := 1) X0 K rfl rfl <| oI X0 K rfl rfl ?_
  refine own_fs (X0.ldcInt K.1 K.ow (mvT K.wz (H 0)) (g := (mkF m 25 #[.val (.int x0), .val (.int x1), .val (.int x2), .val (.int x3), .val (.int x4), .val (.int x5), .val (.int nn), .val (.int tt), .unset, .unset, .unset, .unset, .unset, .unset, .unset, .unset, .unset, .unset, .unset, .unset, .unset, .unset, .unset] [(.int x2), (.int 1)])) rfl (K.d rfl) _ (Steps.refl _)) ?_
  show own_G _ _ _ _ (sa.setTop (mkF m 27 #[.val (.int x0), .val (.int x1), .val (.int x2), .val (.int x3), .val (.int x4), .val (.int x5), .val (.int nn), .val (.int tt), .unset, .unset, .unset, .unset, .unset, .unset, .unset, .unset, .unset, .unset, .unset, .unset, .unset, .unset, .unset] [(.int 2147483647), (.int x2), (.int 1)]))
  refine own_fs (XS.iand X0.here K.1 rfl (K.d rfl) rfl (Steps.refl _)) ?_
  show own_G _ _ _ _ (sa.setTop (mkF m 28 #[.val (.int x0), .val (.int x1), .val (.int x2), .val (.int x3), .val (.int x4), .val (.int x5), .val (.int nn), .val (.int tt), .unset, .unset, .unset, .unset, .unset, .unset, .unset, .unset, .unset, .unset, .unset, .unset, .unset, .unset, .unset] [(.int (x2 &&& (2147483647 : Int32))), (.int 1)]))
  refine oJ X0 K rfl rfl ?_
  refine own_fs (iremM (g := (mkF m 30 #[.val (.int x0), .val (.int x1), .val (.int x2), .val (.int x3), .val (.int x4), .val (.int x5), .val (.int nn), .val (.int tt), .unset, .unset, .unset, .unset, .unset, .unset, .unset, .unset, .unset, .unset, .unset, .unset, .unset, .unset, .unset] [(.int nn), (.int (x2 &&& (2147483647 : Int32))), (.int 1)])) X0 K.1 rfl (K.d rfl) rfl (own_p0 hn8) (Steps.refl _)) ?_
  show own_G _ _ _ _ (sa.setTop (mkF m 31 #[.val (.int x0), .val (.int x1), .val (.int x2), .val (.int x3), .val (.int x4), .val (.int x5), .val (.int nn), .val (.int tt), .unset, .unset, .unset, .unset, .unset, .unset, .unset, .unset, .unset, .unset, .unset, .unset, .unset, .unset, .unset] [(.int ((x2 &&& (2147483647 : Int32)) % nn)), (.int 1)]))
  refine oAdd X0 K rfl rfl <| oSI (L' := #[.val (.int x0), .val (.int x1), .val (.int x2), .val (.int x3), .val (.int x4), .val (.int x5), .val (.int nn), .val (.int tt), .val (.int ((1 : Int32) + ((x2 &&& (2147483647 : Int32)) % nn))), .unset, .unset, .unset, .unset, .unset, .unset, .unset, .unset, .unset, .unset, .unset, .unset, .unset, .unset]) X0 K rfl rfl ?_
  have hr_sf := own_lawi (own_msk x2) hn8
  show own_G _ _ _ _ (sa.setTop (mkF m 34 #[.val (.int x0), .val (.int x1), .val (.int x2), .val (.int x3), .val (.int x4), .val (.int x5), .val (.int nn), .val (.int tt), .val (.int ((1 : Int32) + ((x2 &&& (2147483647 : Int32)) % nn))), .unset, .unset, .unset, .unset, .unset, .unset, .unset, .unset, .unset, .unset, .unset, .unset, .unset, .unset] []))
  generalize hg_sf : ((1 : Int32) + ((x2 &&& (2147483647 : Int32)) % nn)) = sf at hr_sf ⊢
  refine oC (z := 1) X0 K rfl rfl <| oI X0 K rfl rfl ?_
  refine own_fs (X0.ldcInt K.1 K.ow (mvT K.wz (H 0)) (g := (mkF m 36 #[.val (.int x0), .val (.int x1), .val (.int x2), .val (.int x3), .val (.int x4), .val (.int x5), .val (.int nn), .val (.int tt), .val (.int sf), .unset, .unset, .unset, .unset, .unset, .unset, .unset, .unset, .unset, .unset, .unset, .unset, .unset, .unset] [(.int x3), (.int 1)])) rfl (K.d rfl) _ (Steps.refl _)) ?_
  show own_G _ _ _ _ (sa.setTop (mkF m 38 #[.val (.int x0), .val (.int x1), .val (.int x2), .val (.int x3), .val (.int x4), .val (.int x5), .val (.int nn), .val (.int tt), .val (.int sf), .unset, .unset, .unset, .unset, .unset, .unset, .unset, .unset, .unset, .unset, .unset, .unset, .unset, .unset] [(.int 2147483647), (.int x3), (.int 1)]))
  refine own_fs (XS.iand X0.here K.1 rfl (K.d rfl) rfl (Steps.refl _)) ?_
  show own_G _ _ _ _ (sa.setTop (mkF m 39 #[.val (.int x0), .val (.int x1), .val (.int x2), .val (.int x3), .val (.int x4), .val (.int x5), .val (.int nn), .val (.int tt), .val (.int sf), .unset, .unset, .unset, .unset, .unset, .unset, .unset, .unset, .unset, .unset, .unset, .unset, .unset, .unset] [(.int (x3 &&& (2147483647 : Int32))), (.int 1)]))
  refine oJ X0 K rfl rfl ?_
  refine own_fs (iremM (g := (mkF m 41 #[.val (.int x0), .val (.int x1), .val (.int x2), .val (.int x3), .val (.int x4), .val (.int x5), .val (.int nn), .val (.int tt), .val (.int sf), .unset, .unset, .unset, .unset, .unset, .unset, .unset, .unset, .unset, .unset, .unset, .unset, .unset, .unset] [(.int nn), (.int (x3 &&& (2147483647 : Int32))), (.int 1)])) X0 K.1 rfl (K.d rfl) rfl (own_p0 hn8) (Steps.refl _)) ?_
  show own_G _ _ _ _ (sa.setTop (mkF m 42 #[.val (.int x0), .val (.int x1), .val (.int x2), .val (.int x3), .val (.int x4), .val (.int x5), .val (.int nn), .val (.int tt), .val (.int sf), .unset, .unset, .unset, .unset, .unset, .unset, .unset, .unset, .unset, .unset, .unset, .unset, .unset, .unset] [(.int ((x3 &&& (2147483647 : Int32)) % nn)), (.int 1)]))
  refine oAdd X0 K rfl rfl <| oSI (L' := #[.val (.int x0), .val (.int x1), .val (.int x2), .val (.int x3), .val (.int x4), .val (.int x5), .val (.int nn), .val (.int tt), .val (.int sf), .val (.int ((1 : Int32) + ((x3 &&& (2147483647 : Int32)) % nn))), .unset, .unset, .unset, .unset, .unset, .unset, .unset, .unset, .unset, .unset, .unset, .unset, .unset]) X0 K rfl rfl ?_
  have hr_ia := own_lawi (own_msk x3) hn8
  show own_G _ _ _ _ (sa.setTop (mkF m 45 #[.val (.int x0), .val (.int x1), .val (.int x2), .val (.int x3), .val (.int x4), .val (.int x5), .val (.int nn), .val (.int tt), .val (.int sf), .val (.int ((1 : Int32) + ((x3 &&& (2147483647 : Int32)) % nn))), .unset, .unset, .unset, .unset, .unset, .unset, .unset, .unset, .unset, .unset, .unset, .unset, .unset] []))
  generalize hg_ia : ((1 : Int32) + ((x3 &&& (2147483647 : Int32)) % nn)) = ia at hr_ia ⊢
  refine oC (z := 1) X0 K rfl rfl <| oJ X0 K rfl rfl ?_
  refine own_fs (X0.ldcInt K.1 K.ow (mvT K.wz (H 0)) (g := (mkF m 48 #[.val (.int x0), .val (.int x1), .val (.int x2), .val (.int x3), .val (.int x4), .val (.int x5), .val (.int nn), .val (.int tt), .val (.int sf), .val (.int ia), .unset, .unset, .unset, .unset, .unset, .unset, .unset, .unset, .unset, .unset, .unset, .unset, .unset] [(.int x4), (.int 1)])) rfl (K.d rfl) _ (Steps.refl _)) ?_
  show own_G _ _ _ _ (sa.setTop (mkF m 50 #[.val (.int x0), .val (.int x1), .val (.int x2), .val (.int x3), .val (.int x4), .val (.int x5), .val (.int nn), .val (.int tt), .val (.int sf), .val (.int ia), .unset, .unset, .unset, .unset, .unset, .unset, .unset, .unset, .unset, .unset, .unset, .unset, .unset] [(.int 2147483647), (.int x4), (.int 1)]))
  refine own_fs (XS.iand X0.here K.1 rfl (K.d rfl) rfl (Steps.refl _)) ?_
  show own_G _ _ _ _ (sa.setTop (mkF m 51 #[.val (.int x0), .val (.int x1), .val (.int x2), .val (.int x3), .val (.int x4), .val (.int x5), .val (.int nn), .val (.int tt), .val (.int sf), .val (.int ia), .unset, .unset, .unset, .unset, .unset, .unset, .unset, .unset, .unset, .unset, .unset, .unset, .unset] [(.int (x4 &&& (2147483647 : Int32))), (.int 1)]))
  refine oJ X0 K rfl rfl ?_
  refine own_fs (iremM (g := (mkF m 53 #[.val (.int x0), .val (.int x1), .val (.int x2), .val (.int x3), .val (.int x4), .val (.int x5), .val (.int nn), .val (.int tt), .val (.int sf), .val (.int ia), .unset, .unset, .unset, .unset, .unset, .unset, .unset, .unset, .unset, .unset, .unset, .unset, .unset] [(.int nn), (.int (x4 &&& (2147483647 : Int32))), (.int 1)])) X0 K.1 rfl (K.d rfl) rfl (own_p0 hn8) (Steps.refl _)) ?_
  show own_G _ _ _ _ (sa.setTop (mkF m 54 #[.val (.int x0), .val (.int x1), .val (.int x2), .val (.int x3), .val (.int x4), .val (.int x5), .val (.int nn), .val (.int tt), .val (.int sf), .val (.int ia), .unset, .unset, .unset, .unset, .unset, .unset, .unset, .unset, .unset, .unset, .unset, .unset, .unset] [(.int ((x4 &&& (2147483647 : Int32)) % nn)), (.int 1)]))
  refine oAdd X0 K rfl rfl <| oSI (L' := #[.val (.int x0), .val (.int x1), .val (.int x2), .val (.int x3), .val (.int x4), .val (.int x5), .val (.int nn), .val (.int tt), .val (.int sf), .val (.int ia), .val (.int ((1 : Int32) + ((x4 &&& (2147483647 : Int32)) % nn))), .unset, .unset, .unset, .unset, .unset, .unset, .unset, .unset, .unset, .unset, .unset, .unset]) X0 K rfl rfl ?_
  have hr_ib := own_lawi (own_msk x4) hn8
  show own_G _ _ _ _ (sa.setTop (mkF m 57 #[.val (.int x0), .val (.int x1), .val (.int x2), .val (.int x3), .val (.int x4), .val (.int x5), .val (.int nn), .val (.int tt), .val (.int sf), .val (.int ia), .val (.int ((1 : Int32) + ((x4 &&& (2147483647 : Int32)) % nn))), .unset, .unset, .unset, .unset, .unset, .unset, .unset, .unset, .unset, .unset, .unset, .unset] []))
  generalize hg_ib : ((1 : Int32) + ((x4 &&& (2147483647 : Int32)) % nn)) = ib at hr_ib ⊢
  refine oC (z := 1) X0 K rfl rfl <| oJ X0 K rfl rfl ?_
  refine own_fs (X0.ldcInt K.1 K.ow (mvT K.wz (H 1)) (g := (mkF m 60 #[.val (.int x0), .val (.int x1), .val (.int x2), .val (.int x3), .val (.int x4), .val (.int x5), .val (.int nn), .val (.int tt), .val (.int sf), .val (.int ia), .val (.int ib), .unset, .unset, .unset, .unset, .unset, .unset, .unset, .unset, .unset, .unset, .unset, .unset] [(.int x5), (.int 1)])) rfl (K.d rfl) _ (Steps.refl _)) ?_
  show own_G _ _ _ _ (sa.setTop (mkF m 62 #[.val (.int x0), .val (.int x1), .val (.int x2), .val (.int x3), .val (.int x4), .val (.int x5), .val (.int nn), .val (.int tt), .val (.int sf), .val (.int ia), .val (.int ib), .unset, .unset, .unset, .unset, .unset, .unset, .unset, .unset, .unset, .unset, .unset, .unset] [(.int 65535), (.int x5), (.int 1)]))
  refine own_fs (XS.iand X0.here K.1 rfl (K.d rfl) rfl (Steps.refl _)) ?_
  show own_G _ _ _ _ (sa.setTop (mkF m 63 #[.val (.int x0), .val (.int x1), .val (.int x2), .val (.int x3), .val (.int x4), .val (.int x5), .val (.int nn), .val (.int tt), .val (.int sf), .val (.int ia), .val (.int ib), .unset, .unset, .unset, .unset, .unset, .unset, .unset, .unset, .unset, .unset, .unset, .unset] [(.int (x5 &&& (65535 : Int32))), (.int 1)]))
  refine oJ X0 K rfl rfl ?_
  refine own_fs (iremM (g := (mkF m 65 #[.val (.int x0), .val (.int x1), .val (.int x2), .val (.int x3), .val (.int x4), .val (.int x5), .val (.int nn), .val (.int tt), .val (.int sf), .val (.int ia), .val (.int ib), .unset, .unset, .unset, .unset, .unset, .unset, .unset, .unset, .unset, .unset, .unset, .unset] [(.int nn), (.int (x5 &&& (65535 : Int32))), (.int 1)])) X0 K.1 rfl (K.d rfl) rfl (own_p0 hn8) (Steps.refl _)) ?_
  show own_G _ _ _ _ (sa.setTop (mkF m 66 #[.val (.int x0), .val (.int x1), .val (.int x2), .val (.int x3), .val (.int x4), .val (.int x5), .val (.int nn), .val (.int tt), .val (.int sf), .val (.int ia), .val (.int ib), .unset, .unset, .unset, .unset, .unset, .unset, .unset, .unset, .unset, .unset, .unset, .unset] [(.int ((x5 &&& (65535 : Int32)) % nn)), (.int 1)]))
  refine oAdd X0 K rfl rfl <| oSI (L' := #[.val (.int x0), .val (.int x1), .val (.int x2), .val (.int x3), .val (.int x4), .val (.int x5), .val (.int nn), .val (.int tt), .val (.int sf), .val (.int ia), .val (.int ib), .val (.int ((1 : Int32) + ((x5 &&& (65535 : Int32)) % nn))), .unset, .unset, .unset, .unset, .unset, .unset, .unset, .unset, .unset, .unset, .unset]) X0 K rfl rfl ?_
  have hr_fa := own_lawi (own_msk16 x5) hn8
  show own_G _ _ _ _ (sa.setTop (mkF m 69 #[.val (.int x0), .val (.int x1), .val (.int x2), .val (.int x3), .val (.int x4), .val (.int x5), .val (.int nn), .val (.int tt), .val (.int sf), .val (.int ia), .val (.int ib), .val (.int ((1 : Int32) + ((x5 &&& (65535 : Int32)) % nn))), .unset, .unset, .unset, .unset, .unset, .unset, .unset, .unset, .unset, .unset, .unset] []))
  generalize hg_fa : ((1 : Int32) + ((x5 &&& (65535 : Int32)) % nn)) = fa at hr_fa ⊢
  refine oC (z := 1) X0 K rfl rfl <| oJ X0 K rfl rfl ?_
  refine own_fs (XS.bipush X0.here K.1 rfl (K.d rfl) (Steps.refl _)) ?_
  show own_G _ _ _ _ (sa.setTop (mkF m 74 #[.val (.int x0), .val (.int x1), .val (.int x2), .val (.int x3), .val (.int x4), .val (.int x5), .val (.int nn), .val (.int tt), .val (.int sf), .val (.int ia), .val (.int ib), .val (.int fa), .unset, .unset, .unset, .unset, .unset, .unset, .unset, .unset, .unset, .unset, .unset] [(.int 16), (.int x5), (.int 1)]))
  refine own_fs (XS.iushr X0.here K.1 rfl (K.d rfl) rfl (Steps.refl _)) ?_
  show own_G _ _ _ _ (sa.setTop (mkF m 75 #[.val (.int x0), .val (.int x1), .val (.int x2), .val (.int x3), .val (.int x4), .val (.int x5), .val (.int nn), .val (.int tt), .val (.int sf), .val (.int ia), .val (.int ib), .val (.int fa), .unset, .unset, .unset, .unset, .unset, .unset, .unset, .unset, .unset, .unset, .unset] [(.int ((x5.toUInt32 >>> ((16 : Int32) &&& 31).toUInt32).toInt32)), (.int 1)]))
  refine oJ X0 K rfl rfl ?_
  refine own_fs (iremM (g := (mkF m 77 #[.val (.int x0), .val (.int x1), .val (.int x2), .val (.int x3), .val (.int x4), .val (.int x5), .val (.int nn), .val (.int tt), .val (.int sf), .val (.int ia), .val (.int ib), .val (.int fa), .unset, .unset, .unset, .unset, .unset, .unset, .unset, .unset, .unset, .unset, .unset] [(.int nn), (.int ((x5.toUInt32 >>> ((16 : Int32) &&& 31).toUInt32).toInt32)), (.int 1)])) X0 K.1 rfl (K.d rfl) rfl (own_p0 hn8) (Steps.refl _)) ?_
  show own_G _ _ _ _ (sa.setTop (mkF m 78 #[.val (.int x0), .val (.int x1), .val (.int x2), .val (.int x3), .val (.int x4), .val (.int x5), .val (.int nn), .val (.int tt), .val (.int sf), .val (.int ia), .val (.int ib), .val (.int fa), .unset, .unset, .unset, .unset, .unset, .unset, .unset, .unset, .unset, .unset, .unset] [(.int (((x5.toUInt32 >>> ((16 : Int32) &&& 31).toUInt32).toInt32) % nn)), (.int 1)]))
  refine oAdd X0 K rfl rfl <| oSI (L' := #[.val (.int x0), .val (.int x1), .val (.int x2), .val (.int x3), .val (.int x4), .val (.int x5), .val (.int nn), .val (.int tt), .val (.int sf), .val (.int ia), .val (.int ib), .val (.int fa), .val (.int ((1 : Int32) + (((x5.toUInt32 >>> ((16 : Int32) &&& 31).toUInt32).toInt32) % nn))), .unset, .unset, .unset, .unset, .unset, .unset, .unset, .unset, .unset, .unset]) X0 K rfl rfl ?_
  have hr_fb := own_lawi (own_ush x5) hn8
  show own_G _ _ _ _ (sa.setTop (mkF m 81 #[.val (.int x0), .val (.int x1), .val (.int x2), .val (.int x3), .val (.int x4), .val (.int x5), .val (.int nn), .val (.int tt), .val (.int sf), .val (.int ia), .val (.int ib), .val (.int fa), .val (.int ((1 : Int32) + (((x5.toUInt32 >>> ((16 : Int32) &&& 31).toUInt32).toInt32) % nn))), .unset, .unset, .unset, .unset, .unset, .unset, .unset, .unset, .unset, .unset] []))
  generalize hg_fb : ((1 : Int32) + (((x5.toUInt32 >>> ((16 : Int32) &&& 31).toUInt32).toInt32) % nn)) = fb at hr_fb ⊢
  refine oNew X0 K rfl (H 2) (H 3) (H 4) e0 (Nat.le_refl _) (by decide) fun T1 h1 b1 g1 Y0 X1 e1 E1 A1 D1 => ?_
  have R2 := own_re R0 E1
  refine oDup X1 K rfl rfl <| oJ X1 K rfl rfl <| oJ X1 K rfl rfl <| oJ X1 K rfl rfl ?_
  refine oNw X1 K hS0 (Nat.le_trans (Nat.zero_le _) E1.1) hEL R2 rfl (H 5) (H 6) (H 7) (H 4) (by decide) rfl e1 (own_i_A3 hw (Nat.le_trans Z0 E1.1) A1 (D1 (Or.inr (H 34)) (ty := (.object "java/util/SortedMap")) (by decide)) (D1 (Or.inr (H 61)) (ty := .int) (by decide)) (D1 (Or.inr (H 63)) (ty := .int) (by decide)) (D1 (Or.inr (H 65)) (ty := .int) (by decide)) (D1 (Or.inr (H 69)) (ty := (.array (.object "convoke/protocol/Bracha"))) (by decide)) (Nat.le_trans Z0 Y0) ht0 h3t hr_sf.1 hr_sf.2 hn8 hq (Old.ext hOld E1)) rfl rfl (lenOf own_pd4 rfl) rfl N0 1 rfl (by decide) fun v4 T4 h4 L4 N4 q4 e4 X4 hS4 K R4 => ?_
  obtain ⟨tm, arr, ka, lo0, B, rfl, K4, Y1, Y2, Y3, Y4, Y5, Y6, Y7, Y8, Y9, Y10, Y11, Y12, Y13, Y14, Y15, Y16, Y17, Y18⟩ := q4
  have Y19 := Nat.le_trans E1.1 Y11
  have Y20 := Nat.le_trans E1.1 Y12
  have Sy0 := own_Sy.of_In Y13
  obtain ⟨hi0, ghi⟩ : ∃ z, z = h4.size := ⟨_, rfl⟩
  rw [← ghi] at Sy0
  change own_Sy Z q nn tt sf arr ka lo0 hi0 B h4 own_W0 at Sy0
  have hlaA := Y14
  have hltm := Y15
  have hnaA := Y16
  have hnt := Y17
  have Y21 : n0 <= lo0 := Nat.le_trans (Nat.le_trans Z0 Y0) (Nat.le_of_lt hlaA)
  have hlt_a : own_ix ia < nn.toNatClampNeg := own_ixlt hr_ia.1 hr_ia.2 hn8
  have hlt_b : own_ix ib < nn.toNatClampNeg := own_ixlt hr_ib.1 hr_ib.2 hn8
  have Y22 := (Old.keep (Old.ext hOld E1) K4 (allS (Nat.le_trans Z0 Y0) all0))
  refine oSA (L' := #[.val (.int x0), .val (.int x1), .val (.int x2), .val (.int x3), .val (.int x4), .val (.int x5), .val (.int nn), .val (.int tt), .val (.int sf), .val (.int ia), .val (.int ib), .val (.int fa), .val (.int fb), .val (.ref b1), .unset, .unset, .unset, .unset, .unset, .unset, .unset, .unset, .unset]) X4 K rfl rfl rfl ?_
  refine oNew X4 K rfl (H 155) (H 156) (H 157) e4 (Nat.le_trans E1.1 K4.1) (by decide) fun T6 h6 b6 g6 Y23 X6 e6 E6 A6 D6 => ?_
  have R7 := own_re R4 E6
  refine oDup X6 K rfl rfl ?_
  obtain ⟨la8, T8, h8, k8, lb8, kb8, X8, e8, E8, hS8, hk8, hZ8, ho8, PE8, PC8, PV8, PA8, -, -, hR8, hL8, hne8, st8⟩ := ldcCH X6 K.1 K.wz K.ow (H 158) (own_wS hw) e6 hS4 (Nat.le_trans (Nat.le_refl _) E6.1) hEL (List.mem_of_getElem? (i := 5) rfl) R7.1 (vs := [.int 118]) (z := (1 : Int32)) (own_txt_5) (by decide) (by decide) (g := (mkF m 100 #[.val (.int x0), .val (.int x1), .val (.int x2), .val (.int x3), .val (.int x4), .val (.int x5), .val (.int nn), .val (.int tt), .val (.int sf), .val (.int ia), .val (.int ib), .val (.int fa), .val (.int fb), .val (.ref b1), .unset, .unset, .unset, .unset, .unset, .unset, .unset, .unset, .unset] [(.ref b6), (.ref b6)])) rfl (K.d rfl) (n := 4) (by decide) (by decide) (by decide) (by decide)
  have R8 := CHr.trans R7 hR8
  have K := own_K.re K hZ8 ho8
  refine own_fs (st8 _ (Steps.refl _)) ?_
  show own_G _ _ _ _ (T8.setTop (mkF m 102 #[.val (.int x0), .val (.int x1), .val (.int x2), .val (.int x3), .val (.int x4), .val (.int x5), .val (.int nn), .val (.int tt), .val (.int sf), .val (.int ia), .val (.int ib), .val (.int fa), .val (.int fb), .val (.ref b1), .unset, .unset, .unset, .unset, .unset, .unset, .unset, .unset, .unset] [(.ref la8), (.ref b6), (.ref b6)]))
  have hEb8 : Exa Z h8 lb8 "[B" := own_litB (s := s) K.wz K.ow (H 158) R8.1 (List.mem_of_getElem? (i := 5) rfl) hL8 PV8
  have z10 := (Nat.le_trans (Nat.le_trans (Nat.le_trans E1.1 K4.1) E6.1) E8.1)
  refine oNw X8 K hS8 hk8 hEL R8 rfl (H 159) (H 160) (H 161) (H 157) (by decide) rfl e8 (own_i_VA hw (Nat.le_trans Z0 z10) (Exa.ext E8 A6) (Fld.ext E8 (D6 (Or.inr (H 252)) (ty := (.array .byte)) (by decide))) (Fld.ext E8 (D6 (Or.inr (H 254)) (ty := (.object "java/lang/String")) (by decide))) (Nat.le_trans Z0 Y23) PE8 PV8 PC8 PA8 hEb8 hq (Old.ext (Old.ext Y22 E6) E8)) rfl rfl (lenOf own_pd63 rfl) rfl N4 1 rfl (by decide) fun v11 T11 h11 L11 N11 q11 e11 X11 hS11 K R11 => ?_
  obtain ⟨rfl, K11, Y24⟩ := q11
  refine oSA (L' := #[.val (.int x0), .val (.int x1), .val (.int x2), .val (.int x3), .val (.int x4), .val (.int x5), .val (.int nn), .val (.int tt), .val (.int sf), .val (.int ia), .val (.int ib), .val (.int fa), .val (.int fb), .val (.ref b1), .val (.ref b6), .unset, .unset, .unset, .unset, .unset, .unset, .unset, .unset]) X11 K rfl rfl rfl ?_
  refine oNew X11 K rfl (H 255) (H 256) (H 257) e11 (Nat.le_trans z10 K11.1) (by decide) fun T12 h12 b12 g12 Y25 X12 e12 E12 A12 D12 => ?_
  have R13 := own_re R11 E12
  refine oDup X12 K rfl rfl <| oJ X12 K rfl rfl <| oJ X12 K rfl rfl <| oJ X12 K rfl rfl ?_
  refine oGs X12 K rfl (H 258) e12 (Sta.ext (Old.ext (Old.keep (Old.ext (Old.ext Y22 E6) E8) K11 (allS (Nat.le_trans Z0 Y23) all0)) E12).2 hq.sKR) fun T14 X14 e14 => ?_
  refine oB X14 K rfl rfl rfl ?_
  have z16 := (Nat.le_trans (Nat.le_trans z10 K11.1) E12.1)
  refine oNw X14 K hS11 (Nat.le_trans (Nat.le_refl _) E12.1) hEL R13 rfl (H 260) (H 261) (H 262) (H 257) (by decide) rfl e14 (own_i_ME hw (Nat.le_trans Z0 z16) A12 (D12 (Or.inr (H 279)) (ty := .int) (by decide)) (D12 (Or.inr (H 281)) (ty := .int) (by decide)) (D12 (Or.inr (H 283)) (ty := .int) (by decide)) (D12 (Or.inr (H 285)) (ty := (.object "convoke/model/Message$Kind")) (by decide)) (D12 (Or.inr (H 287)) (ty := (.object "convoke/model/Value")) (by decide)) (Nat.le_trans Z0 Y25) hr_fa.1 hr_sf.1 hr_ia.1 hq (Old.ext (Old.keep (Old.ext (Old.ext Y22 E6) E8) K11 (allS (Nat.le_trans Z0 Y23) all0)) E12)) rfl rfl (lenOf own_pd29 rfl) rfl N11 1 rfl (by decide) fun v17 T17 h17 L17 N17 q17 e17 X17 hS17 K R17 => ?_
  obtain ⟨rfl, K17, Y26, Y27, Y28, Y29, Y30, Y31⟩ := q17
  refine oSA (L' := #[.val (.int x0), .val (.int x1), .val (.int x2), .val (.int x3), .val (.int x4), .val (.int x5), .val (.int nn), .val (.int tt), .val (.int sf), .val (.int ia), .val (.int ib), .val (.int fa), .val (.int fb), .val (.ref b1), .val (.ref b6), .val (.ref b12), .unset, .unset, .unset, .unset, .unset, .unset, .unset]) X17 K rfl rfl rfl ?_
  refine oNew X17 K rfl (H 255) (H 256) (H 257) e17 (Nat.le_trans z16 K17.1) (by decide) fun T18 h18 b18 g18 Y32 X18 e18 E18 A18 D18 => ?_
  have R19 := own_re R17 E18
  refine oDup X18 K rfl rfl <| oJ X18 K rfl rfl <| oJ X18 K rfl rfl <| oJ X18 K rfl rfl ?_
  refine oGs X18 K rfl (H 258) e18 (Sta.ext (Old.ext (Old.keep (Old.ext (Old.keep (Old.ext (Old.ext Y22 E6) E8) K11 (allS (Nat.le_trans Z0 Y23) all0)) E12) K17 (allS (Nat.le_trans Z0 Y25) all0)) E18).2 hq.sKR) fun T20 X20 e20 => ?_
  refine oB X20 K rfl rfl rfl ?_
  have z22 := (Nat.le_trans (Nat.le_trans z16 K17.1) E18.1)
  refine oNw X20 K hS17 (Nat.le_trans (Nat.le_refl _) E18.1) hEL R19 rfl (H 260) (H 261) (H 262) (H 257) (by decide) rfl e20 (own_i_ME hw (Nat.le_trans Z0 z22) A18 (D18 (Or.inr (H 279)) (ty := .int) (by decide)) (D18 (Or.inr (H 281)) (ty := .int) (by decide)) (D18 (Or.inr (H 283)) (ty := .int) (by decide)) (D18 (Or.inr (H 285)) (ty := (.object "convoke/model/Message$Kind")) (by decide)) (D18 (Or.inr (H 287)) (ty := (.object "convoke/model/Value")) (by decide)) (Nat.le_trans Z0 Y32) hr_fb.1 hr_sf.1 hr_ib.1 hq (Old.ext (Old.keep (Old.ext (Old.keep (Old.ext (Old.ext Y22 E6) E8) K11 (allS (Nat.le_trans Z0 Y23) all0)) E12) K17 (allS (Nat.le_trans Z0 Y25) all0)) E18)) rfl rfl (lenOf own_pd29 rfl) rfl N17 1 rfl (by decide) fun v23 T23 h23 L23 N23 q23 e23 X23 hS23 K R23 => ?_
  obtain ⟨rfl, K23, Y33, Y34, Y35, Y36, Y37, Y38⟩ := q23
  refine oSA (L' := #[.val (.int x0), .val (.int x1), .val (.int x2), .val (.int x3), .val (.int x4), .val (.int x5), .val (.int nn), .val (.int tt), .val (.int sf), .val (.int ia), .val (.int ib), .val (.int fa), .val (.int fb), .val (.ref b1), .val (.ref b6), .val (.ref b12), .val (.ref b18), .unset, .unset, .unset, .unset, .unset, .unset]) X23 K rfl rfl rfl ?_
  have Y39 := (Old.keep (Old.ext (Old.keep (Old.ext (Old.keep (Old.ext (Old.ext Y22 E6) E8) K11 (allS (Nat.le_trans Z0 Y23) all0)) E12) K17 (allS (Nat.le_trans Z0 Y25) all0)) E18) K23 (allS (Nat.le_trans Z0 Y32) all0))
  have Y40 := ((Exa.ext E18 ((Exa.ext E12 ((Exa.ext E8 (Exa.ext E6 Y18)).keep K11)).keep K17)).keep K23)
  have Y41 := ((Fld.ext E18 ((Fld.ext E12 ((Fld.ext E8 (Fld.ext E6 Y1)).keep K11 (ninS (oNe (Fld.lt Y1) (Nat.le_of_eq g6.symm)) nin0))).keep K17 (ninS (oNe (Fld.lt ((Fld.ext E8 (Fld.ext E6 Y1)).keep K11 (ninS (oNe (Fld.lt Y1) (Nat.le_of_eq g6.symm)) nin0))) (Nat.le_of_eq g12.symm)) nin0))).keep K23 (ninS (oNe (Fld.lt ((Fld.ext E12 ((Fld.ext E8 (Fld.ext E6 Y1)).keep K11 (ninS (oNe (Fld.lt Y1) (Nat.le_of_eq g6.symm)) nin0))).keep K17 (ninS (oNe (Fld.lt ((Fld.ext E8 (Fld.ext E6 Y1)).keep K11 (ninS (oNe (Fld.lt Y1) (Nat.le_of_eq g6.symm)) nin0))) (Nat.le_of_eq g12.symm)) nin0))) (Nat.le_of_eq g18.symm)) nin0))
  have Y42 := ((Fld.ext E18 ((Fld.ext E12 ((Fld.ext E8 (Fld.ext E6 Y2)).keep K11 (ninS (oNe (Fld.lt Y2) (Nat.le_of_eq g6.symm)) nin0))).keep K17 (ninS (oNe (Fld.lt ((Fld.ext E8 (Fld.ext E6 Y2)).keep K11 (ninS (oNe (Fld.lt Y2) (Nat.le_of_eq g6.symm)) nin0))) (Nat.le_of_eq g12.symm)) nin0))).keep K23 (ninS (oNe (Fld.lt ((Fld.ext E12 ((Fld.ext E8 (Fld.ext E6 Y2)).keep K11 (ninS (oNe (Fld.lt Y2) (Nat.le_of_eq g6.symm)) nin0))).keep K17 (ninS (oNe (Fld.lt ((Fld.ext E8 (Fld.ext E6 Y2)).keep K11 (ninS (oNe (Fld.lt Y2) (Nat.le_of_eq g6.symm)) nin0))) (Nat.le_of_eq g12.symm)) nin0))) (Nat.le_of_eq g18.symm)) nin0))
  have Y43 := ((Fld.ext E18 ((Fld.ext E12 ((Fld.ext E8 (Fld.ext E6 Y3)).keep K11 (ninS (oNe (Fld.lt Y3) (Nat.le_of_eq g6.symm)) nin0))).keep K17 (ninS (oNe (Fld.lt ((Fld.ext E8 (Fld.ext E6 Y3)).keep K11 (ninS (oNe (Fld.lt Y3) (Nat.le_of_eq g6.symm)) nin0))) (Nat.le_of_eq g12.symm)) nin0))).keep K23 (ninS (oNe (Fld.lt ((Fld.ext E12 ((Fld.ext E8 (Fld.ext E6 Y3)).keep K11 (ninS (oNe (Fld.lt Y3) (Nat.le_of_eq g6.symm)) nin0))).keep K17 (ninS (oNe (Fld.lt ((Fld.ext E8 (Fld.ext E6 Y3)).keep K11 (ninS (oNe (Fld.lt Y3) (Nat.le_of_eq g6.symm)) nin0))) (Nat.le_of_eq g12.symm)) nin0))) (Nat.le_of_eq g18.symm)) nin0))
  have Y44 := ((Fld.ext E18 ((Fld.ext E12 ((Fld.ext E8 (Fld.ext E6 Y4)).keep K11 (ninS (oNe (Fld.lt Y4) (Nat.le_of_eq g6.symm)) nin0))).keep K17 (ninS (oNe (Fld.lt ((Fld.ext E8 (Fld.ext E6 Y4)).keep K11 (ninS (oNe (Fld.lt Y4) (Nat.le_of_eq g6.symm)) nin0))) (Nat.le_of_eq g12.symm)) nin0))).keep K23 (ninS (oNe (Fld.lt ((Fld.ext E12 ((Fld.ext E8 (Fld.ext E6 Y4)).keep K11 (ninS (oNe (Fld.lt Y4) (Nat.le_of_eq g6.symm)) nin0))).keep K17 (ninS (oNe (Fld.lt ((Fld.ext E8 (Fld.ext E6 Y4)).keep K11 (ninS (oNe (Fld.lt Y4) (Nat.le_of_eq g6.symm)) nin0))) (Nat.le_of_eq g12.symm)) nin0))) (Nat.le_of_eq g18.symm)) nin0))
  have Y45 := ((Fld.ext E18 ((Fld.ext E12 ((Fld.ext E8 (Fld.ext E6 Y5)).keep K11 (ninS (oNe (Fld.lt Y5) (Nat.le_of_eq g6.symm)) nin0))).keep K17 (ninS (oNe (Fld.lt ((Fld.ext E8 (Fld.ext E6 Y5)).keep K11 (ninS (oNe (Fld.lt Y5) (Nat.le_of_eq g6.symm)) nin0))) (Nat.le_of_eq g12.symm)) nin0))).keep K23 (ninS (oNe (Fld.lt ((Fld.ext E12 ((Fld.ext E8 (Fld.ext E6 Y5)).keep K11 (ninS (oNe (Fld.lt Y5) (Nat.le_of_eq g6.symm)) nin0))).keep K17 (ninS (oNe (Fld.lt ((Fld.ext E8 (Fld.ext E6 Y5)).keep K11 (ninS (oNe (Fld.lt Y5) (Nat.le_of_eq g6.symm)) nin0))) (Nat.le_of_eq g12.symm)) nin0))) (Nat.le_of_eq g18.symm)) nin0))
  have Y46 := ((Exa.ext E18 ((Exa.ext E12 ((Exa.ext E8 (Exa.ext E6 Y6)).keep K11)).keep K17)).keep K23)
  have Y47 := ((Fld.ext E18 ((Fld.ext E12 ((Fld.ext E8 (Fld.ext E6 Y7)).keep K11 (ninS (oNe (Fld.lt Y7) (Nat.le_of_eq g6.symm)) nin0))).keep K17 (ninS (oNe (Fld.lt ((Fld.ext E8 (Fld.ext E6 Y7)).keep K11 (ninS (oNe (Fld.lt Y7) (Nat.le_of_eq g6.symm)) nin0))) (Nat.le_of_eq g12.symm)) nin0))).keep K23 (ninS (oNe (Fld.lt ((Fld.ext E12 ((Fld.ext E8 (Fld.ext E6 Y7)).keep K11 (ninS (oNe (Fld.lt Y7) (Nat.le_of_eq g6.symm)) nin0))).keep K17 (ninS (oNe (Fld.lt ((Fld.ext E8 (Fld.ext E6 Y7)).keep K11 (ninS (oNe (Fld.lt Y7) (Nat.le_of_eq g6.symm)) nin0))) (Nat.le_of_eq g12.symm)) nin0))) (Nat.le_of_eq g18.symm)) nin0))
  have Y48 := ((Fld.ext E18 ((Fld.ext E12 ((Fld.ext E8 (Fld.ext E6 Y8)).keep K11 (ninS (oNe (Fld.lt Y8) (Nat.le_of_eq g6.symm)) nin0))).keep K17 (ninS (oNe (Fld.lt ((Fld.ext E8 (Fld.ext E6 Y8)).keep K11 (ninS (oNe (Fld.lt Y8) (Nat.le_of_eq g6.symm)) nin0))) (Nat.le_of_eq g12.symm)) nin0))).keep K23 (ninS (oNe (Fld.lt ((Fld.ext E12 ((Fld.ext E8 (Fld.ext E6 Y8)).keep K11 (ninS (oNe (Fld.lt Y8) (Nat.le_of_eq g6.symm)) nin0))).keep K17 (ninS (oNe (Fld.lt ((Fld.ext E8 (Fld.ext E6 Y8)).keep K11 (ninS (oNe (Fld.lt Y8) (Nat.le_of_eq g6.symm)) nin0))) (Nat.le_of_eq g12.symm)) nin0))) (Nat.le_of_eq g18.symm)) nin0))
  have Y49 := ((Fld.ext E18 ((Fld.ext E12 ((Fld.ext E8 (Fld.ext E6 Y9)).keep K11 (ninS (oNe (Fld.lt Y9) (Nat.le_of_eq g6.symm)) nin0))).keep K17 (ninS (oNe (Fld.lt ((Fld.ext E8 (Fld.ext E6 Y9)).keep K11 (ninS (oNe (Fld.lt Y9) (Nat.le_of_eq g6.symm)) nin0))) (Nat.le_of_eq g12.symm)) nin0))).keep K23 (ninS (oNe (Fld.lt ((Fld.ext E12 ((Fld.ext E8 (Fld.ext E6 Y9)).keep K11 (ninS (oNe (Fld.lt Y9) (Nat.le_of_eq g6.symm)) nin0))).keep K17 (ninS (oNe (Fld.lt ((Fld.ext E8 (Fld.ext E6 Y9)).keep K11 (ninS (oNe (Fld.lt Y9) (Nat.le_of_eq g6.symm)) nin0))) (Nat.le_of_eq g12.symm)) nin0))) (Nat.le_of_eq g18.symm)) nin0))
  have Y50 := ((Fld.ext E18 ((Fld.ext E12 ((Fld.ext E8 (Fld.ext E6 Y10)).keep K11 (ninS (oNe (Fld.lt Y10) (Nat.le_of_eq g6.symm)) nin0))).keep K17 (ninS (oNe (Fld.lt ((Fld.ext E8 (Fld.ext E6 Y10)).keep K11 (ninS (oNe (Fld.lt Y10) (Nat.le_of_eq g6.symm)) nin0))) (Nat.le_of_eq g12.symm)) nin0))).keep K23 (ninS (oNe (Fld.lt ((Fld.ext E12 ((Fld.ext E8 (Fld.ext E6 Y10)).keep K11 (ninS (oNe (Fld.lt Y10) (Nat.le_of_eq g6.symm)) nin0))).keep K17 (ninS (oNe (Fld.lt ((Fld.ext E8 (Fld.ext E6 Y10)).keep K11 (ninS (oNe (Fld.lt Y10) (Nat.le_of_eq g6.symm)) nin0))) (Nat.le_of_eq g12.symm)) nin0))) (Nat.le_of_eq g18.symm)) nin0))
  have Y51 := ((Exa.ext E18 ((Exa.ext E12 Y24).keep K17)).keep K23)
  have Y52 := ((Exa.ext E18 Y26).keep K23)
  have Y53 := ((Fld.ext E18 Y27).keep K23 (ninS (oNe (Fld.lt Y27) (Nat.le_of_eq g18.symm)) nin0))
  have Y54 := ((Fld.ext E18 Y28).keep K23 (ninS (oNe (Fld.lt Y28) (Nat.le_of_eq g18.symm)) nin0))
  have Y55 := ((Fld.ext E18 Y29).keep K23 (ninS (oNe (Fld.lt Y29) (Nat.le_of_eq g18.symm)) nin0))
  have Y56 := ((Fld.ext E18 Y30).keep K23 (ninS (oNe (Fld.lt Y30) (Nat.le_of_eq g18.symm)) nin0))
  have Y57 := ((Fld.ext E18 Y31).keep K23 (ninS (oNe (Fld.lt Y31) (Nat.le_of_eq g18.symm)) nin0))
  refine oB X23 K rfl rfl rfl ?_
  have hx26_b6 : hi0 <= b6 := Nat.le_trans (Nat.le_of_eq ghi) (Nat.le_of_eq g6.symm)
  have hx27_b12 : hi0 <= b12 := Nat.le_trans (Nat.le_trans (Nat.le_trans (Nat.le_trans (Nat.le_of_eq ghi) E6.1) E8.1) K11.1) (Nat.le_of_eq g12.symm)
  have hx28_b18 : hi0 <= b18 := Nat.le_trans (Nat.le_trans (Nat.le_trans (Nat.le_trans (Nat.le_trans (Nat.le_trans (Nat.le_of_eq ghi) E6.1) E8.1) K11.1) E12.1) K17.1) (Nat.le_of_eq g18.symm)
  have Sn25 : own_Sy Z q nn tt sf arr ka lo0 hi0 B h23 own_W0 := (own_Sy.keep (own_Sy.ext (own_Sy.keep (own_Sy.ext (own_Sy.keep (own_Sy.ext (own_Sy.ext Sy0 E6) E8) K11 (allS (P := fun y : Nat => (y < lo0 /\ y ≠ arr) ∨ hi0 <= y) (Or.inr hx26_b6) all0)) E12) K17 (allS (P := fun y : Nat => (y < lo0 /\ y ≠ arr) ∨ hi0 <= y) (Or.inr hx27_b12) all0)) E18) K23 (allS (P := fun y : Nat => (y < lo0 /\ y ≠ arr) ∨ hi0 <= y) (Or.inr hx28_b18) all0))
  refine oVc X23 K rfl (H 288) (H 289) (notFace_of_selects (args := #[]) (mvT K.wz (H 291))) (H 291) (H 290) (H 292) (H 4) (by decide) e23 Y40 (own_live hw (Nat.le_trans Z0 (Nat.le_trans z22 K23.1)) (nn := nn) (tt := tt) (sf := sf) (ka := ka) (lo0 := lo0) (hi0 := hi0) (B := B) (W := own_W0) Y45 Sn25 hn8) rfl rfl (lenOf own_pd11 rfl) rfl N23 0 rfl (by decide) fun v30 T30 h30 L30 N30 q30 e30 X30 => ?_
  obtain ⟨rfl, y30⟩ := q30
  refine oJ X30 K rfl rfl <| oCN X30 K rfl (XT.ii_ne_f (own_ctW0 hn8)) <| oC (z := 1) X30 K rfl rfl <| oGo X30 K rfl <| oSI (L' := #[.val (.int x0), .val (.int x1), .val (.int x2), .val (.int x3), .val (.int x4), .val (.int x5), .val (.int nn), .val (.int tt), .val (.int sf), .val (.int ia), .val (.int ib), .val (.int fa), .val (.int fb), .val (.ref b1), .val (.ref b6), .val (.ref b12), .val (.ref b18), .val (.int 1), .unset, .unset, .unset, .unset, .unset]) X30 K rfl rfl ?_
  by_cases hc164 : tt = (0 : Int32)
  · refine oB X30 K rfl rfl rfl <| oB X30 K rfl rfl rfl ?_
    have Sn31 : own_Sy Z q nn tt sf arr ka lo0 hi0 B h23 own_W0 := Sn25
    have Sz32 : own_Sy Z q nn (0 : Int32) sf arr ka lo0 hi0 B h23 own_W0 := by have q9 := Sn31; rw [hc164] at q9; exact q9
    refine oVw X30 K hS23 (Nat.le_refl _) hEL R23 rfl (H 293) (H 294) (notFace_of_selects (args := #[]) (mvT K.wz (H 296))) (H 296) (H 295) (H 297) (H 4) (by decide) (e30.trans y30) Y40 (own_rcvB0 hw (Nat.le_trans Z0 (Nat.le_trans z22 K23.1)) (nn := nn) (sf := sf) (ka := ka) (lo0 := lo0) (hi0 := hi0) (B := B) (W := own_W0) (hs := []) Y40 Y41 Y42 Y43 Y44 Y45 Sz32 hlaA hnaA hltm hnt (Nat.le_trans Z0 Y20) Y21 Y52 Y53 Y54 Y55 Y56 Y57 Y51 hr_fa.1 hr_fa.2 hn8 hr_ia.1 hr_ia.2 hr_sf.1 Y46 rfl (own_g0 _) Y47 Y48 Y49 Y50 (Nat.le_trans Z0 Y19) (own_q1 hc164 hlt_a) hq Y39) rfl rfl (lenOf own_pd59 rfl) rfl N30 0 rfl (by decide) fun v37 T37 h37 L37 N37 q37 e37 X37 hS37 K R37 => ?_
    obtain ⟨ar33, en34, kk35, rfl, K37, Y58, Y59, Y60, Y61, Y62, Y63, Y64, Y65, Y66, Y67, Y68, Y69, Y70, Y71, Y72, Y73⟩ := q37
    have Y74 := Nat.le_trans (Nat.le_trans z22 K23.1) Y71
    by_cases hc171 : nn = (1 : Int32)
    · have Sy38 : own_Sy Z q nn (0 : Int32) sf arr ka lo0 hi0 B h37 own_no := by have q9 := Y58; rw [own_Wy (own_nq hc164 hc171)] at q9; exact q9
      refine oPop X37 K rfl rfl <| oJ X37 K rfl rfl <| oFN X37 K rfl (XT.i0_ne_f hc164) <| oJ X37 K rfl rfl <| oC (z := 1) X37 K rfl rfl <| oSub X37 K rfl rfl <| oGo X37 K rfl <| oSI (L' := #[.val (.int x0), .val (.int x1), .val (.int x2), .val (.int x3), .val (.int x4), .val (.int x5), .val (.int nn), .val (.int tt), .val (.int sf), .val (.int ia), .val (.int ib), .val (.int fa), .val (.int fb), .val (.ref b1), .val (.ref b6), .val (.ref b12), .val (.ref b18), .val (.int 1), .val (.int (nn - (1 : Int32))), .unset, .unset, .unset, .unset]) X37 K rfl rfl <| oB X37 K rfl rfl rfl ?_
      have Sn39 : own_Sy Z q nn (0 : Int32) sf arr ka lo0 hi0 B h37 own_no := Sy38
      have z41 := (Nat.le_trans (Nat.le_trans z22 K23.1) K37.1)
      refine oVc X37 K rfl (H 288) (H 289) (notFace_of_selects (args := #[]) (mvT K.wz (H 291))) (H 291) (H 290) (H 292) (H 4) (by decide) e37 (Y40.keep K37) (own_live hw (Nat.le_trans Z0 z41) (nn := nn) (tt := (0 : Int32)) (sf := sf) (ka := ka) (lo0 := lo0) (hi0 := hi0) (B := B) (W := own_no) (Y45.keep K37 (own_ninW (Or.inl hlaA) (ninS (Exa.ne (Y40.keep K37) Y59 (by decide)) (ninS (Ne.symm (Ne.symm hnaA)) nin0)))) Sn39 hn8) rfl rfl (lenOf own_pd11 rfl) rfl N37 0 rfl (by decide) fun v42 T42 h42 L42 N42 q42 e42 X42 => ?_
      obtain ⟨rfl, y42⟩ := q42
      refine oJ X42 K rfl rfl <| oCN X42 K rfl (XT.ii_ne_f (by rw [own_ct_no, hc171]; decide)) <| oC (z := 1) X42 K rfl rfl <| oGo X42 K rfl <| oSI (L' := #[.val (.int x0), .val (.int x1), .val (.int x2), .val (.int x3), .val (.int x4), .val (.int x5), .val (.int nn), .val (.int tt), .val (.int sf), .val (.int ia), .val (.int ib), .val (.int fa), .val (.int fb), .val (.ref b1), .val (.ref b6), .val (.ref b12), .val (.ref b18), .val (.int 1), .val (.int (nn - (1 : Int32))), .val (.int 1), .unset, .unset, .unset]) X42 K rfl rfl ?_
      have Y75 := (Old.keep Y39 K37 (own_allW (fun y l _ => Nat.le_trans Y21 l) (allS (Nat.le_trans Z0 Y19) (allS (Nat.le_trans Z0 Y20) all0))))
      have Y76 := (Y40.keep K37)
      have Y77 := (Y41.keep K37 (own_ninW (Or.inl hlaA) (ninS (Exa.ne Y76 Y59 (by decide)) (ninS (Ne.symm (Ne.symm hnaA)) nin0))))
      have Y78 := (Y42.keep K37 (own_ninW (Or.inl hlaA) (ninS (Exa.ne Y76 Y59 (by decide)) (ninS (Ne.symm (Ne.symm hnaA)) nin0))))
      have Y79 := (Y43.keep K37 (own_ninW (Or.inl hlaA) (ninS (Exa.ne Y76 Y59 (by decide)) (ninS (Ne.symm (Ne.symm hnaA)) nin0))))
      have Y80 := (Y44.keep K37 (own_ninW (Or.inl hlaA) (ninS (Exa.ne Y76 Y59 (by decide)) (ninS (Ne.symm (Ne.symm hnaA)) nin0))))
      have Y81 := (Y45.keep K37 (own_ninW (Or.inl hlaA) (ninS (Exa.ne Y76 Y59 (by decide)) (ninS (Ne.symm (Ne.symm hnaA)) nin0))))
      have Y82 := (Y51.keep K37)
      have Y83 := (Y33.keep K37)
      have Y84 := (Y34.keep K37 (own_ninW (Or.inr hx28_b18) (ninS (Ne.symm (Exa.ne Y59 Y83 (by decide))) (ninS (Ne.symm (oNe (Nat.lt_of_lt_of_le Sy0.al Sy0.lh) hx28_b18)) nin0))))
      have Y85 := (Y35.keep K37 (own_ninW (Or.inr hx28_b18) (ninS (Ne.symm (Exa.ne Y59 Y83 (by decide))) (ninS (Ne.symm (oNe (Nat.lt_of_lt_of_le Sy0.al Sy0.lh) hx28_b18)) nin0))))
      have Y86 := (Y36.keep K37 (own_ninW (Or.inr hx28_b18) (ninS (Ne.symm (Exa.ne Y59 Y83 (by decide))) (ninS (Ne.symm (oNe (Nat.lt_of_lt_of_le Sy0.al Sy0.lh) hx28_b18)) nin0))))
      have Y87 := (Y37.keep K37 (own_ninW (Or.inr hx28_b18) (ninS (Ne.symm (Exa.ne Y59 Y83 (by decide))) (ninS (Ne.symm (oNe (Nat.lt_of_lt_of_le Sy0.al Sy0.lh) hx28_b18)) nin0))))
      have Y88 := (Y38.keep K37 (own_ninW (Or.inr hx28_b18) (ninS (Ne.symm (Exa.ne Y59 Y83 (by decide))) (ninS (Ne.symm (oNe (Nat.lt_of_lt_of_le Sy0.al Sy0.lh) hx28_b18)) nin0))))
      by_cases hc205 : ib = ia
      · refine oB X42 K rfl rfl rfl <| oB X42 K rfl rfl rfl ?_
        have Sn44 : own_Sy Z q nn (0 : Int32) sf arr ka lo0 hi0 B h37 own_no := Sn39
        refine oVw X42 K hS37 (Nat.le_refl _) hEL R37 rfl (H 293) (H 294) (notFace_of_selects (args := #[]) (mvT K.wz (H 296))) (H 296) (H 295) (H 297) (H 4) (by decide) (e42.trans y42) Y76 (own_rcvN hw (Nat.le_trans Z0 z41) (nn := nn) (tt := (0 : Int32)) (sf := sf) (ka := ka) (lo0 := lo0) (hi0 := hi0) (B := B) (W := own_no) Y76 Y77 Y78 Y79 Y80 Y81 Sn44 hlaA hnaA hltm hnt (Nat.le_trans Z0 Y20) Y21 Y83 Y84 Y85 Y86 Y87 Y88 Y82 hr_fb.1 hr_fb.2 hn8 hr_ib.1 hr_ib.2 hr_sf.1 Y59 (by simp [own_no]) hq Y75) rfl rfl (lenOf own_pd59 rfl) rfl N42 0 rfl (by decide) fun v47 T47 h47 L47 N47 q47 e47 X47 hS47 K R47 => ?_
        obtain ⟨ar45, rfl, K47, Y89⟩ := q47
        refine oPop X47 K rfl rfl <| oJ X47 K rfl rfl <| oFY X47 K rfl (XT.i0_eq_t hc164) <| oJ X47 K rfl rfl <| oJ X47 K rfl rfl <| oCN X47 K rfl (XT.ii_ne_f hc205) <| oJ X47 K rfl rfl <| oC (z := 1) X47 K rfl rfl <| oSub X47 K rfl rfl <| oSI (L' := #[.val (.int x0), .val (.int x1), .val (.int x2), .val (.int x3), .val (.int x4), .val (.int x5), .val (.int nn), .val (.int tt), .val (.int sf), .val (.int ia), .val (.int ib), .val (.int fa), .val (.int fb), .val (.ref b1), .val (.ref b6), .val (.ref b12), .val (.ref b18), .val (.int 1), .val (.int (nn - (1 : Int32))), .val (.int 1), .val (.int (nn - (1 : Int32))), .unset, .unset]) X47 K rfl rfl <| oGo X47 K rfl <| oB X47 K rfl rfl rfl ?_
        have Sn48 : own_Sy Z q nn (0 : Int32) sf arr ka lo0 hi0 B h47 own_no := Y89
        refine oVc X47 K rfl (H 288) (H 289) (notFace_of_selects (args := #[]) (mvT K.wz (H 291))) (H 291) (H 290) (H 292) (H 4) (by decide) e47 (Y76.keep K47) (own_live hw (Nat.le_trans Z0 (Nat.le_trans z41 K47.1)) (nn := nn) (tt := (0 : Int32)) (sf := sf) (ka := ka) (lo0 := lo0) (hi0 := hi0) (B := B) (W := own_no) (Y81.keep K47 nin0) Sn48 hn8) rfl rfl (lenOf own_pd11 rfl) rfl N47 0 rfl (by decide) fun v50 T50 h50 L50 N50 q50 e50 X50 => ?_
        obtain ⟨rfl, y50⟩ := q50
        refine oJ X50 K rfl rfl <| oCN X50 K rfl (XT.ii_ne_f (by rw [own_ct_no, hc171]; decide)) <| oC (z := 1) X50 K rfl rfl <| oGo X50 K rfl <| oSI (L' := #[.val (.int x0), .val (.int x1), .val (.int x2), .val (.int x3), .val (.int x4), .val (.int x5), .val (.int nn), .val (.int tt), .val (.int sf), .val (.int ia), .val (.int ib), .val (.int fa), .val (.int fb), .val (.ref b1), .val (.ref b6), .val (.ref b12), .val (.ref b18), .val (.int 1), .val (.int (nn - (1 : Int32))), .val (.int 1), .val (.int (nn - (1 : Int32))), .val (.int 1), .unset]) X50 K rfl rfl <| oB X50 K rfl rfl rfl ?_
        have Sn51 : own_Sy Z q nn (0 : Int32) sf arr ka lo0 hi0 B h47 own_no := Sn48
        refine oVw X50 K hS47 (Nat.le_refl _) hEL R47 rfl (H 687) (H 670) (notFace_of_selects (args := #[]) (mvT K.wz (H 672))) (H 672) (H 671) (H 673) (H 4) (by decide) (e50.trans y50) (Y76.keep K47) (own_quit hw (Nat.le_trans Z0 (Nat.le_trans z41 K47.1)) (nn := nn) (tt := (0 : Int32)) (sf := sf) (ka := ka) (lo0 := lo0) (hi0 := hi0) (B := B) (W := own_no) (Y76.keep K47) (Y81.keep K47 nin0) Sn51 hn8 hlaA hnaA (Nat.le_trans Z0 Y20) Y21 hq (Old.keep Y75 K47 all0)) rfl rfl (lenOf own_pd33 rfl) rfl N50 0 rfl (by decide) fun v53 T53 h53 L53 N53 q53 e53 X53 hS53 K R53 => ?_
        obtain ⟨qr, rfl, K53, Y90, Y91, Y92, Y93, Y94⟩ := q53
        have Y95 := Nat.le_trans (Nat.le_trans z41 K47.1) Y94
        refine oPop X53 K rfl rfl <| oB X53 K rfl rfl rfl ?_
        have Sn54 : own_Sy Z q nn (0 : Int32) sf arr ka lo0 hi0 B h53 own_no := Y90
        have z56 := (Nat.le_trans (Nat.le_trans z41 K47.1) K53.1)
        refine oVc X53 K rfl (H 288) (H 289) (notFace_of_selects (args := #[]) (mvT K.wz (H 291))) (H 291) (H 290) (H 292) (H 4) (by decide) e53 ((Y76.keep K47).keep K53) (own_live hw (Nat.le_trans Z0 z56) (nn := nn) (tt := (0 : Int32)) (sf := sf) (ka := ka) (lo0 := lo0) (hi0 := hi0) (B := B) (W := own_no) ((Y81.keep K47 nin0).keep K53 (own_ninW (Or.inl hlaA) (ninS (Ne.symm (Ne.symm hnaA)) nin0))) Sn54 hn8) rfl rfl (lenOf own_pd11 rfl) rfl N53 0 rfl (by decide) fun v57 T57 h57 L57 N57 q57 e57 X57 => ?_
        obtain ⟨rfl, y57⟩ := q57
        refine oFN X57 K rfl (XT.i0_ne_f (own_ct_no _)) <| oC (z := 1) X57 K rfl rfl <| oGo X57 K rfl <| oSI (L' := #[.val (.int x0), .val (.int x1), .val (.int x2), .val (.int x3), .val (.int x4), .val (.int x5), .val (.int nn), .val (.int tt), .val (.int sf), .val (.int ia), .val (.int ib), .val (.int fa), .val (.int fb), .val (.ref b1), .val (.ref b6), .val (.ref b12), .val (.ref b18), .val (.int 1), .val (.int (nn - (1 : Int32))), .val (.int 1), .val (.int (nn - (1 : Int32))), .val (.int 1), .val (.int 1)]) X57 K rfl rfl <| oJ X57 K rfl rfl <| oFN X57 K rfl (XT.i0_eq_f (by decide : ¬ ((1 : Int32) = (0 : Int32)))) <| oJ X57 K rfl rfl <| oFN X57 K rfl (XT.i0_eq_f (by decide : ¬ ((1 : Int32) = (0 : Int32)))) <| oJ X57 K rfl rfl <| oFN X57 K rfl (XT.i0_eq_f (by decide : ¬ ((1 : Int32) = (0 : Int32)))) <| oJ X57 K rfl rfl <| oFN X57 K rfl (XT.i0_eq_f (by decide : ¬ ((1 : Int32) = (0 : Int32)))) ?_
        refine oC (z := 1) X57 K rfl rfl <| oGo X57 K rfl ?_
        exact oRnw X57 K (by simp) rfl (e57.trans y57) N57 (by decide) hh hEL hS53 (Nat.le_refl _) R53 rfl
      · exact absurd (own_one hc171 hr_ia.1 hr_ia.2 hr_ib.1 hr_ib.2) hc205
    · have Sy58 : own_Sy Z q nn (0 : Int32) sf arr ka lo0 hi0 B h37 (own_up own_W0 (own_ix ia) none) := by have q9 := Y58; rw [own_Wx (own_nqn hc164 hc171)] at q9; exact q9
      refine oPop X37 K rfl rfl <| oJ X37 K rfl rfl <| oFN X37 K rfl (XT.i0_ne_f hc164) <| oJ X37 K rfl rfl <| oC (z := 1) X37 K rfl rfl <| oSub X37 K rfl rfl <| oGo X37 K rfl <| oSI (L' := #[.val (.int x0), .val (.int x1), .val (.int x2), .val (.int x3), .val (.int x4), .val (.int x5), .val (.int nn), .val (.int tt), .val (.int sf), .val (.int ia), .val (.int ib), .val (.int fa), .val (.int fb), .val (.ref b1), .val (.ref b6), .val (.ref b12), .val (.ref b18), .val (.int 1), .val (.int (nn - (1 : Int32))), .unset, .unset, .unset, .unset]) X37 K rfl rfl <| oB X37 K rfl rfl rfl ?_
      have Sn59 : own_Sy Z q nn (0 : Int32) sf arr ka lo0 hi0 B h37 (own_up own_W0 (own_ix ia) none) := Sy58
      have z61 := (Nat.le_trans (Nat.le_trans z22 K23.1) K37.1)
      refine oVc X37 K rfl (H 288) (H 289) (notFace_of_selects (args := #[]) (mvT K.wz (H 291))) (H 291) (H 290) (H 292) (H 4) (by decide) e37 (Y40.keep K37) (own_live hw (Nat.le_trans Z0 z61) (nn := nn) (tt := (0 : Int32)) (sf := sf) (ka := ka) (lo0 := lo0) (hi0 := hi0) (B := B) (W := (own_up own_W0 (own_ix ia) none)) (Y45.keep K37 (own_ninW (Or.inl hlaA) (ninS (Exa.ne (Y40.keep K37) Y59 (by decide)) (ninS (Ne.symm (Ne.symm hnaA)) nin0)))) Sn59 hn8) rfl rfl (lenOf own_pd11 rfl) rfl N37 0 rfl (by decide) fun v62 T62 h62 L62 N62 q62 e62 X62 => ?_
      obtain ⟨rfl, y62⟩ := q62
      refine oJ X62 K rfl rfl <| oCN X62 K rfl (XT.ii_ne_f (by rw [own_ct_less rfl hlt_a, own_ctW0 hn8])) <| oC (z := 1) X62 K rfl rfl <| oGo X62 K rfl <| oSI (L' := #[.val (.int x0), .val (.int x1), .val (.int x2), .val (.int x3), .val (.int x4), .val (.int x5), .val (.int nn), .val (.int tt), .val (.int sf), .val (.int ia), .val (.int ib), .val (.int fa), .val (.int fb), .val (.ref b1), .val (.ref b6), .val (.ref b12), .val (.ref b18), .val (.int 1), .val (.int (nn - (1 : Int32))), .val (.int 1), .unset, .unset, .unset]) X62 K rfl rfl ?_
      have Y96 := (Old.keep Y39 K37 (own_allW (fun y l _ => Nat.le_trans Y21 l) (allS (Nat.le_trans Z0 Y19) (allS (Nat.le_trans Z0 Y20) all0))))
      have Y97 := (Y40.keep K37)
      have Y98 := (Y41.keep K37 (own_ninW (Or.inl hlaA) (ninS (Exa.ne Y97 Y59 (by decide)) (ninS (Ne.symm (Ne.symm hnaA)) nin0))))
      have Y99 := (Y42.keep K37 (own_ninW (Or.inl hlaA) (ninS (Exa.ne Y97 Y59 (by decide)) (ninS (Ne.symm (Ne.symm hnaA)) nin0))))
      have Y100 := (Y43.keep K37 (own_ninW (Or.inl hlaA) (ninS (Exa.ne Y97 Y59 (by decide)) (ninS (Ne.symm (Ne.symm hnaA)) nin0))))
      have Y101 := (Y44.keep K37 (own_ninW (Or.inl hlaA) (ninS (Exa.ne Y97 Y59 (by decide)) (ninS (Ne.symm (Ne.symm hnaA)) nin0))))
      have Y102 := (Y45.keep K37 (own_ninW (Or.inl hlaA) (ninS (Exa.ne Y97 Y59 (by decide)) (ninS (Ne.symm (Ne.symm hnaA)) nin0))))
      have Y103 := (Y51.keep K37)
      have Y104 := (Y33.keep K37)
      have Y105 := (Y34.keep K37 (own_ninW (Or.inr hx28_b18) (ninS (Ne.symm (Exa.ne Y59 Y104 (by decide))) (ninS (Ne.symm (oNe (Nat.lt_of_lt_of_le Sy0.al Sy0.lh) hx28_b18)) nin0))))
      have Y106 := (Y35.keep K37 (own_ninW (Or.inr hx28_b18) (ninS (Ne.symm (Exa.ne Y59 Y104 (by decide))) (ninS (Ne.symm (oNe (Nat.lt_of_lt_of_le Sy0.al Sy0.lh) hx28_b18)) nin0))))
      have Y107 := (Y36.keep K37 (own_ninW (Or.inr hx28_b18) (ninS (Ne.symm (Exa.ne Y59 Y104 (by decide))) (ninS (Ne.symm (oNe (Nat.lt_of_lt_of_le Sy0.al Sy0.lh) hx28_b18)) nin0))))
      have Y108 := (Y37.keep K37 (own_ninW (Or.inr hx28_b18) (ninS (Ne.symm (Exa.ne Y59 Y104 (by decide))) (ninS (Ne.symm (oNe (Nat.lt_of_lt_of_le Sy0.al Sy0.lh) hx28_b18)) nin0))))
      have Y109 := (Y38.keep K37 (own_ninW (Or.inr hx28_b18) (ninS (Ne.symm (Exa.ne Y59 Y104 (by decide))) (ninS (Ne.symm (oNe (Nat.lt_of_lt_of_le Sy0.al Sy0.lh) hx28_b18)) nin0))))
      by_cases hc205 : ib = ia
      · refine oB X62 K rfl rfl rfl <| oB X62 K rfl rfl rfl ?_
        have Sn64 : own_Sy Z q nn (0 : Int32) sf arr ka lo0 hi0 B h37 (own_up own_W0 (own_ix ia) none) := Sn59
        refine oVw X62 K hS37 (Nat.le_refl _) hEL R37 rfl (H 293) (H 294) (notFace_of_selects (args := #[]) (mvT K.wz (H 296))) (H 296) (H 295) (H 297) (H 4) (by decide) (e62.trans y62) Y97 (own_rcvN hw (Nat.le_trans Z0 z61) (nn := nn) (tt := (0 : Int32)) (sf := sf) (ka := ka) (lo0 := lo0) (hi0 := hi0) (B := B) (W := (own_up own_W0 (own_ix ia) none)) Y97 Y98 Y99 Y100 Y101 Y102 Sn64 hlaA hnaA hltm hnt (Nat.le_trans Z0 Y20) Y21 Y104 Y105 Y106 Y107 Y108 Y109 Y103 hr_fb.1 hr_fb.2 hn8 hr_ib.1 hr_ib.2 hr_sf.1 Y59 (by rw [own_upeq (congrArg own_ix hc205)]; decide) hq Y96) rfl rfl (lenOf own_pd59 rfl) rfl N62 0 rfl (by decide) fun v67 T67 h67 L67 N67 q67 e67 X67 hS67 K R67 => ?_
        obtain ⟨ar65, rfl, K67, Y110⟩ := q67
        refine oPop X67 K rfl rfl <| oJ X67 K rfl rfl <| oFY X67 K rfl (XT.i0_eq_t hc164) <| oJ X67 K rfl rfl <| oJ X67 K rfl rfl <| oCN X67 K rfl (XT.ii_ne_f hc205) <| oJ X67 K rfl rfl <| oC (z := 1) X67 K rfl rfl <| oSub X67 K rfl rfl <| oSI (L' := #[.val (.int x0), .val (.int x1), .val (.int x2), .val (.int x3), .val (.int x4), .val (.int x5), .val (.int nn), .val (.int tt), .val (.int sf), .val (.int ia), .val (.int ib), .val (.int fa), .val (.int fb), .val (.ref b1), .val (.ref b6), .val (.ref b12), .val (.ref b18), .val (.int 1), .val (.int (nn - (1 : Int32))), .val (.int 1), .val (.int (nn - (1 : Int32))), .unset, .unset]) X67 K rfl rfl <| oGo X67 K rfl <| oB X67 K rfl rfl rfl ?_
        have Sn68 : own_Sy Z q nn (0 : Int32) sf arr ka lo0 hi0 B h67 (own_up own_W0 (own_ix ia) none) := Y110
        refine oVc X67 K rfl (H 288) (H 289) (notFace_of_selects (args := #[]) (mvT K.wz (H 291))) (H 291) (H 290) (H 292) (H 4) (by decide) e67 (Y97.keep K67) (own_live hw (Nat.le_trans Z0 (Nat.le_trans z61 K67.1)) (nn := nn) (tt := (0 : Int32)) (sf := sf) (ka := ka) (lo0 := lo0) (hi0 := hi0) (B := B) (W := (own_up own_W0 (own_ix ia) none)) (Y102.keep K67 nin0) Sn68 hn8) rfl rfl (lenOf own_pd11 rfl) rfl N67 0 rfl (by decide) fun v70 T70 h70 L70 N70 q70 e70 X70 => ?_
        obtain ⟨rfl, y70⟩ := q70
        refine oJ X70 K rfl rfl <| oCN X70 K rfl (XT.ii_ne_f (by rw [own_ct_less rfl hlt_a, own_ctW0 hn8])) <| oC (z := 1) X70 K rfl rfl <| oGo X70 K rfl <| oSI (L' := #[.val (.int x0), .val (.int x1), .val (.int x2), .val (.int x3), .val (.int x4), .val (.int x5), .val (.int nn), .val (.int tt), .val (.int sf), .val (.int ia), .val (.int ib), .val (.int fa), .val (.int fb), .val (.ref b1), .val (.ref b6), .val (.ref b12), .val (.ref b18), .val (.int 1), .val (.int (nn - (1 : Int32))), .val (.int 1), .val (.int (nn - (1 : Int32))), .val (.int 1), .unset]) X70 K rfl rfl <| oB X70 K rfl rfl rfl ?_
        have Sn71 : own_Sy Z q nn (0 : Int32) sf arr ka lo0 hi0 B h67 (own_up own_W0 (own_ix ia) none) := Sn68
        refine oVw X70 K hS67 (Nat.le_refl _) hEL R67 rfl (H 687) (H 670) (notFace_of_selects (args := #[]) (mvT K.wz (H 672))) (H 672) (H 671) (H 673) (H 4) (by decide) (e70.trans y70) (Y97.keep K67) (own_quit hw (Nat.le_trans Z0 (Nat.le_trans z61 K67.1)) (nn := nn) (tt := (0 : Int32)) (sf := sf) (ka := ka) (lo0 := lo0) (hi0 := hi0) (B := B) (W := (own_up own_W0 (own_ix ia) none)) (Y97.keep K67) (Y102.keep K67 nin0) Sn71 hn8 hlaA hnaA (Nat.le_trans Z0 Y20) Y21 hq (Old.keep Y96 K67 all0)) rfl rfl (lenOf own_pd33 rfl) rfl N70 0 rfl (by decide) fun v73 T73 h73 L73 N73 q73 e73 X73 hS73 K R73 => ?_
        obtain ⟨qr, rfl, K73, Y111, Y112, Y113, Y114, Y115⟩ := q73
        have Y95 := Nat.le_trans (Nat.le_trans z61 K67.1) Y115
        refine oPop X73 K rfl rfl <| oB X73 K rfl rfl rfl ?_
        have Sn74 : own_Sy Z q nn (0 : Int32) sf arr ka lo0 hi0 B h73 own_no := Y111
        have z76 := (Nat.le_trans (Nat.le_trans z61 K67.1) K73.1)
        refine oVc X73 K rfl (H 288) (H 289) (notFace_of_selects (args := #[]) (mvT K.wz (H 291))) (H 291) (H 290) (H 292) (H 4) (by decide) e73 ((Y97.keep K67).keep K73) (own_live hw (Nat.le_trans Z0 z76) (nn := nn) (tt := (0 : Int32)) (sf := sf) (ka := ka) (lo0 := lo0) (hi0 := hi0) (B := B) (W := own_no) ((Y102.keep K67 nin0).keep K73 (own_ninW (Or.inl hlaA) (ninS (Ne.symm (Ne.symm hnaA)) nin0))) Sn74 hn8) rfl rfl (lenOf own_pd11 rfl) rfl N73 0 rfl (by decide) fun v77 T77 h77 L77 N77 q77 e77 X77 => ?_
        obtain ⟨rfl, y77⟩ := q77
        refine oFN X77 K rfl (XT.i0_ne_f (own_ct_no _)) <| oC (z := 1) X77 K rfl rfl <| oGo X77 K rfl <| oSI (L' := #[.val (.int x0), .val (.int x1), .val (.int x2), .val (.int x3), .val (.int x4), .val (.int x5), .val (.int nn), .val (.int tt), .val (.int sf), .val (.int ia), .val (.int ib), .val (.int fa), .val (.int fb), .val (.ref b1), .val (.ref b6), .val (.ref b12), .val (.ref b18), .val (.int 1), .val (.int (nn - (1 : Int32))), .val (.int 1), .val (.int (nn - (1 : Int32))), .val (.int 1), .val (.int 1)]) X77 K rfl rfl <| oJ X77 K rfl rfl <| oFN X77 K rfl (XT.i0_eq_f (by decide : ¬ ((1 : Int32) = (0 : Int32)))) <| oJ X77 K rfl rfl <| oFN X77 K rfl (XT.i0_eq_f (by decide : ¬ ((1 : Int32) = (0 : Int32)))) <| oJ X77 K rfl rfl <| oFN X77 K rfl (XT.i0_eq_f (by decide : ¬ ((1 : Int32) = (0 : Int32)))) <| oJ X77 K rfl rfl <| oFN X77 K rfl (XT.i0_eq_f (by decide : ¬ ((1 : Int32) = (0 : Int32)))) ?_
        refine oC (z := 1) X77 K rfl rfl <| oGo X77 K rfl ?_
        exact oRnw X77 K (by simp) rfl (e77.trans y77) N77 (by decide) hh hEL hS73 (Nat.le_refl _) R73 rfl
      · refine oB X62 K rfl rfl rfl <| oB X62 K rfl rfl rfl ?_
        have Sn78 : own_Sy Z q nn (0 : Int32) sf arr ka lo0 hi0 B h37 (own_up own_W0 (own_ix ia) none) := Sn59
        have hx79_en34 : hi0 <= en34 := Nat.le_trans (Nat.le_trans (Nat.le_trans (Nat.le_trans (Nat.le_trans (Nat.le_trans (Nat.le_trans (Nat.le_trans (Nat.le_of_eq ghi) E6.1) E8.1) K11.1) E12.1) K17.1) E18.1) K23.1) Y71
        refine oVw X62 K hS37 (Nat.le_refl _) hEL R37 rfl (H 293) (H 294) (notFace_of_selects (args := #[]) (mvT K.wz (H 296))) (H 296) (H 295) (H 297) (H 4) (by decide) (e62.trans y62) Y97 (own_rcvB1 hw (Nat.le_trans Z0 z61) (nn := nn) (sf := sf) (ka := ka) (lo0 := lo0) (hi0 := hi0) (B := B) (W := (own_up own_W0 (own_ix ia) none)) (hs := []) (p2 := ia) Y97 Y98 Y99 Y100 Y101 Y102 Sn78 hlaA hnaA hltm hnt (Nat.le_trans Z0 Y20) Y21 Y104 Y105 Y106 Y107 Y108 Y109 Y103 hr_fb.1 hr_fb.2 hn8 hr_ib.1 hr_ib.2 hr_sf.1 Y59 ((own_upne (own_ixne hr_ib.1 hr_ia.1 hc205)).trans rfl) (own_g0 _) Y60 Y61 Y62 Y63 (Nat.le_trans Z0 Y19) (own_q2 hc164 hlt_a hlt_b (own_ixne hr_ib.1 hr_ia.1 hc205)) Y64 Y65 Y66 Y67 Y68 Y69 Y70 (Nat.le_trans Z0 Y74) hx79_en34 Y72 Y73 hc205 hq Y96) rfl rfl (lenOf own_pd59 rfl) rfl N62 0 rfl (by decide) fun v82 T82 h82 L82 N82 q82 e82 X82 hS82 K R82 => ?_
        obtain ⟨ar80, rfl, K82, Y116, Y117⟩ := q82
        by_cases hc212 : nn = (2 : Int32)
        · have Sy83 : own_Sy Z q nn (0 : Int32) sf arr ka lo0 hi0 B h82 own_no := by have q9 := Y116; rw [own_Wy (own_nq hc164 hc212)] at q9; exact q9
          refine oPop X82 K rfl rfl <| oJ X82 K rfl rfl <| oFY X82 K rfl (XT.i0_eq_t hc164) <| oJ X82 K rfl rfl <| oJ X82 K rfl rfl <| oCY X82 K rfl (XT.ii_ne_t hc205) <| oJ X82 K rfl rfl <| oC (z := 2) X82 K rfl rfl <| oSub X82 K rfl rfl <| oSI (L' := #[.val (.int x0), .val (.int x1), .val (.int x2), .val (.int x3), .val (.int x4), .val (.int x5), .val (.int nn), .val (.int tt), .val (.int sf), .val (.int ia), .val (.int ib), .val (.int fa), .val (.int fb), .val (.ref b1), .val (.ref b6), .val (.ref b12), .val (.ref b18), .val (.int 1), .val (.int (nn - (1 : Int32))), .val (.int 1), .val (.int (nn - (2 : Int32))), .unset, .unset]) X82 K rfl rfl <| oB X82 K rfl rfl rfl ?_
          have Sn84 : own_Sy Z q nn (0 : Int32) sf arr ka lo0 hi0 B h82 own_no := Sy83
          refine oVc X82 K rfl (H 288) (H 289) (notFace_of_selects (args := #[]) (mvT K.wz (H 291))) (H 291) (H 290) (H 292) (H 4) (by decide) e82 (Y97.keep K82) (own_live hw (Nat.le_trans Z0 (Nat.le_trans z61 K82.1)) (nn := nn) (tt := (0 : Int32)) (sf := sf) (ka := ka) (lo0 := lo0) (hi0 := hi0) (B := B) (W := own_no) (Y102.keep K82 (own_ninW (Or.inl hlaA) (ninS (Exa.ne (Y97.keep K82) Y117 (by decide)) (ninS (Ne.symm (Ne.symm hnaA)) (ninS (Exa.ne Y97 Y64 (by decide)) nin0))))) Sn84 hn8) rfl rfl (lenOf own_pd11 rfl) rfl N82 0 rfl (by decide) fun v86 T86 h86 L86 N86 q86 e86 X86 => ?_
          obtain ⟨rfl, y86⟩ := q86
          refine oJ X86 K rfl rfl <| oCN X86 K rfl (XT.ii_ne_f (by rw [own_ct_no, hc212]; decide)) <| oC (z := 1) X86 K rfl rfl <| oGo X86 K rfl <| oSI (L' := #[.val (.int x0), .val (.int x1), .val (.int x2), .val (.int x3), .val (.int x4), .val (.int x5), .val (.int nn), .val (.int tt), .val (.int sf), .val (.int ia), .val (.int ib), .val (.int fa), .val (.int fb), .val (.ref b1), .val (.ref b6), .val (.ref b12), .val (.ref b18), .val (.int 1), .val (.int (nn - (1 : Int32))), .val (.int 1), .val (.int (nn - (2 : Int32))), .val (.int 1), .unset]) X86 K rfl rfl <| oB X86 K rfl rfl rfl ?_
          have Sn87 : own_Sy Z q nn (0 : Int32) sf arr ka lo0 hi0 B h82 own_no := Sn84
          refine oVw X86 K hS82 (Nat.le_refl _) hEL R82 rfl (H 687) (H 670) (notFace_of_selects (args := #[]) (mvT K.wz (H 672))) (H 672) (H 671) (H 673) (H 4) (by decide) (e86.trans y86) (Y97.keep K82) (own_quit hw (Nat.le_trans Z0 (Nat.le_trans z61 K82.1)) (nn := nn) (tt := (0 : Int32)) (sf := sf) (ka := ka) (lo0 := lo0) (hi0 := hi0) (B := B) (W := own_no) (Y97.keep K82) (Y102.keep K82 (own_ninW (Or.inl hlaA) (ninS (Exa.ne (Y97.keep K82) Y117 (by decide)) (ninS (Ne.symm (Ne.symm hnaA)) (ninS (Exa.ne Y97 Y64 (by decide)) nin0))))) Sn87 hn8 hlaA hnaA (Nat.le_trans Z0 Y20) Y21 hq (Old.keep Y96 K82 (own_allW (fun y l _ => Nat.le_trans Y21 l) (allS (Nat.le_trans Z0 Y19) (allS (Nat.le_trans Z0 Y20) (allS (Nat.le_trans Z0 Y74) all0)))))) rfl rfl (lenOf own_pd33 rfl) rfl N86 0 rfl (by decide) fun v89 T89 h89 L89 N89 q89 e89 X89 hS89 K R89 => ?_
          obtain ⟨qr, rfl, K89, Y118, Y119, Y120, Y121, Y122⟩ := q89
          have Y95 := Nat.le_trans (Nat.le_trans z61 K82.1) Y122
          refine oPop X89 K rfl rfl <| oB X89 K rfl rfl rfl ?_
          have Sn90 : own_Sy Z q nn (0 : Int32) sf arr ka lo0 hi0 B h89 own_no := Y118
          have z92 := (Nat.le_trans (Nat.le_trans z61 K82.1) K89.1)
          refine oVc X89 K rfl (H 288) (H 289) (notFace_of_selects (args := #[]) (mvT K.wz (H 291))) (H 291) (H 290) (H 292) (H 4) (by decide) e89 ((Y97.keep K82).keep K89) (own_live hw (Nat.le_trans Z0 z92) (nn := nn) (tt := (0 : Int32)) (sf := sf) (ka := ka) (lo0 := lo0) (hi0 := hi0) (B := B) (W := own_no) ((Y102.keep K82 (own_ninW (Or.inl hlaA) (ninS (Exa.ne (Y97.keep K82) Y117 (by decide)) (ninS (Ne.symm (Ne.symm hnaA)) (ninS (Exa.ne Y97 Y64 (by decide)) nin0))))).keep K89 (own_ninW (Or.inl hlaA) (ninS (Ne.symm (Ne.symm hnaA)) nin0))) Sn90 hn8) rfl rfl (lenOf own_pd11 rfl) rfl N89 0 rfl (by decide) fun v93 T93 h93 L93 N93 q93 e93 X93 => ?_
          obtain ⟨rfl, y93⟩ := q93
          refine oFN X93 K rfl (XT.i0_ne_f (own_ct_no _)) <| oC (z := 1) X93 K rfl rfl <| oGo X93 K rfl <| oSI (L' := #[.val (.int x0), .val (.int x1), .val (.int x2), .val (.int x3), .val (.int x4), .val (.int x5), .val (.int nn), .val (.int tt), .val (.int sf), .val (.int ia), .val (.int ib), .val (.int fa), .val (.int fb), .val (.ref b1), .val (.ref b6), .val (.ref b12), .val (.ref b18), .val (.int 1), .val (.int (nn - (1 : Int32))), .val (.int 1), .val (.int (nn - (2 : Int32))), .val (.int 1), .val (.int 1)]) X93 K rfl rfl <| oJ X93 K rfl rfl <| oFN X93 K rfl (XT.i0_eq_f (by decide : ¬ ((1 : Int32) = (0 : Int32)))) <| oJ X93 K rfl rfl <| oFN X93 K rfl (XT.i0_eq_f (by decide : ¬ ((1 : Int32) = (0 : Int32)))) <| oJ X93 K rfl rfl <| oFN X93 K rfl (XT.i0_eq_f (by decide : ¬ ((1 : Int32) = (0 : Int32)))) <| oJ X93 K rfl rfl <| oFN X93 K rfl (XT.i0_eq_f (by decide : ¬ ((1 : Int32) = (0 : Int32)))) ?_
          refine oC (z := 1) X93 K rfl rfl <| oGo X93 K rfl ?_
          exact oRnw X93 K (by simp) rfl (e93.trans y93) N93 (by decide) hh hEL hS89 (Nat.le_refl _) R89 rfl
        · have Sy94 : own_Sy Z q nn (0 : Int32) sf arr ka lo0 hi0 B h82 (own_up (own_up own_W0 (own_ix ia) none) (own_ix ib) none) := by have q9 := Y116; rw [own_Wx (own_nqn hc164 hc212)] at q9; exact q9
          refine oPop X82 K rfl rfl <| oJ X82 K rfl rfl <| oFY X82 K rfl (XT.i0_eq_t hc164) <| oJ X82 K rfl rfl <| oJ X82 K rfl rfl <| oCY X82 K rfl (XT.ii_ne_t hc205) <| oJ X82 K rfl rfl <| oC (z := 2) X82 K rfl rfl <| oSub X82 K rfl rfl <| oSI (L' := #[.val (.int x0), .val (.int x1), .val (.int x2), .val (.int x3), .val (.int x4), .val (.int x5), .val (.int nn), .val (.int tt), .val (.int sf), .val (.int ia), .val (.int ib), .val (.int fa), .val (.int fb), .val (.ref b1), .val (.ref b6), .val (.ref b12), .val (.ref b18), .val (.int 1), .val (.int (nn - (1 : Int32))), .val (.int 1), .val (.int (nn - (2 : Int32))), .unset, .unset]) X82 K rfl rfl <| oB X82 K rfl rfl rfl ?_
          have Sn95 : own_Sy Z q nn (0 : Int32) sf arr ka lo0 hi0 B h82 (own_up (own_up own_W0 (own_ix ia) none) (own_ix ib) none) := Sy94
          refine oVc X82 K rfl (H 288) (H 289) (notFace_of_selects (args := #[]) (mvT K.wz (H 291))) (H 291) (H 290) (H 292) (H 4) (by decide) e82 (Y97.keep K82) (own_live hw (Nat.le_trans Z0 (Nat.le_trans z61 K82.1)) (nn := nn) (tt := (0 : Int32)) (sf := sf) (ka := ka) (lo0 := lo0) (hi0 := hi0) (B := B) (W := (own_up (own_up own_W0 (own_ix ia) none) (own_ix ib) none)) (Y102.keep K82 (own_ninW (Or.inl hlaA) (ninS (Exa.ne (Y97.keep K82) Y117 (by decide)) (ninS (Ne.symm (Ne.symm hnaA)) (ninS (Exa.ne Y97 Y64 (by decide)) nin0))))) Sn95 hn8) rfl rfl (lenOf own_pd11 rfl) rfl N82 0 rfl (by decide) fun v97 T97 h97 L97 N97 q97 e97 X97 => ?_
          obtain ⟨rfl, y97⟩ := q97
          refine oJ X97 K rfl rfl <| oCN X97 K rfl (XT.ii_ne_f (by rw [own_ct_less (own_some ((own_upne (own_ixne hr_ib.1 hr_ia.1 hc205)).trans rfl)) hlt_b, own_ct_less rfl hlt_a, own_ctW0 hn8]; exact own_m2 nn)) <| oC (z := 1) X97 K rfl rfl <| oGo X97 K rfl <| oSI (L' := #[.val (.int x0), .val (.int x1), .val (.int x2), .val (.int x3), .val (.int x4), .val (.int x5), .val (.int nn), .val (.int tt), .val (.int sf), .val (.int ia), .val (.int ib), .val (.int fa), .val (.int fb), .val (.ref b1), .val (.ref b6), .val (.ref b12), .val (.ref b18), .val (.int 1), .val (.int (nn - (1 : Int32))), .val (.int 1), .val (.int (nn - (2 : Int32))), .val (.int 1), .unset]) X97 K rfl rfl <| oB X97 K rfl rfl rfl ?_
          have Sn98 : own_Sy Z q nn (0 : Int32) sf arr ka lo0 hi0 B h82 (own_up (own_up own_W0 (own_ix ia) none) (own_ix ib) none) := Sn95
          refine oVw X97 K hS82 (Nat.le_refl _) hEL R82 rfl (H 687) (H 670) (notFace_of_selects (args := #[]) (mvT K.wz (H 672))) (H 672) (H 671) (H 673) (H 4) (by decide) (e97.trans y97) (Y97.keep K82) (own_quit hw (Nat.le_trans Z0 (Nat.le_trans z61 K82.1)) (nn := nn) (tt := (0 : Int32)) (sf := sf) (ka := ka) (lo0 := lo0) (hi0 := hi0) (B := B) (W := (own_up (own_up own_W0 (own_ix ia) none) (own_ix ib) none)) (Y97.keep K82) (Y102.keep K82 (own_ninW (Or.inl hlaA) (ninS (Exa.ne (Y97.keep K82) Y117 (by decide)) (ninS (Ne.symm (Ne.symm hnaA)) (ninS (Exa.ne Y97 Y64 (by decide)) nin0))))) Sn98 hn8 hlaA hnaA (Nat.le_trans Z0 Y20) Y21 hq (Old.keep Y96 K82 (own_allW (fun y l _ => Nat.le_trans Y21 l) (allS (Nat.le_trans Z0 Y19) (allS (Nat.le_trans Z0 Y20) (allS (Nat.le_trans Z0 Y74) all0)))))) rfl rfl (lenOf own_pd33 rfl) rfl N97 0 rfl (by decide) fun v100 T100 h100 L100 N100 q100 e100 X100 hS100 K R100 => ?_
          obtain ⟨qr, rfl, K100, Y123, Y124, Y125, Y126, Y127⟩ := q100
          have Y95 := Nat.le_trans (Nat.le_trans z61 K82.1) Y127
          refine oPop X100 K rfl rfl <| oB X100 K rfl rfl rfl ?_
          have Sn101 : own_Sy Z q nn (0 : Int32) sf arr ka lo0 hi0 B h100 own_no := Y123
          have z103 := (Nat.le_trans (Nat.le_trans z61 K82.1) K100.1)
          refine oVc X100 K rfl (H 288) (H 289) (notFace_of_selects (args := #[]) (mvT K.wz (H 291))) (H 291) (H 290) (H 292) (H 4) (by decide) e100 ((Y97.keep K82).keep K100) (own_live hw (Nat.le_trans Z0 z103) (nn := nn) (tt := (0 : Int32)) (sf := sf) (ka := ka) (lo0 := lo0) (hi0 := hi0) (B := B) (W := own_no) ((Y102.keep K82 (own_ninW (Or.inl hlaA) (ninS (Exa.ne (Y97.keep K82) Y117 (by decide)) (ninS (Ne.symm (Ne.symm hnaA)) (ninS (Exa.ne Y97 Y64 (by decide)) nin0))))).keep K100 (own_ninW (Or.inl hlaA) (ninS (Ne.symm (Ne.symm hnaA)) nin0))) Sn101 hn8) rfl rfl (lenOf own_pd11 rfl) rfl N100 0 rfl (by decide) fun v104 T104 h104 L104 N104 q104 e104 X104 => ?_
          obtain ⟨rfl, y104⟩ := q104
          refine oFN X104 K rfl (XT.i0_ne_f (own_ct_no _)) <| oC (z := 1) X104 K rfl rfl <| oGo X104 K rfl <| oSI (L' := #[.val (.int x0), .val (.int x1), .val (.int x2), .val (.int x3), .val (.int x4), .val (.int x5), .val (.int nn), .val (.int tt), .val (.int sf), .val (.int ia), .val (.int ib), .val (.int fa), .val (.int fb), .val (.ref b1), .val (.ref b6), .val (.ref b12), .val (.ref b18), .val (.int 1), .val (.int (nn - (1 : Int32))), .val (.int 1), .val (.int (nn - (2 : Int32))), .val (.int 1), .val (.int 1)]) X104 K rfl rfl <| oJ X104 K rfl rfl <| oFN X104 K rfl (XT.i0_eq_f (by decide : ¬ ((1 : Int32) = (0 : Int32)))) <| oJ X104 K rfl rfl <| oFN X104 K rfl (XT.i0_eq_f (by decide : ¬ ((1 : Int32) = (0 : Int32)))) <| oJ X104 K rfl rfl <| oFN X104 K rfl (XT.i0_eq_f (by decide : ¬ ((1 : Int32) = (0 : Int32)))) <| oJ X104 K rfl rfl <| oFN X104 K rfl (XT.i0_eq_f (by decide : ¬ ((1 : Int32) = (0 : Int32)))) ?_
          refine oC (z := 1) X104 K rfl rfl <| oGo X104 K rfl ?_
          exact oRnw X104 K (by simp) rfl (e104.trans y104) N104 (by decide) hh hEL hS100 (Nat.le_refl _) R100 rfl
  · refine oB X30 K rfl rfl rfl <| oB X30 K rfl rfl rfl ?_
    have Sn105 : own_Sy Z q nn tt sf arr ka lo0 hi0 B h23 own_W0 := Sn25
    refine oVw X30 K hS23 (Nat.le_refl _) hEL R23 rfl (H 293) (H 294) (notFace_of_selects (args := #[]) (mvT K.wz (H 296))) (H 296) (H 295) (H 297) (H 4) (by decide) (e30.trans y30) Y40 (own_rcvA hw (Nat.le_trans Z0 (Nat.le_trans z22 K23.1)) (nn := nn) (tt := tt) (sf := sf) (ka := ka) (lo0 := lo0) (hi0 := hi0) (B := B) (W := own_W0) (hs := []) Y40 Y41 Y42 Y43 Y44 Y45 Sn105 hlaA hnaA hltm hnt (Nat.le_trans Z0 Y20) Y21 Y52 Y53 Y54 Y55 Y56 Y57 Y51 hr_fa.1 hr_fa.2 hn8 hr_ia.1 hr_ia.2 hr_sf.1 Y46 rfl (own_g0 _) (own_tA hn8 hr_tt hc164).1 (own_tA hn8 hr_tt hc164).2 hq Y39) rfl rfl (lenOf own_pd59 rfl) rfl N30 0 rfl (by decide) fun v108 T108 h108 L108 N108 q108 e108 X108 hS108 K R108 => ?_
    obtain ⟨ar106, rfl, K108, Y128⟩ := q108
    refine oPop X108 K rfl rfl <| oJ X108 K rfl rfl <| oFY X108 K rfl (XT.i0_ne_t hc164) <| oJ X108 K rfl rfl <| oSI (L' := #[.val (.int x0), .val (.int x1), .val (.int x2), .val (.int x3), .val (.int x4), .val (.int x5), .val (.int nn), .val (.int tt), .val (.int sf), .val (.int ia), .val (.int ib), .val (.int fa), .val (.int fb), .val (.ref b1), .val (.ref b6), .val (.ref b12), .val (.ref b18), .val (.int 1), .val (.int nn), .unset, .unset, .unset, .unset]) X108 K rfl rfl <| oB X108 K rfl rfl rfl ?_
    have Sn109 : own_Sy Z q nn tt sf arr ka lo0 hi0 B h108 (own_up own_W0 (own_ix ia) (some (some ⟨((fa, .int 1) :: []), (1 : Int32), .ref b6, (1 : Int32)⟩))) := Y128
    have z111 := (Nat.le_trans (Nat.le_trans z22 K23.1) K108.1)
    refine oVc X108 K rfl (H 288) (H 289) (notFace_of_selects (args := #[]) (mvT K.wz (H 291))) (H 291) (H 290) (H 292) (H 4) (by decide) e108 (Y40.keep K108) (own_live hw (Nat.le_trans Z0 z111) (nn := nn) (tt := tt) (sf := sf) (ka := ka) (lo0 := lo0) (hi0 := hi0) (B := B) (W := (own_up own_W0 (own_ix ia) (some (some ⟨((fa, .int 1) :: []), (1 : Int32), .ref b6, (1 : Int32)⟩)))) (Y45.keep K108 (own_ninW (Or.inl hlaA) nin0)) Sn109 hn8) rfl rfl (lenOf own_pd11 rfl) rfl N108 0 rfl (by decide) fun v112 T112 h112 L112 N112 q112 e112 X112 => ?_
    obtain ⟨rfl, y112⟩ := q112
    refine oJ X112 K rfl rfl <| oCN X112 K rfl (XT.ii_ne_f ((own_ct_same rfl hlt_a).trans (own_ctW0 hn8))) <| oC (z := 1) X112 K rfl rfl <| oGo X112 K rfl <| oSI (L' := #[.val (.int x0), .val (.int x1), .val (.int x2), .val (.int x3), .val (.int x4), .val (.int x5), .val (.int nn), .val (.int tt), .val (.int sf), .val (.int ia), .val (.int ib), .val (.int fa), .val (.int fb), .val (.ref b1), .val (.ref b6), .val (.ref b12), .val (.ref b18), .val (.int 1), .val (.int nn), .val (.int 1), .unset, .unset, .unset]) X112 K rfl rfl ?_
    have Y129 := (Old.keep Y39 K108 (own_allW (fun y l _ => Nat.le_trans Y21 l) all0))
    have Y130 := (Y40.keep K108)
    have Y131 := (Y41.keep K108 (own_ninW (Or.inl hlaA) nin0))
    have Y132 := (Y42.keep K108 (own_ninW (Or.inl hlaA) nin0))
    have Y133 := (Y43.keep K108 (own_ninW (Or.inl hlaA) nin0))
    have Y134 := (Y44.keep K108 (own_ninW (Or.inl hlaA) nin0))
    have Y135 := (Y45.keep K108 (own_ninW (Or.inl hlaA) nin0))
    have Y136 := (Y46.keep K108)
    have Y137 := (Y51.keep K108)
    have Y138 := (Y33.keep K108)
    have Y139 := (Y34.keep K108 (own_ninW (Or.inr hx28_b18) nin0))
    have Y140 := (Y35.keep K108 (own_ninW (Or.inr hx28_b18) nin0))
    have Y141 := (Y36.keep K108 (own_ninW (Or.inr hx28_b18) nin0))
    have Y142 := (Y37.keep K108 (own_ninW (Or.inr hx28_b18) nin0))
    have Y143 := (Y38.keep K108 (own_ninW (Or.inr hx28_b18) nin0))
    by_cases hc205 : ib = ia
    · by_cases hc205' : fb = fa
      · refine oB X112 K rfl rfl rfl <| oB X112 K rfl rfl rfl ?_
        have Sn114 : own_Sy Z q nn tt sf arr ka lo0 hi0 B h108 (own_up own_W0 (own_ix ia) (some (some ⟨((fa, .int 1) :: []), (1 : Int32), .ref b6, (1 : Int32)⟩))) := Sn109
        refine oVw X112 K hS108 (Nat.le_refl _) hEL R108 rfl (H 293) (H 294) (notFace_of_selects (args := #[]) (mvT K.wz (H 296))) (H 296) (H 295) (H 297) (H 4) (by decide) (e112.trans y112) Y130 (own_rcvC hw (Nat.le_trans Z0 z111) (nn := nn) (tt := tt) (sf := sf) (ka := ka) (lo0 := lo0) (hi0 := hi0) (B := B) (W := (own_up own_W0 (own_ix ia) (some (some ⟨((fa, .int 1) :: []), (1 : Int32), .ref b6, (1 : Int32)⟩)))) (hs := ((fa, .int 1) :: [])) Y130 Y131 Y132 Y133 Y134 Y135 Sn114 hlaA hnaA hltm hnt (Nat.le_trans Z0 Y20) Y21 Y138 Y139 Y140 Y141 Y142 Y143 Y137 hr_fb.1 hr_fb.2 hn8 hr_ib.1 hr_ib.2 hr_sf.1 Y136 (own_upeq (congrArg own_ix hc205)) (getH_hit (own_pge hr_fb.1) hc205') hq Y129) rfl rfl (lenOf own_pd59 rfl) rfl N112 0 rfl (by decide) fun v117 T117 h117 L117 N117 q117 e117 X117 hS117 K R117 => ?_
        obtain ⟨ar115, rfl, K117, Y144⟩ := q117
        refine oPop X117 K rfl rfl <| oJ X117 K rfl rfl <| oFN X117 K rfl (XT.i0_eq_f hc164) <| oJ X117 K rfl rfl <| oSI (L' := #[.val (.int x0), .val (.int x1), .val (.int x2), .val (.int x3), .val (.int x4), .val (.int x5), .val (.int nn), .val (.int tt), .val (.int sf), .val (.int ia), .val (.int ib), .val (.int fa), .val (.int fb), .val (.ref b1), .val (.ref b6), .val (.ref b12), .val (.ref b18), .val (.int 1), .val (.int nn), .val (.int 1), .val (.int nn), .unset, .unset]) X117 K rfl rfl <| oGo X117 K rfl <| oB X117 K rfl rfl rfl ?_
        have Sn118 : own_Sy Z q nn tt sf arr ka lo0 hi0 B h117 (own_up own_W0 (own_ix ia) (some (some ⟨((fa, .int 1) :: []), (1 : Int32), .ref b6, (1 : Int32)⟩))) := Y144
        refine oVc X117 K rfl (H 288) (H 289) (notFace_of_selects (args := #[]) (mvT K.wz (H 291))) (H 291) (H 290) (H 292) (H 4) (by decide) e117 (Y130.keep K117) (own_live hw (Nat.le_trans Z0 (Nat.le_trans z111 K117.1)) (nn := nn) (tt := tt) (sf := sf) (ka := ka) (lo0 := lo0) (hi0 := hi0) (B := B) (W := (own_up own_W0 (own_ix ia) (some (some ⟨((fa, .int 1) :: []), (1 : Int32), .ref b6, (1 : Int32)⟩)))) (Y135.keep K117 nin0) Sn118 hn8) rfl rfl (lenOf own_pd11 rfl) rfl N117 0 rfl (by decide) fun v120 T120 h120 L120 N120 q120 e120 X120 => ?_
        obtain ⟨rfl, y120⟩ := q120
        refine oJ X120 K rfl rfl <| oCN X120 K rfl (XT.ii_ne_f ((own_ct_same rfl hlt_a).trans (own_ctW0 hn8))) <| oC (z := 1) X120 K rfl rfl <| oGo X120 K rfl <| oSI (L' := #[.val (.int x0), .val (.int x1), .val (.int x2), .val (.int x3), .val (.int x4), .val (.int x5), .val (.int nn), .val (.int tt), .val (.int sf), .val (.int ia), .val (.int ib), .val (.int fa), .val (.int fb), .val (.ref b1), .val (.ref b6), .val (.ref b12), .val (.ref b18), .val (.int 1), .val (.int nn), .val (.int 1), .val (.int nn), .val (.int 1), .unset]) X120 K rfl rfl <| oB X120 K rfl rfl rfl ?_
        have Sn121 : own_Sy Z q nn tt sf arr ka lo0 hi0 B h117 (own_up own_W0 (own_ix ia) (some (some ⟨((fa, .int 1) :: []), (1 : Int32), .ref b6, (1 : Int32)⟩))) := Sn118
        refine oVw X120 K hS117 (Nat.le_refl _) hEL R117 rfl (H 687) (H 670) (notFace_of_selects (args := #[]) (mvT K.wz (H 672))) (H 672) (H 671) (H 673) (H 4) (by decide) (e120.trans y120) (Y130.keep K117) (own_quit hw (Nat.le_trans Z0 (Nat.le_trans z111 K117.1)) (nn := nn) (tt := tt) (sf := sf) (ka := ka) (lo0 := lo0) (hi0 := hi0) (B := B) (W := (own_up own_W0 (own_ix ia) (some (some ⟨((fa, .int 1) :: []), (1 : Int32), .ref b6, (1 : Int32)⟩)))) (Y130.keep K117) (Y135.keep K117 nin0) Sn121 hn8 hlaA hnaA (Nat.le_trans Z0 Y20) Y21 hq (Old.keep Y129 K117 all0)) rfl rfl (lenOf own_pd33 rfl) rfl N120 0 rfl (by decide) fun v123 T123 h123 L123 N123 q123 e123 X123 hS123 K R123 => ?_
        obtain ⟨qr, rfl, K123, Y145, Y146, Y147, Y148, Y149⟩ := q123
        have Y95 := Nat.le_trans (Nat.le_trans z111 K117.1) Y149
        refine oPop X123 K rfl rfl <| oB X123 K rfl rfl rfl ?_
        have Sn124 : own_Sy Z q nn tt sf arr ka lo0 hi0 B h123 own_no := Y145
        have z126 := (Nat.le_trans (Nat.le_trans z111 K117.1) K123.1)
        refine oVc X123 K rfl (H 288) (H 289) (notFace_of_selects (args := #[]) (mvT K.wz (H 291))) (H 291) (H 290) (H 292) (H 4) (by decide) e123 ((Y130.keep K117).keep K123) (own_live hw (Nat.le_trans Z0 z126) (nn := nn) (tt := tt) (sf := sf) (ka := ka) (lo0 := lo0) (hi0 := hi0) (B := B) (W := own_no) ((Y135.keep K117 nin0).keep K123 (own_ninW (Or.inl hlaA) (ninS (Ne.symm (Ne.symm hnaA)) nin0))) Sn124 hn8) rfl rfl (lenOf own_pd11 rfl) rfl N123 0 rfl (by decide) fun v127 T127 h127 L127 N127 q127 e127 X127 => ?_
        obtain ⟨rfl, y127⟩ := q127
        refine oFN X127 K rfl (XT.i0_ne_f (own_ct_no _)) <| oC (z := 1) X127 K rfl rfl <| oGo X127 K rfl <| oSI (L' := #[.val (.int x0), .val (.int x1), .val (.int x2), .val (.int x3), .val (.int x4), .val (.int x5), .val (.int nn), .val (.int tt), .val (.int sf), .val (.int ia), .val (.int ib), .val (.int fa), .val (.int fb), .val (.ref b1), .val (.ref b6), .val (.ref b12), .val (.ref b18), .val (.int 1), .val (.int nn), .val (.int 1), .val (.int nn), .val (.int 1), .val (.int 1)]) X127 K rfl rfl <| oJ X127 K rfl rfl <| oFN X127 K rfl (XT.i0_eq_f (by decide : ¬ ((1 : Int32) = (0 : Int32)))) <| oJ X127 K rfl rfl <| oFN X127 K rfl (XT.i0_eq_f (by decide : ¬ ((1 : Int32) = (0 : Int32)))) <| oJ X127 K rfl rfl <| oFN X127 K rfl (XT.i0_eq_f (by decide : ¬ ((1 : Int32) = (0 : Int32)))) <| oJ X127 K rfl rfl <| oFN X127 K rfl (XT.i0_eq_f (by decide : ¬ ((1 : Int32) = (0 : Int32)))) <| oC (z := 1) X127 K rfl rfl ?_
        refine oGo X127 K rfl ?_
        exact oRnw X127 K (by simp) rfl (e127.trans y127) N127 (by decide) hh hEL hS123 (Nat.le_refl _) R123 rfl
      · refine oB X112 K rfl rfl rfl <| oB X112 K rfl rfl rfl ?_
        have Sn128 : own_Sy Z q nn tt sf arr ka lo0 hi0 B h108 (own_up own_W0 (own_ix ia) (some (some ⟨((fa, .int 1) :: []), (1 : Int32), .ref b6, (1 : Int32)⟩))) := Sn109
        refine oVw X112 K hS108 (Nat.le_refl _) hEL R108 rfl (H 293) (H 294) (notFace_of_selects (args := #[]) (mvT K.wz (H 296))) (H 296) (H 295) (H 297) (H 4) (by decide) (e112.trans y112) Y130 (own_rcvD hw (Nat.le_trans Z0 z111) (nn := nn) (tt := tt) (sf := sf) (ka := ka) (lo0 := lo0) (hi0 := hi0) (B := B) (W := (own_up own_W0 (own_ix ia) (some (some ⟨((fa, .int 1) :: []), (1 : Int32), .ref b6, (1 : Int32)⟩)))) (hs := ((fa, .int 1) :: [])) Y130 Y131 Y132 Y133 Y134 Y135 Sn128 hlaA hnaA hltm hnt (Nat.le_trans Z0 Y20) Y21 Y138 Y139 Y140 Y141 Y142 Y143 Y137 hr_fb.1 hr_fb.2 hn8 hr_ib.1 hr_ib.2 hr_sf.1 Y136 (own_upeq (congrArg own_ix hc205)) (getH_miss (own_pge hr_fb.1) hc205' (own_g0 _)) (own_tD hn8 hr_tt hc164) hq Y129) rfl rfl (lenOf own_pd59 rfl) rfl N112 0 rfl (by decide) fun v131 T131 h131 L131 N131 q131 e131 X131 hS131 K R131 => ?_
        obtain ⟨ar129, rfl, K131, Y150⟩ := q131
        refine oPop X131 K rfl rfl <| oJ X131 K rfl rfl <| oFN X131 K rfl (XT.i0_eq_f hc164) <| oJ X131 K rfl rfl <| oSI (L' := #[.val (.int x0), .val (.int x1), .val (.int x2), .val (.int x3), .val (.int x4), .val (.int x5), .val (.int nn), .val (.int tt), .val (.int sf), .val (.int ia), .val (.int ib), .val (.int fa), .val (.int fb), .val (.ref b1), .val (.ref b6), .val (.ref b12), .val (.ref b18), .val (.int 1), .val (.int nn), .val (.int 1), .val (.int nn), .unset, .unset]) X131 K rfl rfl <| oGo X131 K rfl <| oB X131 K rfl rfl rfl ?_
        have Sn132 : own_Sy Z q nn tt sf arr ka lo0 hi0 B h131 (own_up (own_up own_W0 (own_ix ia) (some (some ⟨((fa, .int 1) :: []), (1 : Int32), .ref b6, (1 : Int32)⟩))) (own_ix ib) (some none)) := Y150
        refine oVc X131 K rfl (H 288) (H 289) (notFace_of_selects (args := #[]) (mvT K.wz (H 291))) (H 291) (H 290) (H 292) (H 4) (by decide) e131 (Y130.keep K131) (own_live hw (Nat.le_trans Z0 (Nat.le_trans z111 K131.1)) (nn := nn) (tt := tt) (sf := sf) (ka := ka) (lo0 := lo0) (hi0 := hi0) (B := B) (W := (own_up (own_up own_W0 (own_ix ia) (some (some ⟨((fa, .int 1) :: []), (1 : Int32), .ref b6, (1 : Int32)⟩))) (own_ix ib) (some none))) (Y135.keep K131 (own_ninW (Or.inl hlaA) nin0)) Sn132 hn8) rfl rfl (lenOf own_pd11 rfl) rfl N131 0 rfl (by decide) fun v134 T134 h134 L134 N134 q134 e134 X134 => ?_
        obtain ⟨rfl, y134⟩ := q134
        refine oJ X134 K rfl rfl <| oCN X134 K rfl (XT.ii_ne_f ((own_ct_same (own_some (own_upeq (congrArg own_ix hc205))) hlt_b).trans ((own_ct_same rfl hlt_a).trans (own_ctW0 hn8)))) <| oC (z := 1) X134 K rfl rfl <| oGo X134 K rfl <| oSI (L' := #[.val (.int x0), .val (.int x1), .val (.int x2), .val (.int x3), .val (.int x4), .val (.int x5), .val (.int nn), .val (.int tt), .val (.int sf), .val (.int ia), .val (.int ib), .val (.int fa), .val (.int fb), .val (.ref b1), .val (.ref b6), .val (.ref b12), .val (.ref b18), .val (.int 1), .val (.int nn), .val (.int 1), .val (.int nn), .val (.int 1), .unset]) X134 K rfl rfl <| oB X134 K rfl rfl rfl ?_
        have Sn135 : own_Sy Z q nn tt sf arr ka lo0 hi0 B h131 (own_up (own_up own_W0 (own_ix ia) (some (some ⟨((fa, .int 1) :: []), (1 : Int32), .ref b6, (1 : Int32)⟩))) (own_ix ib) (some none)) := Sn132
        refine oVw X134 K hS131 (Nat.le_refl _) hEL R131 rfl (H 687) (H 670) (notFace_of_selects (args := #[]) (mvT K.wz (H 672))) (H 672) (H 671) (H 673) (H 4) (by decide) (e134.trans y134) (Y130.keep K131) (own_quit hw (Nat.le_trans Z0 (Nat.le_trans z111 K131.1)) (nn := nn) (tt := tt) (sf := sf) (ka := ka) (lo0 := lo0) (hi0 := hi0) (B := B) (W := (own_up (own_up own_W0 (own_ix ia) (some (some ⟨((fa, .int 1) :: []), (1 : Int32), .ref b6, (1 : Int32)⟩))) (own_ix ib) (some none))) (Y130.keep K131) (Y135.keep K131 (own_ninW (Or.inl hlaA) nin0)) Sn135 hn8 hlaA hnaA (Nat.le_trans Z0 Y20) Y21 hq (Old.keep Y129 K131 (own_allW (fun y l _ => Nat.le_trans Y21 l) all0))) rfl rfl (lenOf own_pd33 rfl) rfl N134 0 rfl (by decide) fun v137 T137 h137 L137 N137 q137 e137 X137 hS137 K R137 => ?_
        obtain ⟨qr, rfl, K137, Y151, Y152, Y153, Y154, Y155⟩ := q137
        have Y95 := Nat.le_trans (Nat.le_trans z111 K131.1) Y155
        refine oPop X137 K rfl rfl <| oB X137 K rfl rfl rfl ?_
        have Sn138 : own_Sy Z q nn tt sf arr ka lo0 hi0 B h137 own_no := Y151
        have z140 := (Nat.le_trans (Nat.le_trans z111 K131.1) K137.1)
        refine oVc X137 K rfl (H 288) (H 289) (notFace_of_selects (args := #[]) (mvT K.wz (H 291))) (H 291) (H 290) (H 292) (H 4) (by decide) e137 ((Y130.keep K131).keep K137) (own_live hw (Nat.le_trans Z0 z140) (nn := nn) (tt := tt) (sf := sf) (ka := ka) (lo0 := lo0) (hi0 := hi0) (B := B) (W := own_no) ((Y135.keep K131 (own_ninW (Or.inl hlaA) nin0)).keep K137 (own_ninW (Or.inl hlaA) (ninS (Ne.symm (Ne.symm hnaA)) nin0))) Sn138 hn8) rfl rfl (lenOf own_pd11 rfl) rfl N137 0 rfl (by decide) fun v141 T141 h141 L141 N141 q141 e141 X141 => ?_
        obtain ⟨rfl, y141⟩ := q141
        refine oFN X141 K rfl (XT.i0_ne_f (own_ct_no _)) <| oC (z := 1) X141 K rfl rfl <| oGo X141 K rfl <| oSI (L' := #[.val (.int x0), .val (.int x1), .val (.int x2), .val (.int x3), .val (.int x4), .val (.int x5), .val (.int nn), .val (.int tt), .val (.int sf), .val (.int ia), .val (.int ib), .val (.int fa), .val (.int fb), .val (.ref b1), .val (.ref b6), .val (.ref b12), .val (.ref b18), .val (.int 1), .val (.int nn), .val (.int 1), .val (.int nn), .val (.int 1), .val (.int 1)]) X141 K rfl rfl <| oJ X141 K rfl rfl <| oFN X141 K rfl (XT.i0_eq_f (by decide : ¬ ((1 : Int32) = (0 : Int32)))) <| oJ X141 K rfl rfl <| oFN X141 K rfl (XT.i0_eq_f (by decide : ¬ ((1 : Int32) = (0 : Int32)))) <| oJ X141 K rfl rfl <| oFN X141 K rfl (XT.i0_eq_f (by decide : ¬ ((1 : Int32) = (0 : Int32)))) <| oJ X141 K rfl rfl <| oFN X141 K rfl (XT.i0_eq_f (by decide : ¬ ((1 : Int32) = (0 : Int32)))) <| oC (z := 1) X141 K rfl rfl ?_
        refine oGo X141 K rfl ?_
        exact oRnw X141 K (by simp) rfl (e141.trans y141) N141 (by decide) hh hEL hS137 (Nat.le_refl _) R137 rfl
    · refine oB X112 K rfl rfl rfl <| oB X112 K rfl rfl rfl ?_
      have Sn142 : own_Sy Z q nn tt sf arr ka lo0 hi0 B h108 (own_up own_W0 (own_ix ia) (some (some ⟨((fa, .int 1) :: []), (1 : Int32), .ref b6, (1 : Int32)⟩))) := Sn109
      refine oVw X112 K hS108 (Nat.le_refl _) hEL R108 rfl (H 293) (H 294) (notFace_of_selects (args := #[]) (mvT K.wz (H 296))) (H 296) (H 295) (H 297) (H 4) (by decide) (e112.trans y112) Y130 (own_rcvA hw (Nat.le_trans Z0 z111) (nn := nn) (tt := tt) (sf := sf) (ka := ka) (lo0 := lo0) (hi0 := hi0) (B := B) (W := (own_up own_W0 (own_ix ia) (some (some ⟨((fa, .int 1) :: []), (1 : Int32), .ref b6, (1 : Int32)⟩)))) (hs := []) Y130 Y131 Y132 Y133 Y134 Y135 Sn142 hlaA hnaA hltm hnt (Nat.le_trans Z0 Y20) Y21 Y138 Y139 Y140 Y141 Y142 Y143 Y137 hr_fb.1 hr_fb.2 hn8 hr_ib.1 hr_ib.2 hr_sf.1 Y136 ((own_upne (own_ixne hr_ib.1 hr_ia.1 hc205)).trans rfl) (own_g0 _) (own_tA hn8 hr_tt hc164).1 (own_tA hn8 hr_tt hc164).2 hq Y129) rfl rfl (lenOf own_pd59 rfl) rfl N112 0 rfl (by decide) fun v145 T145 h145 L145 N145 q145 e145 X145 hS145 K R145 => ?_
      obtain ⟨ar143, rfl, K145, Y156⟩ := q145
      refine oPop X145 K rfl rfl <| oJ X145 K rfl rfl <| oFN X145 K rfl (XT.i0_eq_f hc164) <| oJ X145 K rfl rfl <| oSI (L' := #[.val (.int x0), .val (.int x1), .val (.int x2), .val (.int x3), .val (.int x4), .val (.int x5), .val (.int nn), .val (.int tt), .val (.int sf), .val (.int ia), .val (.int ib), .val (.int fa), .val (.int fb), .val (.ref b1), .val (.ref b6), .val (.ref b12), .val (.ref b18), .val (.int 1), .val (.int nn), .val (.int 1), .val (.int nn), .unset, .unset]) X145 K rfl rfl <| oGo X145 K rfl <| oB X145 K rfl rfl rfl ?_
      have Sn146 : own_Sy Z q nn tt sf arr ka lo0 hi0 B h145 (own_up (own_up own_W0 (own_ix ia) (some (some ⟨((fa, .int 1) :: []), (1 : Int32), .ref b6, (1 : Int32)⟩))) (own_ix ib) (some (some ⟨((fb, .int 1) :: []), (1 : Int32), .ref b6, (1 : Int32)⟩))) := Y156
      refine oVc X145 K rfl (H 288) (H 289) (notFace_of_selects (args := #[]) (mvT K.wz (H 291))) (H 291) (H 290) (H 292) (H 4) (by decide) e145 (Y130.keep K145) (own_live hw (Nat.le_trans Z0 (Nat.le_trans z111 K145.1)) (nn := nn) (tt := tt) (sf := sf) (ka := ka) (lo0 := lo0) (hi0 := hi0) (B := B) (W := (own_up (own_up own_W0 (own_ix ia) (some (some ⟨((fa, .int 1) :: []), (1 : Int32), .ref b6, (1 : Int32)⟩))) (own_ix ib) (some (some ⟨((fb, .int 1) :: []), (1 : Int32), .ref b6, (1 : Int32)⟩)))) (Y135.keep K145 (own_ninW (Or.inl hlaA) nin0)) Sn146 hn8) rfl rfl (lenOf own_pd11 rfl) rfl N145 0 rfl (by decide) fun v148 T148 h148 L148 N148 q148 e148 X148 => ?_
      obtain ⟨rfl, y148⟩ := q148
      refine oJ X148 K rfl rfl <| oCN X148 K rfl (XT.ii_ne_f ((own_ct_same (own_some ((own_upne (own_ixne hr_ib.1 hr_ia.1 hc205)).trans rfl)) hlt_b).trans ((own_ct_same rfl hlt_a).trans (own_ctW0 hn8)))) <| oC (z := 1) X148 K rfl rfl <| oGo X148 K rfl <| oSI (L' := #[.val (.int x0), .val (.int x1), .val (.int x2), .val (.int x3), .val (.int x4), .val (.int x5), .val (.int nn), .val (.int tt), .val (.int sf), .val (.int ia), .val (.int ib), .val (.int fa), .val (.int fb), .val (.ref b1), .val (.ref b6), .val (.ref b12), .val (.ref b18), .val (.int 1), .val (.int nn), .val (.int 1), .val (.int nn), .val (.int 1), .unset]) X148 K rfl rfl <| oB X148 K rfl rfl rfl ?_
      have Sn149 : own_Sy Z q nn tt sf arr ka lo0 hi0 B h145 (own_up (own_up own_W0 (own_ix ia) (some (some ⟨((fa, .int 1) :: []), (1 : Int32), .ref b6, (1 : Int32)⟩))) (own_ix ib) (some (some ⟨((fb, .int 1) :: []), (1 : Int32), .ref b6, (1 : Int32)⟩))) := Sn146
      refine oVw X148 K hS145 (Nat.le_refl _) hEL R145 rfl (H 687) (H 670) (notFace_of_selects (args := #[]) (mvT K.wz (H 672))) (H 672) (H 671) (H 673) (H 4) (by decide) (e148.trans y148) (Y130.keep K145) (own_quit hw (Nat.le_trans Z0 (Nat.le_trans z111 K145.1)) (nn := nn) (tt := tt) (sf := sf) (ka := ka) (lo0 := lo0) (hi0 := hi0) (B := B) (W := (own_up (own_up own_W0 (own_ix ia) (some (some ⟨((fa, .int 1) :: []), (1 : Int32), .ref b6, (1 : Int32)⟩))) (own_ix ib) (some (some ⟨((fb, .int 1) :: []), (1 : Int32), .ref b6, (1 : Int32)⟩)))) (Y130.keep K145) (Y135.keep K145 (own_ninW (Or.inl hlaA) nin0)) Sn149 hn8 hlaA hnaA (Nat.le_trans Z0 Y20) Y21 hq (Old.keep Y129 K145 (own_allW (fun y l _ => Nat.le_trans Y21 l) all0))) rfl rfl (lenOf own_pd33 rfl) rfl N148 0 rfl (by decide) fun v151 T151 h151 L151 N151 q151 e151 X151 hS151 K R151 => ?_
      obtain ⟨qr, rfl, K151, Y157, Y158, Y159, Y160, Y161⟩ := q151
      have Y95 := Nat.le_trans (Nat.le_trans z111 K145.1) Y161
      refine oPop X151 K rfl rfl <| oB X151 K rfl rfl rfl ?_
      have Sn152 : own_Sy Z q nn tt sf arr ka lo0 hi0 B h151 own_no := Y157
      have z154 := (Nat.le_trans (Nat.le_trans z111 K145.1) K151.1)
      refine oVc X151 K rfl (H 288) (H 289) (notFace_of_selects (args := #[]) (mvT K.wz (H 291))) (H 291) (H 290) (H 292) (H 4) (by decide) e151 ((Y130.keep K145).keep K151) (own_live hw (Nat.le_trans Z0 z154) (nn := nn) (tt := tt) (sf := sf) (ka := ka) (lo0 := lo0) (hi0 := hi0) (B := B) (W := own_no) ((Y135.keep K145 (own_ninW (Or.inl hlaA) nin0)).keep K151 (own_ninW (Or.inl hlaA) (ninS (Ne.symm (Ne.symm hnaA)) nin0))) Sn152 hn8) rfl rfl (lenOf own_pd11 rfl) rfl N151 0 rfl (by decide) fun v155 T155 h155 L155 N155 q155 e155 X155 => ?_
      obtain ⟨rfl, y155⟩ := q155
      refine oFN X155 K rfl (XT.i0_ne_f (own_ct_no _)) <| oC (z := 1) X155 K rfl rfl <| oGo X155 K rfl <| oSI (L' := #[.val (.int x0), .val (.int x1), .val (.int x2), .val (.int x3), .val (.int x4), .val (.int x5), .val (.int nn), .val (.int tt), .val (.int sf), .val (.int ia), .val (.int ib), .val (.int fa), .val (.int fb), .val (.ref b1), .val (.ref b6), .val (.ref b12), .val (.ref b18), .val (.int 1), .val (.int nn), .val (.int 1), .val (.int nn), .val (.int 1), .val (.int 1)]) X155 K rfl rfl <| oJ X155 K rfl rfl <| oFN X155 K rfl (XT.i0_eq_f (by decide : ¬ ((1 : Int32) = (0 : Int32)))) <| oJ X155 K rfl rfl <| oFN X155 K rfl (XT.i0_eq_f (by decide : ¬ ((1 : Int32) = (0 : Int32)))) <| oJ X155 K rfl rfl <| oFN X155 K rfl (XT.i0_eq_f (by decide : ¬ ((1 : Int32) = (0 : Int32)))) <| oJ X155 K rfl rfl <| oFN X155 K rfl (XT.i0_eq_f (by decide : ¬ ((1 : Int32) = (0 : Int32)))) <| oC (z := 1) X155 K rfl rfl ?_
      refine oGo X155 K rfl ?_
      exact oRnw X155 K (by simp) rfl (e155.trans y155) N155 (by decide) hh hEL hS151 (Nat.le_refl _) R151 rfl
theorem own_tab3 {s : State} {args : Array Value} {t : Term} {tb : Addr} {tc : Cell} {lo hi v : Int32} (hf : Fit s) (et : ∀ idx, t.eval args s none idx s = some (.ref tb)) (A : Arr s s.heap tb tc .boolean) (hs : tc.slots.size = 128)
    (h : (Jvm.Cond.all t (.or (.lt (.index 0) (.int lo)) (.or (.le (.int hi) (.index 0)) (.eq (.elem t (.index 0)) (.int v))))).value args s none s [] = some true) (k : Nat) (hk : k < 128) (h1 : lo.toInt <= (k : Int)) (h2 : (k : Int) < hi.toInt) : tc.slots[k]? = some (.int v) := by
  have hj : ¬ ((k.toInt32 < 0) ∨ tc.slots.size <= k.toInt32.toNatClampNeg) := by rw [hs]; exact idx_in hk (by decide)
  have kk : k.toInt32.toNatClampNeg = k /\ k.toInt32.toInt = (k : Int) := by
    have e := len_toInt (n := k) (by omega)
    refine ⟨?_, e⟩
    have := nat_of (j := k.toInt32) (fun q => hj (Or.inl q))
    omega
  obtain ⟨w, e1, e2⟩ := elem_fit hf A hj
  obtain ⟨x, rfl⟩ := fit_I e2 (Or.inr (Or.inl rfl))
  have u := Cond.all_elim (et []) (A.fin (Vm.Alike.refl _)) h k (by omega)
  have ix : (Term.index 0).eval args s none [k] s = some (.int k.toInt32) := Term.index_eval _
  have q := or3 u (Cond.lt_ints ix (Term.int_eval lo)) (Cond.le_ints (Term.int_eval hi) ix) (Cond.eq_ints ((elem_f (et _) ix (A.fin (Vm.Alike.refl _)) (fun q => hj (Or.inl q))).trans e1) (Term.int_eval v))
  rw [kk.1] at e1
  rcases q with q | q | q
  · rw [Int32.lt_iff_toInt_lt] at q; omega
  · rw [Int32.lt_iff_toInt_lt] at q; omega
  · rw [e1, q]
theorem own_len31 {args : Array Value} {first s : State} {o : Option Outcome} {idx : List Nat} {t : Term} {v : Value} {a : Addr} {cell : Cell} (ht : t.eval args first o idx s = some (.ref a)) (hc : s.arrayAt? a = some cell) (h : (Term.length t).eval args first o idx s = some v) : cell.slots.size < 2 ^ 31 := by
  by_cases q : cell.slots.size < 2147483648
  · exact q
  · exfalso
    simp [Term.eval, ht, hc, q] at h
section OwnStart
variable {s : State} {args : Array Value} {t X F : Term} {a b : Addr}
theorem own_alen {ty : FieldType} {z : Int32} (et : t.eval args s none [] s = some (.ref a)) (hx : (Jvm.Cond.arrayOf t ty).value args s none s [] = some true) (hl : (Jvm.Cond.eq (.length t) (.int z)).value args s none s [] = some true) : ∃ cl, Arr s s.heap a cl ty /\ cl.slots.size < 2 ^ 31 /\ cl.slots.size.toInt32 = z := by
  obtain ⟨cl, A⟩ := Arr.start et hx
  have hL := eqv_i (Term.int_eval z) hl
  obtain ⟨xq, tc', l1, l2, l4⟩ := Term.length_spec hL
  cases et.symm.trans l1
  cases (A.fin (Vm.Alike.refl _)).symm.trans l2
  exact ⟨cl, A, own_len31 et (A.fin (Vm.Alike.refl _)) hL, (Value.int.inj l4).symm⟩
theorem own_fld {C n d : String} {v : Value} (et : t.eval args s none [] s = some (.ref a)) (ev : (Term.field t C n d).eval args s none [] s = some v) : Fld s s.heap a C n d v := Fld.start (by simpa [Term.eval, et] using ev)
theorem own_eqR {y : Value} (hF : F.eval args s none [] s = some y) (hy : y.isRef = true) (h : (Jvm.Cond.eq X F).value args s none s [] = some true) : X.eval args s none [] s = some y := Cond.eq_refs (by simp [Cond.holds, h]) hF hy
theorem own_elR {cl : Cell} {ty : FieldType} {j : Int32} (et : t.eval args s none [] s = some (.ref a)) (A : Arr s s.heap a cl ty) (hF : F.eval args s none [] s = some (.ref b)) (h : (Jvm.Cond.eq (.elem t (.int j)) F).value args s none s [] = some true) : cl.slots[j.toNatClampNeg]? = some (.ref b) :=
  (elem_in (own_eqR hF rfl h) et (Term.int_eval j) A.1).2
end OwnStart
set_option maxRecDepth 65536 in
set_option maxHeartbeats 40000000 in
theorem comes_1 {Post : Tables -> Env -> Array Value -> State -> Outcome -> State -> Prop} (hpost : ∀ tb e args s v u, (limb_1_1.after args s (.returned v) u = true /\ limb_1_2.after args s (.returned v) u = true /\ True) -> Jvm.D.FramedW s (.returned v) u (Jvm.fieldLocs frame_1_writes args s ++ Jvm.arrayLocs frame_1_arrays args s ++ Jvm.staticLocs frame_1_statics s) 272 11584 -> Post tb e args s (.returned v) u) :
    ArmFor flags0 classFile x code maxLocals ret World_1 tables_1 room_1 Calls_1 rest_1 Pre_1 Post := by
  intro l hfl _ _ p e ha hc hk s m args below hf hA hF happ hP
  obtain ⟨hcalls, hrest, hpre⟩ := hP
  obtain ⟨-, -, -, hnamed, -, -, -, hat⟩ := (Spec.applies_iff hf).mp happ
  obtain ⟨hg, hn⟩ := and_e (Cond.before_iff.mp (show (Jvm.Cond.and given_1 narrow_1).before args s = true from hpre))
  obtain ⟨hcount, hg0⟩ := and_e hg
  obtain ⟨ga0, hg1⟩ := and_e hg0
  obtain ⟨ga1, hg2⟩ := and_e hg1
  obtain ⟨ga2, hg3⟩ := and_e hg2
  obtain ⟨ga3, hg4⟩ := and_e hg3
  obtain ⟨ga4, hg5⟩ := and_e hg4
  obtain ⟨w0, w1, w2, w3, w4, w5, rfl⟩ : ∃ w0 w1 w2 w3 w4 w5 : Value, args = #[w0, w1, w2, w3, w4, w5] := by
    have hs : args.size = 6 := by simpa [Cond.value, given_1] using hcount
    obtain ⟨L⟩ := args
    match L, hs with
    | [w0, w1, w2, w3, w4, w5], _ => exact ⟨w0, w1, w2, w3, w4, w5, rfl⟩
  have hw := fun d (hd : d ∈ tables_1) => atoms_spec (ws := Jvm.Cond.code x code maxLocals ret :: tables_1) hat d (List.mem_cons_of_mem _ hd)
  have hfit : Fit s := fun {y c} hc i hi => by
    obtain ⟨ha, rfl⟩ := Array.getElem?_eq_some_iff.mp hc
    have q := List.all_eq_true.mp ((Array.all_eq_true_iff_forall_mem.mp hF) _ (Array.getElem_mem ha)) i (List.mem_range.mpr hi)
    simpa [Array.getElem?_eq_getElem hi] using q
  obtain ⟨hsets, hown0⟩ := atoms_of _ (rest_1_c_eq ▸ (show rest_1_c.before _ s = true from hrest))
  have hr0 := Cond.before_iff.mp hown0
  obtain ⟨i0, ei0⟩ := is_v ga0
  obtain rfl : w0 = (.int i0) := Option.some.inj ei0
  obtain ⟨i1, ei1⟩ := is_v ga1
  obtain rfl : w1 = (.int i1) := Option.some.inj ei1
  obtain ⟨i2, ei2⟩ := is_v ga2
  obtain rfl : w2 = (.int i2) := Option.some.inj ei2
  obtain ⟨i3, ei3⟩ := is_v ga3
  obtain rfl : w3 = (.int i3) := Option.some.inj ei3
  obtain ⟨i4, ei4⟩ := is_v ga4
  obtain rfl : w4 = (.int i4) := Option.some.inj ei4
  obtain ⟨i5, ei5⟩ := is_v hg5
  obtain rfl : w5 = (.int i5) := Option.some.inj ei5
  obtain ⟨t0, hn⟩ := and_e hn
  obtain ⟨t1, hn⟩ := and_e hn
  obtain ⟨t2, hn⟩ := and_e hn
  obtain ⟨t3, hn⟩ := and_e hn
  obtain ⟨t4, hn⟩ := and_e hn
  obtain ⟨t5, hn⟩ := and_e hn
  obtain ⟨t6, hn⟩ := and_e hn
  obtain ⟨t7, hn⟩ := and_e hn
  obtain ⟨t8, hn⟩ := and_e hn
  obtain ⟨t9, hn⟩ := and_e hn
  obtain ⟨t10, hn⟩ := and_e hn
  obtain ⟨t11, hn⟩ := and_e hn
  obtain ⟨t12, hn⟩ := and_e hn
  obtain ⟨t13, hn⟩ := and_e hn
  obtain ⟨t14, hn⟩ := and_e hn
  obtain ⟨t15, hn⟩ := and_e hn
  obtain ⟨t16, hn⟩ := and_e hn
  obtain ⟨t17, hn⟩ := and_e hn
  obtain ⟨t18, hn⟩ := and_e hn
  obtain ⟨t19, hn⟩ := and_e hn
  obtain ⟨t20, hn⟩ := and_e hn
  obtain ⟨t21, hn⟩ := and_e hn
  obtain ⟨t22, hn⟩ := and_e hn
  obtain ⟨t23, hn⟩ := and_e hn
  obtain ⟨t24, hn⟩ := and_e hn
  obtain ⟨t25, hn⟩ := and_e hn
  obtain ⟨t26, hn⟩ := and_e hn
  obtain ⟨t27, hn⟩ := and_e hn
  obtain ⟨t28, hn⟩ := and_e hn
  obtain ⟨t29, hn⟩ := and_e hn
  obtain ⟨t30, hn⟩ := and_e hn
  have t31 := hn
  obtain ⟨aKK, esKK⟩ := exa_v t0
  have hsKK : Sta s s.heap "convoke/protocol/BrachaKind" "KINDS" "Lconvoke/model/Kinds;" (.ref aKK) := Sta.start esKK (Or.inr ⟨(oh hw 100), (oh hw 101)⟩)
  obtain ⟨aKI, esKI⟩ := exa_v t1
  have hsKI : Sta s s.heap "convoke/protocol/BrachaKind" "INIT" "Lconvoke/protocol/BrachaKind;" (.ref aKI) := Sta.start esKI (Or.inr ⟨(oh hw 100), (oh hw 103)⟩)
  obtain ⟨aKE, esKE⟩ := exa_v t2
  have hsKE : Sta s s.heap "convoke/protocol/BrachaKind" "ECHO" "Lconvoke/protocol/BrachaKind;" (.ref aKE) := Sta.start esKE (Or.inr ⟨(oh hw 100), (oh hw 105)⟩)
  obtain ⟨aKR, esKR⟩ := exa_v t5
  have hsKR : Sta s s.heap "convoke/protocol/BrachaKind" "READY" "Lconvoke/protocol/BrachaKind;" (.ref aKR) := Sta.start esKR (Or.inr ⟨(oh hw 100), (oh hw 259)⟩)
  obtain ⟨aKQ, esKQ⟩ := exa_v t17
  have oKI := own_fld esKI (eqv_i (Term.int_eval 0) t10)
  have oKE := own_fld esKE (eqv_i (Term.int_eval 1) t13)
  have oKR := own_fld esKR (eqv_i (Term.int_eval 2) t11)
  have cKR := own_fld esKR (eqv_i (Term.int_eval 1) t6)
  obtain ⟨aKA, esKA⟩ := arr_v t7
  have fKK := own_fld esKK esKA
  obtain ⟨cKA, hKA, lKA, zKA⟩ := own_alen esKA t7 t8
  have hvKA : Arv s s.heap aKA cKA.cls (.object "convoke/protocol/BrachaKind") (4 : Int32) [.ref aKI, .ref aKE, .ref aKR, .ref aKQ] .null := Arv.start hfit hKA lKA zKA (by decide) rfl ⟨own_elR esKA hKA esKI t9, own_elR esKA hKA esKE t12, own_elR esKA hKA esKR t14, own_elR esKA hKA esKQ t18, trivial⟩
  obtain ⟨aTB, esTB⟩ := arr_v t3
  obtain ⟨cTB, hTB, lTB, zTB⟩ := own_alen esTB t3 t4
  have nTB : cTB.slots.size = 128 := by
    have q9 := congrArg Int32.toInt zTB
    rw [len_toInt lTB, show (128 : Int32).toInt = 128 from by decide] at q9
    omega
  have hsTB : Sta s s.heap "convoke/model/Tokens" "TOKEN_CHARACTERS" "[Z" (.ref aTB) := Sta.start esTB (Or.inr ⟨(oh hw 174), (oh hw 217)⟩)
  have vTB := own_tab3 hfit (fun _ => esTB) hTB nTB t30 118 (by decide) (by decide) (by decide)
  obtain ⟨vCZ, esCZ⟩ := is_v (Cond.before_iff.mp (hsets _ (List.mem_of_getElem? (i := 1) rfl)))
  have hsCZ : Sta s s.heap "java/lang/String" "COMPACT_STRINGS" "Z" (.int vCZ) := Sta.start esCZ (Or.inl (hsets _ (List.mem_of_getElem? (i := 0) rfl)))
  have nCZ : ¬ (vCZ = (0 : Int32)) := gotF (Cond.eq_ints esCZ (Term.int_eval (0))) (not_v (Cond.before_iff.mp (hsets _ (List.mem_of_getElem? (i := 2) rfl))))
  obtain ⟨vSF, esSF, rSF⟩ := isR_v (Cond.before_iff.mp (hsets _ (List.mem_of_getElem? (i := 8) rfl)))
  have hsSF : Sta s s.heap "jdk/internal/util/Preconditions" "SIOOBE_FORMATTER" "Ljava/util/function/BiFunction;" vSF := Sta.start esSF (Or.inl (hsets _ (List.mem_of_getElem? (i := 7) rfl)))
  obtain ⟨aI2, esI2⟩ := exa_v (Cond.before_iff.mp (hsets _ (List.mem_of_getElem? (i := 20) rfl)))
  have hsI2 : Sta s s.heap "sun/nio/cs/ISO_8859_1" "INSTANCE" "Lsun/nio/cs/ISO_8859_1;" (.ref aI2) := Sta.start esI2 (Or.inl (hsets _ (List.mem_of_getElem? (i := 12) rfl)))
  have esIS := own_eqR esI2 rfl (Cond.before_iff.mp (hsets _ (List.mem_of_getElem? (i := 13) rfl)))
  have hsIS : Sta s s.heap "java/nio/charset/StandardCharsets" "ISO_8859_1" "Ljava/nio/charset/Charset;" (.ref aI2) := Sta.start esIS (Or.inl (hsets _ (List.mem_of_getElem? (i := 10) rfl)))
  obtain ⟨aUT, esUT⟩ := exa_v (Cond.before_iff.mp (hsets _ (List.mem_of_getElem? (i := 17) rfl)))
  have hsUT : Sta s s.heap "sun/nio/cs/UTF_8" "INSTANCE" "Lsun/nio/cs/UTF_8;" (.ref aUT) := Sta.start esUT (Or.inl (hsets _ (List.mem_of_getElem? (i := 16) rfl)))
  have nUT := Exa.ne (Exa.start esI2 (Cond.before_iff.mp (hsets _ (List.mem_of_getElem? (i := 20) rfl)))) (Exa.start esUT (Cond.before_iff.mp (hsets _ (List.mem_of_getElem? (i := 17) rfl)))) (by decide)
  obtain ⟨aEL, esEL⟩ := exa_v (Cond.before_iff.mp (hsets _ (List.mem_of_getElem? (i := 23) rfl)))
  have hsEL : Sta s s.heap "java/util/ImmutableCollections" "EMPTY_LIST" "Ljava/util/ImmutableCollections$ListN;" (.ref aEL) := Sta.start esEL (Or.inl (hsets _ (List.mem_of_getElem? (i := 22) rfl)))
  have xEL := Exa.start esEL (Cond.before_iff.mp (hsets _ (List.mem_of_getElem? (i := 23) rfl)))
  obtain ⟨aEA, esEA⟩ := arr_v (Cond.before_iff.mp (hsets _ (List.mem_of_getElem? (i := 24) rfl)))
  have fEL := own_fld esEL esEA
  obtain ⟨cEA, hEA, lEA, zEA⟩ := own_alen esEA (Cond.before_iff.mp (hsets _ (List.mem_of_getElem? (i := 24) rfl))) (Cond.before_iff.mp (hsets _ (List.mem_of_getElem? (i := 26) rfl)))
  have vEA : Arv s s.heap aEA cEA.cls (.object "java/lang/Object") (0 : Int32) [] .null := Arv.start hfit hEA lEA zEA (by decide) (by decide) trivial
  have xEA := Exa.start esEA (Cond.before_iff.mp (hsets _ (List.mem_of_getElem? (i := 25) rfl)))
  have esIH := eqv_i (Term.int_eval 127) (Cond.before_iff.mp (hsets _ (List.mem_of_getElem? (i := 31) rfl)))
  have hsIH : Sta s s.heap "java/lang/Integer$IntegerCache" "high" "I" (.int (127 : Int32)) := Sta.start esIH (Or.inl (hsets _ (List.mem_of_getElem? (i := 29) rfl)))
  obtain ⟨aCB, esCB⟩ := arr_v (Cond.before_iff.mp (hsets _ (List.mem_of_getElem? (i := 32) rfl)))
  obtain ⟨cCB, hCB, lCB, zCB⟩ := own_alen esCB (Cond.before_iff.mp (hsets _ (List.mem_of_getElem? (i := 32) rfl))) (Cond.before_iff.mp (hsets _ (List.mem_of_getElem? (i := 34) rfl)))
  have hsCB : Sta s s.heap "java/lang/Integer$IntegerCache" "cache" "[Ljava/lang/Integer;" (.ref aCB) := Sta.start esCB (Or.inr ⟨(oh hw 540), (hsets _ (List.mem_of_getElem? (i := 30) rfl))⟩)
  have bCB : Bxs s aCB cCB "java/lang/Integer" "I" (256 : Int32) own_bvI := Bxs.start (fun _ => esCB) hCB lCB zCB (by decide) (Cond.before_iff.mp (hsets _ (List.mem_of_getElem? (i := 35) rfl))) (fun X j hj h => eqv_i (Term.sub_int (idx_at hj) (Term.int_eval 128)) h)
  obtain ⟨aDB, esDB⟩ := arr_v (Cond.before_iff.mp (hsets _ (List.mem_of_getElem? (i := 42) rfl)))
  obtain ⟨cDB, hDB, lDB, zDB⟩ := own_alen esDB (Cond.before_iff.mp (hsets _ (List.mem_of_getElem? (i := 42) rfl))) (Cond.before_iff.mp (hsets _ (List.mem_of_getElem? (i := 44) rfl)))
  have vDB : Arv s s.heap aDB cDB.cls (.object "java/lang/Object") (0 : Int32) [] .null := Arv.start hfit hDB lDB zDB (by decide) (by decide) trivial
  have xDB := Exa.start esDB (Cond.before_iff.mp (hsets _ (List.mem_of_getElem? (i := 43) rfl)))
  have hsDB : Sta s s.heap "java/util/ArrayList" "DEFAULTCAPACITY_EMPTY_ELEMENTDATA" "[Ljava/lang/Object;" (.ref aDB) := Sta.start esDB (Or.inr ⟨(oh hw 425), (hsets _ (List.mem_of_getElem? (i := 38) rfl))⟩)
  obtain ⟨aOE, esOE⟩ := exa_v (Cond.before_iff.mp (hsets _ (List.mem_of_getElem? (i := 47) rfl)))
  have hsOE : Sta s s.heap "java/util/Optional" "EMPTY" "Ljava/util/Optional;" (.ref aOE) := Sta.start esOE (Or.inl (hsets _ (List.mem_of_getElem? (i := 46) rfl)))
  have xOE := Exa.start esOE (Cond.before_iff.mp (hsets _ (List.mem_of_getElem? (i := 47) rfl)))
  have fOE := own_fld esOE (own_eqR (y := .null) (by simp [Term.eval]) rfl (Cond.before_iff.mp (hsets _ (List.mem_of_getElem? (i := 48) rfl))))
  obtain ⟨_, _, aMO, mo1, mo2, mo3, -⟩ := hcalls.1
  obtain ⟨_, _, aMA, ma1, ma2, ma3, -⟩ := hcalls.2.1
  have hEnv : own_Env s (fun i => ([aKK, aKI, aKE, aKR, aKQ, aKA, cKA.cls, aTB, aI2, aUT, aCB, aOE, aEL, aEA, cEA.cls, aDB, cDB.cls, aMO, aMA] : List Nat).getD i 0, cTB, cCB, vCZ, vSF) := ⟨hsKK, hsKI, hsKE, hsKR, Exa.start esKK t0, Exa.start esKR t5, cKR, Fld.ne oKI oKR (by decide), Fld.ne oKE oKR (by decide), fKK, hvKA, hsTB, hTB, nTB, vTB, hsIS, hsI2, hsUT, nUT, hsIH, hsCB, bCB, hsOE, xOE, fOE, hsEL, xEL, fEL, vEA, xEA, hsDB, vDB, xDB, hsCZ, nCZ, hsSF, rSF, ⟨_, _, mo1, mo2, mo3⟩, ⟨_, _, ma1, ma2, ma3⟩⟩
  have hCH : CHv s own_EL s.vm s.heap := CHv.start (own_ew hw) hcalls.2.2.1 (show Jvm.Lit.compactW.before _ s = true from (hsets _ (List.mem_of_getElem? (i := 2) rfl))) (oh hw 42) (oh hw 41)
  obtain ⟨n, o, h1, h2, h3, _, L, rfl, ⟨rfl, N⟩, -, hq⟩ := own_law (l := l) hw (ws := tables_1) (x0 := i0) (x1 := i1) (x2 := i2) (x3 := i3) (x4 := i4) (x5 := i5) (Nat.le_refl s.heap.size) hEnv (Old.start s) p e ha hc hk s m _ below hf ((Spec.applies_iff_loose hf).mp happ).1 ⟨rfl, State.Warmed39.refl s, rfl, hCH⟩ trivial
  refine ⟨n, _, h1, h2, h3, hpost _ _ _ _ _ _ ⟨Cond.after_iff.mpr rfl, Cond.after_iff.mpr (eq_i res_at (Term.int_eval (1)) rfl), trivial⟩ ⟨hq.1, hq.2.1, hq.2.2.1, (hq.2.2.2.sift fun y hy => Or.inr (N y hy)).mono (by decide) (by decide)⟩⟩
theorem main_1_1 : Claimed_1_1 := comes_1 fun _ _ _ _ _ _ h hF => ⟨h.1, hF⟩
theorem main_1_2 : Claimed_1_2 := comes_1 fun _ _ _ _ _ _ h hF => ⟨h.2.1, hF⟩
end Jvm.Pilot.@@N@@
namespace Jvm.Pilot.@@N@@
open Jvm Jvm.ClassFile Sem Op Lib Jvm.Free Jvm.Stand Jvm.Pilot.@@N@@.Jvm.D
/-! MADE BY PROGRAM (witnessworld.py) out of the Statement's table words and the real class files: 74 classes; the members and pool entries that the words name. The judged class is class 1, her method 1. -/
namespace start1
open Jvm.ClassFile
def tw (i : Nat) : Jvm.Cond := tables_1.getD i .tt
set_option maxRecDepth 65536
set_option maxHeartbeats 40000000
def fd (n : String) (t : FieldType) (a s c : Nat) : Field := { name := n, type := t, accessFlags := a, slot := s, constantValue := c }
def cd (s l : Nat) (b : ByteArray) : Code := { maxStack := s, maxLocals := l, code := b, exceptionTable := #[], attributes := #[] }
def mt (n d : String) (ps : List FieldType) (r : Option FieldType) (a : Nat) (c : Option Code) : Method := { name := n, desc := d, sig := { parameters := ps, returnType := r }, accessFlags := a, code := c }
def ce (c : Nat) (s : Array Value) (v : VmData) : Cell := { cls := c, slots := s, vm := v }
def u (s : String) : CpInfo := .utf8 (stringToUtf16 s)
/-- a pool by its gaps: so many unusable entries, then the entry; so many at the end -/
def gap : Nat -> List CpInfo -> List CpInfo
  | 0, r => r
  | n + 1, r => .unusable :: gap n r
def poolList (es : List (Nat × CpInfo)) (last : Nat) : List CpInfo := es.foldr (fun e r => gap e.1 (e.2 :: r)) (gap last [])
def pool (es : List (Nat × CpInfo)) (last : Nat) : Array CpInfo := ⟨poolList es last⟩
def fileOf (pool : Array CpInfo) (this : Nat) (attrs : Array Attribute := #[]) (ms : Array MethodInfo := #[]) (fl : Nat := 33) (sup : Nat := 0) (ifs : Array Nat := #[]) (fds : Array FieldInfo := #[]) : ClassFile where
  minorVersion := 0
  majorVersion := 65
  constantPool := pool
  accessFlags := fl
  thisClass := this
  superClass := sup
  interfaces := ifs
  fields := fds
  methods := ms
  attributes := attrs
def plain (name : String) (sup : Option ClassId) : Class where
  name := name
  kind := .ordinary
  loader := none
  accessFlags := 33
  super := sup
  interfaces := #[]
  cf := none
  fields := #[]
  methods := #[]
  instanceTypes := #[]
  staticTypes := #[]
  resolved := #[]
  callSites := []
  init := .initialized
  statics := none
  mirror := none

def pool0 : Array CpInfo := pool [(5, u "<init>"), (0, u "()V"), (1, .class_ 10), (1, u "java/lang/Object"), (0, u "getClass"), (0, u "()Ljava/lang/Class;"), (79, u "equals"), (0, u "(Ljava/lang/Object;)Z"), (2, u "clone"), (0, u "()Ljava/lang/Object;")] 26

def k0c0 : Code := cd 0 1 object_method_1_code
def k0m0 : Method := mt "<init>" "()V" [] none 1 (some k0c0)
def k0m1 : Method := mt "getClass" "()Ljava/lang/Class;" [] (some (.object "java/lang/Class")) 273 none
def k0c2 : Code := cd 2 2 ⟨#[0x2a, 0x2b, 0xa6, 0x00, 0x07, 0x04, 0xa7, 0x00, 0x04, 0x03, 0xac]⟩
def k0m2 : Method := mt "equals" "(Ljava/lang/Object;)Z" [(.object "java/lang/Object")] (some .boolean) 1 (some k0c2)
def k0m3 : Method := mt "clone" "()Ljava/lang/Object;" [] (some (.object "java/lang/Object")) 260 none
def k0 : Class := { plain "java/lang/Object" none with
  accessFlags := 33
  cf := some (fileOf pool0 8 #[] #[⟨1, 5, 6, #[]⟩, ⟨273, 11, 12, #[]⟩, ⟨1, 92, 93, #[]⟩, ⟨260, 96, 97, #[]⟩] 33 0 #[] #[])
  methods := #[k0m0, k0m1, k0m2, k0m3]
  resolved := Array.replicate 124 none
  statics := none }

def pool1 : Array CpInfo := pool [(2, .class_ 4), (1, u "java/lang/Object"), (0, u "<init>"), (0, u "()V"), (0, .integer 2147483647), (0, .integer 65535), (0, .class_ 10), (0, u "convoke/protocol/AllToAll"), (0, .methodref 9 12), (0, .nameAndType 5 13), (0, u "(III)V"), (0, .class_ 15), (0, u "convoke/model/Value"), (0, .string 17), (0, u "v"), (0, .methodref 14 19), (0, .nameAndType 5 20), (0, u "(Ljava/lang/String;)V"), (0, .class_ 22), (0, u "convoke/model/Message"), (0, .fieldref 24 25), (0, .class_ 26), (0, .nameAndType 27 28), (0, u "convoke/protocol/BrachaKind"), (0, u "READY"), (0, u "Lconvoke/protocol/BrachaKind;"), (0, .methodref 21 30), (0, .nameAndType 5 31), (0, u "(IIILconvoke/model/Message$Kind;Lconvoke/model/Value;)V"), (0, .methodref 9 33), (0, .nameAndType 34 35), (0, u "live"), (0, u "()I"), (0, .methodref 9 37), (0, .nameAndType 38 39), (0, u "receive"), (0, u "(Lconvoke/model/Message;)Ljava/util/List;"), (0, .methodref 9 41), (0, .nameAndType 42 43), (0, u "quit"), (0, u "()Ljava/util/List;"), (0, .class_ 45), (0, u "convoke/protocol/AllToAllLivePinLaw"), (2, u "law"), (0, u "(IIIIII)Z")] 7

def k1m0 : Method := mt "<init>" "()V" [] none 1 none
def k1c1 : Code := cd 7 23 code
def k1m1 : Method := mt "law" "(IIIIII)Z" [.int, .int, .int, .int, .int, .int] (some .boolean) 9 (some k1c1)
def k1 : Class := { plain "convoke/protocol/AllToAllLivePinLaw" (some 0) with
  accessFlags := 49
  cf := some (fileOf pool1 44 #[] #[⟨1, 5, 6, #[]⟩, ⟨9, 48, 49, #[]⟩] 49 2 #[] #[])
  methods := #[k1m0, k1m1]
  resolved := Array.replicate 57 none
  statics := none }

def pool2 : Array CpInfo := pool [(1, .methodref 2 3), (0, .class_ 4), (0, .nameAndType 5 6), (0, u "convoke/protocol/AllToAll"), (0, u "<init>"), (0, u "(IIIZ)V"), (0, .methodref 8 9), (0, .class_ 10), (0, .nameAndType 5 11), (0, u "java/lang/Object"), (0, u "()V"), (0, .class_ 13), (0, u "java/util/TreeMap"), (0, .methodref 12 9), (0, .fieldref 2 16), (0, .nameAndType 17 18), (0, u "values"), (0, u "Ljava/util/SortedMap;"), (0, .methodref 20 21), (0, .class_ 22), (0, .nameAndType 23 24), (0, u "convoke/protocol/Bracha"), (0, u "checkParameters"), (0, u "(II)V"), (0, .string 26), (0, u "self"), (0, .methodref 28 29), (0, .class_ 30), (0, .nameAndType 31 32), (0, u "convoke/model/Parties"), (0, u "check"), (0, u "(Ljava/lang/String;II)V"), (0, .fieldref 2 34), (0, .nameAndType 35 36), (0, u "parties"), (0, u "I"), (0, .fieldref 2 38), (0, .nameAndType 26 36), (0, .fieldref 2 40), (0, .nameAndType 41 36), (0, u "needed"), (0, .fieldref 2 43), (0, .nameAndType 44 45), (0, u "instances"), (0, u "[Lconvoke/protocol/Bracha;"), (0, .methodref 20 47), (0, .nameAndType 5 48), (0, u "(IIIIZ)V"), (2, u "started"), (0, u "Z"), (10, .class_ 65), (1, u "convoke/model/Value"), (2, .interfaceMethodref 69 70), (0, .class_ 71), (0, .nameAndType 72 73), (0, u "java/util/List"), (0, u "of"), (0, u "()Ljava/util/List;"), (4, .methodref 79 80), (0, .class_ 81), (0, .nameAndType 82 83), (0, u "convoke/protocol/Seat"), (0, u "checkAddressed"), (0, u "(Lconvoke/model/Message;II)V"), (0, .string 85), (0, u "message instance"), (0, .methodref 87 88), (0, .class_ 89), (0, .nameAndType 90 91), (0, u "convoke/model/Message"), (0, u "instance"), (0, u "()I"), (0, .methodref 87 93), (0, .nameAndType 94 95), (0, u "kind"), (0, u "()Lconvoke/model/Message$Kind;"), (0, .methodref 97 98), (0, .class_ 99), (0, .nameAndType 72 100), (0, u "convoke/protocol/BrachaKind"), (0, u "(Lconvoke/model/Message$Kind;)Lconvoke/protocol/BrachaKind;"), (0, .methodref 20 102), (0, .nameAndType 103 104), (0, u "handle"), (0, u "(Lconvoke/model/Message;)Ljava/util/List;"), (0, .methodref 20 106), (0, .nameAndType 107 108), (0, u "terminated"), (0, u "()Z"), (0, .methodref 110 111), (0, .class_ 112), (0, .nameAndType 113 114), (0, u "java/lang/Integer"), (0, u "valueOf"), (0, u "(I)Ljava/lang/Integer;"), (0, .methodref 20 116), (0, .nameAndType 117 118), (0, u "output"), (0, u "()Ljava/util/Optional;"), (0, .methodref 120 121), (0, .class_ 122), (0, .nameAndType 123 124), (0, u "java/util/Optional"), (0, u "orElseThrow"), (0, u "()Ljava/lang/Object;"), (0, .interfaceMethodref 126 127), (0, .class_ 128), (0, .nameAndType 129 130), (0, u "java/util/SortedMap"), (0, u "put"), (0, u "(Ljava/lang/Object;Ljava/lang/Object;)Ljava/lang/Object;"), (0, .methodref 2 106), (0, .class_ 133), (0, u "java/util/ArrayList"), (0, .methodref 132 135), (0, .nameAndType 5 136), (0, u "(Ljava/util/Collection;)V"), (0, .methodref 2 138), (0, .nameAndType 139 73), (0, u "quit"), (0, .interfaceMethodref 69 141), (0, .nameAndType 142 143), (0, u "addAll"), (0, u "(Ljava/util/Collection;)Z"), (0, .methodref 132 9), (0, .methodref 20 138), (0, .interfaceMethodref 126 147), (0, .nameAndType 148 91), (0, u "size"), (8, u "(III)V"), (7, u "receive"), (4, u "live")] 21

def k2c0 : Code := cd 5 4 prog_58_method_1_code
def k2m0 : Method := mt "<init>" "(III)V" [.int, .int, .int] none 1 (some k2c0)
def k2c1 : Code := cd 9 6 prog_58_method_2_code
def k2m1 : Method := mt "<init>" "(IIIZ)V" [.int, .int, .int, .boolean] none 2 (some k2c1)
def k2c2 : Code := cd 3 6 prog_58_method_5_code
def k2m2 : Method := mt "receive" "(Lconvoke/model/Message;)Ljava/util/List;" [(.object "convoke/model/Message")] (some (.object "java/util/List")) 1 (some k2c2)
def k2c3 : Code := cd 3 3 prog_58_method_6_code
def k2m3 : Method := mt "quit" "()Ljava/util/List;" [] (some (.object "java/util/List")) 1 (some k2c3)
def k2c4 : Code := cd 2 1 prog_58_method_7_code
def k2m4 : Method := mt "terminated" "()Z" [] (some .boolean) 1 (some k2c4)
def k2c5 : Code := cd 2 6 prog_58_method_9_code
def k2m5 : Method := mt "live" "()I" [] (some .int) 1 (some k2c5)
def k2 : Class := { plain "convoke/protocol/AllToAll" (some 0) with
  accessFlags := 49
  cf := some (fileOf pool2 2 #[] #[⟨1, 5, 157, #[]⟩, ⟨2, 5, 6, #[]⟩, ⟨1, 165, 104, #[]⟩, ⟨1, 139, 73, #[]⟩, ⟨1, 107, 108, #[]⟩, ⟨1, 170, 91, #[]⟩] 49 8 #[] #[⟨18, 35, 36, #[]⟩, ⟨18, 26, 36, #[]⟩, ⟨18, 41, 36, #[]⟩, ⟨18, 44, 45, #[]⟩, ⟨18, 17, 18, #[]⟩, ⟨2, 51, 52, #[]⟩])
  fields := #[fd "parties" .int 18 0 0, fd "self" .int 18 1 0, fd "needed" .int 18 2 0, fd "instances" (.array (.object "convoke/protocol/Bracha")) 18 3 0, fd "values" (.object "java/util/SortedMap") 18 4 0, fd "started" .boolean 2 5 0]
  methods := #[k2m0, k2m1, k2m2, k2m3, k2m4, k2m5]
  instanceTypes := #[.int, .int, .int, (.array (.object "convoke/protocol/Bracha")), (.object "java/util/SortedMap"), .boolean]
  resolved := Array.replicate 192 none
  statics := none }

def pool3 : Array CpInfo := pool [(2, .class_ 4), (1, u "java/util/Map"), (31, .class_ 37), (0, u "java/util/Map$Entry"), (25, u "(Ljava/lang/Object;Ljava/lang/Object;)Ljava/lang/Object;"), (5, u "put"), (23, .class_ 94), (0, u "java/lang/Object"), (25, u "size"), (0, u "()I")] 141

def k3m0 : Method := mt "size" "()I" [] (some .int) 1025 none
def k3m1 : Method := mt "put" "(Ljava/lang/Object;Ljava/lang/Object;)Ljava/lang/Object;" [(.object "java/lang/Object"), (.object "java/lang/Object")] (some (.object "java/lang/Object")) 1025 none
def k3 : Class := { plain "java/util/Map" (some 0) with
  accessFlags := 1537
  cf := some (fileOf pool3 2 #[.nestMembers #[36]] #[⟨1025, 120, 121, #[]⟩, ⟨1025, 69, 63, #[]⟩] 1537 93 #[] #[])
  methods := #[k3m0, k3m1]
  resolved := Array.replicate 263 none
  statics := none }

def pool4 : Array CpInfo := pool [(1, .methodref 2 3), (0, .class_ 4), (0, .nameAndType 5 6), (0, u "java/lang/Object"), (0, u "<init>"), (0, u "()V"), (1, .class_ 10), (1, u "java/util/AbstractMap"), (42, .class_ 54), (0, u "java/util/Map"), (9, u "keySet"), (0, u "Ljava/util/Set;"), (0, .class_ 67), (0, u "java/util/AbstractMap$1"), (5, u "values"), (0, u "Ljava/util/Collection;"), (0, .class_ 76), (0, u "java/util/AbstractMap$2"), (104, .class_ 182), (0, u "java/util/AbstractMap$ViewCollection"), (0, .class_ 184), (0, u "java/util/AbstractMap$SimpleImmutableEntry"), (0, .class_ 186), (0, u "java/util/AbstractMap$SimpleEntry"), (0, .class_ 188), (0, u "java/util/AbstractMap$2$1"), (0, .class_ 190), (0, u "java/util/AbstractMap$1$1")] 5

def k4c0 : Code := cd 1 1 jdk_71_method_1_code
def k4m0 : Method := mt "<init>" "()V" [] none 4 (some k4c0)
def k4 : Class := { plain "java/util/AbstractMap" (some 0) with
  accessFlags := 1057
  interfaces := #[3]
  cf := some (fileOf pool4 8 #[.nestMembers #[181, 183, 185, 75, 187, 66, 189]] #[⟨4, 5, 6, #[]⟩] 1057 2 #[53] #[⟨128, 64, 65, #[]⟩, ⟨128, 73, 74, #[]⟩])
  fields := #[fd "keySet" (.object "java/util/Set") 128 0 0, fd "values" (.object "java/util/Collection") 128 1 0]
  methods := #[k4m0]
  instanceTypes := #[(.object "java/util/Set"), (.object "java/util/Collection")]
  resolved := Array.replicate 196 none
  statics := none }

def pool5 : Array CpInfo := pool [(2, .class_ 4), (1, u "java/util/SequencedMap"), (38, .class_ 44), (0, u "java/util/SequencedMap$1SeqKeySet"), (3, .class_ 49), (0, u "java/util/SequencedMap$1SeqValues"), (1, .class_ 52), (0, u "java/util/SequencedMap$1SeqEntrySet"), (1, .class_ 55), (0, u "java/lang/Object"), (0, .class_ 57), (0, u "java/util/Map")] 48

def k5 : Class := { plain "java/util/SequencedMap" (some 0) with
  accessFlags := 1537
  interfaces := #[3]
  cf := some (fileOf pool5 2 #[.nestMembers #[51, 48, 43]] #[] 1537 54 #[56] #[])
  resolved := Array.replicate 106 none
  statics := none }

def pool6 : Array CpInfo := pool [(14, .class_ 16), (1, u "java/util/SortedMap"), (2, .class_ 20), (0, u "java/lang/Object"), (0, .class_ 22), (0, u "java/util/SequencedMap")] 50

def k6 : Class := { plain "java/util/SortedMap" (some 0) with
  accessFlags := 1537
  interfaces := #[5]
  cf := some (fileOf pool6 14 #[] #[] 1537 19 #[21] #[])
  resolved := Array.replicate 73 none
  statics := none }

def pool7 : Array CpInfo := pool [(2, .class_ 4), (1, u "java/util/NavigableMap"), (5, .class_ 11), (0, u "java/lang/Object"), (0, .class_ 13), (0, u "java/util/SortedMap")] 53

def k7 : Class := { plain "java/util/NavigableMap" (some 0) with
  accessFlags := 1537
  interfaces := #[6]
  cf := some (fileOf pool7 2 #[] #[] 1537 10 #[12] #[])
  resolved := Array.replicate 67 none
  statics := none }

def pool8 : Array CpInfo := pool [(1, .class_ 2), (0, u "java/lang/Cloneable"), (0, .class_ 4), (0, u "java/lang/Object")] 2

def k8 : Class := { plain "java/lang/Cloneable" (some 0) with
  accessFlags := 1537
  cf := some (fileOf pool8 1 #[] #[] 1537 3 #[] #[])
  resolved := Array.replicate 7 none
  statics := none }

def pool9 : Array CpInfo := pool [(1, .class_ 2), (0, u "java/io/Serializable"), (0, .class_ 4), (0, u "java/lang/Object")] 2

def k9 : Class := { plain "java/io/Serializable" (some 0) with
  accessFlags := 1537
  cf := some (fileOf pool9 1 #[] #[] 1537 3 #[] #[])
  resolved := Array.replicate 7 none
  statics := none }

def pool10 : Array CpInfo := pool [(1, .methodref 2 3), (0, .class_ 4), (0, .nameAndType 5 6), (0, u "java/util/AbstractMap"), (0, u "<init>"), (0, u "()V"), (0, .fieldref 8 9), (0, .class_ 10), (0, .nameAndType 11 12), (0, u "java/util/TreeMap"), (0, u "size"), (0, u "I"), (0, .fieldref 8 14), (0, .nameAndType 15 12), (0, u "modCount"), (0, .fieldref 8 17), (0, .nameAndType 18 19), (0, u "comparator"), (0, u "Ljava/util/Comparator;"), (11, u "()I"), (2, u "entrySet"), (24, .class_ 61), (1, u "java/util/TreeMap$Entry"), (1, u "Ljava/lang/Object;"), (10, u "key"), (11, .class_ 88), (1, u "java/util/Objects"), (6, .methodref 86 96), (0, .nameAndType 97 98), (0, u "requireNonNull"), (0, u "(Ljava/lang/Object;)Ljava/lang/Object;"), (0, .class_ 100), (0, u "java/lang/Comparable"), (0, .fieldref 8 102), (0, .nameAndType 103 104), (0, u "root"), (0, u "Ljava/util/TreeMap$Entry;"), (0, .fieldref 59 106), (0, .nameAndType 74 63), (0, .interfaceMethodref 99 108), (0, .nameAndType 109 110), (0, u "compareTo"), (0, u "(Ljava/lang/Object;)I"), (0, .fieldref 59 112), (0, .nameAndType 113 104), (0, u "left"), (0, .fieldref 59 115), (0, .nameAndType 116 104), (0, u "right"), (2, .nameAndType 121 122), (1, u "compare"), (0, u "(Ljava/lang/Object;Ljava/lang/Object;)I"), (0, .methodref 8 119), (0, .fieldref 59 125), (0, .nameAndType 126 104), (0, u "parent"), (0, .methodref 8 128), (0, .nameAndType 129 130), (0, u "put"), (0, u "(Ljava/lang/Object;Ljava/lang/Object;Z)Ljava/lang/Object;"), (4, .methodref 8 136), (0, .nameAndType 137 138), (0, u "addEntryToEmptyMap"), (0, u "(Ljava/lang/Object;Ljava/lang/Object;)V"), (0, .methodref 8 140), (0, .nameAndType 141 142), (0, u "addEntry"), (0, u "(Ljava/lang/Object;Ljava/lang/Object;Ljava/util/TreeMap$Entry;Z)V"), (23, u "(Ljava/lang/Object;Ljava/lang/Object;)Ljava/lang/Object;"), (0, .methodref 59 168), (0, .nameAndType 5 169), (0, u "(Ljava/lang/Object;Ljava/lang/Object;Ljava/util/TreeMap$Entry;)V"), (0, .methodref 8 171), (0, .nameAndType 172 173), (0, u "fixAfterInsertion"), (0, u "(Ljava/util/TreeMap$Entry;)V"), (16, u "Ljava/util/TreeMap$EntrySet;"), (2, u "navigableKeySet"), (0, u "Ljava/util/TreeMap$KeySet;"), (2, u "descendingMap"), (0, u "Ljava/util/NavigableMap;"), (23, .class_ 223), (0, u "java/util/TreeMap$KeySet"), (7, .class_ 232), (0, u "java/util/NavigableMap"), (4, .class_ 238), (0, u "java/util/TreeMap$Values"), (3, .class_ 243), (0, u "java/util/TreeMap$EntrySet"), (1, .class_ 246), (0, u "java/util/TreeMap$DescendingSubMap"), (3, .class_ 251), (0, u "java/util/TreeMap$AscendingSubMap"), (17, .class_ 270), (0, u "java/util/TreeMap$KeyIterator"), (3, .class_ 275), (0, u "java/util/TreeMap$DescendingKeyIterator"), (14, .fieldref 59 291), (0, .nameAndType 292 293), (0, u "color"), (0, u "Z"), (94, .class_ 389), (0, u "java/util/TreeMap$NavigableSubMap"), (1, .class_ 392), (0, u "java/util/TreeMap$KeySpliterator"), (3, .class_ 397), (0, u "java/util/TreeMap$DescendingKeySpliterator"), (4, u "UNBOUNDED"), (0, .class_ 404), (0, u "java/lang/Cloneable"), (0, .class_ 406), (0, u "java/io/Serializable"), (6, u "RED"), (2, u "BLACK"), (1, u "serialVersionUID"), (0, u "J"), (214, .class_ 635), (0, u "java/util/TreeMap$EntrySpliterator"), (0, .class_ 637), (0, u "java/util/TreeMap$ValueSpliterator"), (0, .class_ 639), (0, u "java/util/TreeMap$TreeMapSpliterator"), (0, .class_ 641), (0, u "java/util/TreeMap$SubMap"), (0, .class_ 643), (0, u "java/util/TreeMap$DescendingSubMap$DescendingEntrySetView"), (0, .class_ 645), (0, u "java/util/TreeMap$AscendingSubMap$AscendingEntrySetView"), (0, .class_ 647), (0, u "java/util/TreeMap$NavigableSubMap$DescendingSubMapKeyIterator"), (0, .class_ 649), (0, u "java/util/TreeMap$NavigableSubMap$SubMapKeyIterator"), (0, .class_ 651), (0, u "java/util/TreeMap$NavigableSubMap$DescendingSubMapEntryIterator"), (0, .class_ 653), (0, u "java/util/TreeMap$NavigableSubMap$SubMapEntryIterator"), (0, .class_ 655), (0, u "java/util/TreeMap$NavigableSubMap$SubMapIterator"), (0, .class_ 657), (0, u "java/util/TreeMap$NavigableSubMap$EntrySetView"), (0, .class_ 659), (0, u "java/util/TreeMap$ValueIterator"), (0, .class_ 661), (0, u "java/util/TreeMap$EntryIterator"), (0, .class_ 663), (0, u "java/util/TreeMap$PrivateEntryIterator")] 28

def k10c0 : Code := cd 2 1 jdk_2729_method_1_code
def k10m0 : Method := mt "<init>" "()V" [] none 1 (some k10c0)
def k10c1 : Code := cd 1 1 jdk_2729_method_5_code
def k10m1 : Method := mt "size" "()I" [] (some .int) 1 (some k10c1)
def k10c2 : Code := cd 4 3 jdk_2729_method_21_code
def k10m2 : Method := mt "put" "(Ljava/lang/Object;Ljava/lang/Object;)Ljava/lang/Object;" [(.object "java/lang/Object"), (.object "java/lang/Object")] (some (.object "java/lang/Object")) 1 (some k10c2)
def k10c3 : Code := cd 5 6 jdk_2729_method_29_code
def k10m3 : Method := mt "addEntry" "(Ljava/lang/Object;Ljava/lang/Object;Ljava/util/TreeMap$Entry;Z)V" [(.object "java/lang/Object"), (.object "java/lang/Object"), (.object "java/util/TreeMap$Entry"), .boolean] none 2 (some k10c3)
def k10c4 : Code := cd 6 3 jdk_2729_method_30_code
def k10m4 : Method := mt "addEntryToEmptyMap" "(Ljava/lang/Object;Ljava/lang/Object;)V" [(.object "java/lang/Object"), (.object "java/lang/Object")] none 2 (some k10c4)
def k10c5 : Code := cd 5 10 jdk_2729_method_31_code
def k10m5 : Method := mt "put" "(Ljava/lang/Object;Ljava/lang/Object;Z)Ljava/lang/Object;" [(.object "java/lang/Object"), (.object "java/lang/Object"), .boolean] (some (.object "java/lang/Object")) 2 (some k10c5)
def k10c6 : Code := cd 3 3 jdk_2729_method_67_code
def k10m6 : Method := mt "compare" "(Ljava/lang/Object;Ljava/lang/Object;)I" [(.object "java/lang/Object"), (.object "java/lang/Object")] (some .int) 16 (some k10c6)
def k10c7 : Code := cd 2 3 jdk_2729_method_83_code
def k10m7 : Method := mt "fixAfterInsertion" "(Ljava/util/TreeMap$Entry;)V" [(.object "java/util/TreeMap$Entry")] none 2 (some k10c7)
def k10 : Class := { plain "java/util/TreeMap" (some 4) with
  accessFlags := 33
  interfaces := #[7, 8, 9]
  cf := some (fileOf pool10 8 #[.nestMembers #[634, 636, 396, 391, 638, 59, 640, 245, 642, 250, 644, 388, 646, 648, 650, 652, 654, 656, 274, 269, 658, 660, 662, 222, 242, 237]] #[⟨1, 5, 6, #[]⟩, ⟨1, 11, 31, #[]⟩, ⟨1, 129, 166, #[]⟩, ⟨2, 141, 142, #[]⟩, ⟨2, 137, 138, #[]⟩, ⟨2, 129, 130, #[]⟩, ⟨16, 121, 122, #[]⟩, ⟨2, 172, 173, #[]⟩] 33 2 #[231, 403, 405] #[⟨18, 18, 19, #[]⟩, ⟨130, 103, 104, #[]⟩, ⟨130, 11, 12, #[]⟩, ⟨130, 15, 12, #[]⟩, ⟨130, 34, 190, #[]⟩, ⟨130, 193, 194, #[]⟩, ⟨130, 197, 198, #[]⟩, ⟨26, 402, 63, #[]⟩, ⟨26, 413, 293, #[]⟩, ⟨26, 416, 293, #[]⟩, ⟨26, 418, 419, #[]⟩])
  fields := #[fd "comparator" (.object "java/util/Comparator") 18 2 0, fd "root" (.object "java/util/TreeMap$Entry") 130 3 0, fd "size" .int 130 4 0, fd "modCount" .int 130 5 0, fd "entrySet" (.object "java/util/TreeMap$EntrySet") 130 6 0, fd "navigableKeySet" (.object "java/util/TreeMap$KeySet") 130 7 0, fd "descendingMap" (.object "java/util/NavigableMap") 130 8 0, fd "UNBOUNDED" (.object "java/lang/Object") 26 0 0, fd "RED" .boolean 26 1 0, fd "BLACK" .boolean 26 2 0, fd "serialVersionUID" .long 26 3 0]
  methods := #[k10m0, k10m1, k10m2, k10m3, k10m4, k10m5, k10m6, k10m7]
  instanceTypes := #[(.object "java/util/Set"), (.object "java/util/Collection"), (.object "java/util/Comparator"), (.object "java/util/TreeMap$Entry"), .int, .int, (.object "java/util/TreeMap$EntrySet"), (.object "java/util/TreeMap$KeySet"), (.object "java/util/NavigableMap")]
  staticTypes := #[(.object "java/lang/Object"), .boolean, .boolean, .long]
  resolved := Array.replicate 692 none
  statics := none }

def pool11 : Array CpInfo := pool [(1, .class_ 2), (0, u "convoke/protocol/Broadcast"), (0, .class_ 4), (0, u "java/lang/Object")] 19

def k11 : Class := { plain "convoke/protocol/Broadcast" (some 0) with
  accessFlags := 1537
  cf := some (fileOf pool11 1 #[] #[] 1537 3 #[] #[])
  resolved := Array.replicate 24 none
  statics := none }

def pool12 : Array CpInfo := pool [(1, .methodref 2 3), (0, .class_ 4), (0, .nameAndType 5 6), (0, u "java/lang/Object"), (0, u "<init>"), (0, u "()V"), (0, .fieldref 8 9), (0, .class_ 10), (0, .nameAndType 11 12), (0, u "convoke/protocol/BrachaFamily"), (0, u "seat"), (0, u "Lconvoke/protocol/Seat;"), (0, .fieldref 8 14), (0, .nameAndType 15 16), (0, u "kinds"), (0, u "Lconvoke/model/Kinds;"), (0, .fieldref 8 18), (0, .nameAndType 19 20), (0, u "initKind"), (0, u "Lconvoke/model/Message$Kind;"), (0, .fieldref 8 22), (0, .nameAndType 23 20), (0, u "echoKind"), (5, u "()I"), (14, u "started"), (0, u "Z"), (17, .methodref 64 65), (0, .class_ 66), (0, .nameAndType 67 68), (0, u "convoke/model/Message"), (0, u "kind"), (0, u "()Lconvoke/model/Message$Kind;"), (8, u "handle"), (0, u "(Lconvoke/model/Message;)Ljava/util/List;"), (0, .methodref 8 80), (0, .nameAndType 81 82), (0, u "stopped"), (0, u "()Z"), (0, .interfaceMethodref 84 85), (0, .class_ 86), (0, .nameAndType 87 88), (0, u "java/util/List"), (0, u "of"), (0, u "()Ljava/util/List;"), (0, .interfaceMethodref 90 91), (0, .class_ 92), (0, .nameAndType 93 94), (0, u "convoke/model/Message$Kind"), (0, u "equals"), (0, u "(Ljava/lang/Object;)Z"), (0, .methodref 64 96), (0, .nameAndType 97 29), (0, u "from"), (0, .methodref 64 99), (0, .nameAndType 100 101), (0, u "value"), (0, u "()Lconvoke/model/Value;"), (4, .methodref 8 107), (0, .nameAndType 108 109), (0, u "rule"), (0, u "(Lconvoke/model/Message$Kind;ILconvoke/model/Value;)Ljava/util/List;"), (0, .methodref 8 111), (0, .nameAndType 112 88), (0, u "leaving"), (0, .fieldref 8 114), (0, .nameAndType 115 45), (0, u "quit"), (0, .methodref 8 117), (0, .nameAndType 118 6), (0, u "release"), (0, .fieldref 8 120), (0, .nameAndType 121 45), (0, u "terminated"), (0, .fieldref 8 123), (0, .nameAndType 124 125), (0, u "output"), (0, u "Lconvoke/model/Value;"), (0, .methodref 127 128), (0, .class_ 129), (0, .nameAndType 130 131), (0, u "java/util/Optional"), (0, u "ofNullable"), (0, u "(Ljava/lang/Object;)Ljava/util/Optional;"), (6, u "echoed"), (22, .class_ 162), (0, u "convoke/protocol/Broadcast"), (0, u "(Lconvoke/protocol/Seat;Lconvoke/model/Kinds;Lconvoke/model/Message$Kind;Lconvoke/model/Message$Kind;)V"), (9, u "()Ljava/util/Optional;"), (1, u "()Lconvoke/protocol/Seat;"), (0, u "outputOnce"), (0, u "(Lconvoke/model/Value;)V"), (0, u "terminate")] 39

def k12c0 : Code := cd 2 5 prog_63_method_1_code
def k12m0 : Method := mt "<init>" "(Lconvoke/protocol/Seat;Lconvoke/model/Kinds;Lconvoke/model/Message$Kind;Lconvoke/model/Message$Kind;)V" [(.object "convoke/protocol/Seat"), (.object "convoke/model/Kinds"), (.object "convoke/model/Message$Kind"), (.object "convoke/model/Message$Kind")] none 0 (some k12c0)
def k12c1 : Code := cd 4 3 prog_63_method_5_code
def k12m1 : Method := mt "handle" "(Lconvoke/model/Message;)Ljava/util/List;" [(.object "convoke/model/Message")] (some (.object "java/util/List")) 16 (some k12c1)
def k12c2 : Code := cd 2 2 prog_63_method_6_code
def k12m2 : Method := mt "quit" "()Ljava/util/List;" [] (some (.object "java/util/List")) 1 (some k12c2)
def k12c3 : Code := cd 1 1 prog_63_method_7_code
def k12m3 : Method := mt "terminated" "()Z" [] (some .boolean) 1 (some k12c3)
def k12c4 : Code := cd 1 1 prog_63_method_8_code
def k12m4 : Method := mt "output" "()Ljava/util/Optional;" [] (some (.object "java/util/Optional")) 1 (some k12c4)
def k12c5 : Code := cd 1 1 prog_63_method_9_code
def k12m5 : Method := mt "seat" "()Lconvoke/protocol/Seat;" [] (some (.object "convoke/protocol/Seat")) 16 (some k12c5)
def k12c6 : Code := cd 2 2 prog_63_method_14_code
def k12m6 : Method := mt "outputOnce" "(Lconvoke/model/Value;)V" [(.object "convoke/model/Value")] none 16 (some k12c6)
def k12c7 : Code := cd 2 1 prog_63_method_15_code
def k12m7 : Method := mt "terminate" "()V" [] none 16 (some k12c7)
def k12m8 : Method := mt "rule" "(Lconvoke/model/Message$Kind;ILconvoke/model/Value;)Ljava/util/List;" [(.object "convoke/model/Message$Kind"), .int, (.object "convoke/model/Value")] (some (.object "java/util/List")) 1024 none
def k12m9 : Method := mt "leaving" "()Ljava/util/List;" [] (some (.object "java/util/List")) 1024 none
def k12m10 : Method := mt "release" "()V" [] none 1024 none
def k12c11 : Code := cd 1 1 prog_63_method_21_code
def k12m11 : Method := mt "stopped" "()Z" [] (some .boolean) 2 (some k12c11)
def k12 : Class := { plain "convoke/protocol/BrachaFamily" (some 0) with
  accessFlags := 1056
  interfaces := #[11]
  cf := some (fileOf pool12 8 #[] #[⟨0, 5, 163, #[]⟩, ⟨16, 77, 78, #[]⟩, ⟨1, 115, 88, #[]⟩, ⟨1, 121, 82, #[]⟩, ⟨1, 124, 173, #[]⟩, ⟨16, 11, 175, #[]⟩, ⟨16, 176, 177, #[]⟩, ⟨16, 178, 6, #[]⟩, ⟨1024, 108, 109, #[]⟩, ⟨1024, 112, 88, #[]⟩, ⟨1024, 118, 6, #[]⟩, ⟨2, 81, 82, #[]⟩] 1056 2 #[161] #[⟨18, 11, 12, #[]⟩, ⟨18, 15, 16, #[]⟩, ⟨18, 19, 20, #[]⟩, ⟨18, 23, 20, #[]⟩, ⟨2, 44, 45, #[]⟩, ⟨2, 138, 45, #[]⟩, ⟨2, 121, 45, #[]⟩, ⟨2, 115, 45, #[]⟩, ⟨2, 124, 125, #[]⟩])
  fields := #[fd "seat" (.object "convoke/protocol/Seat") 18 0 0, fd "kinds" (.object "convoke/model/Kinds") 18 1 0, fd "initKind" (.object "convoke/model/Message$Kind") 18 2 0, fd "echoKind" (.object "convoke/model/Message$Kind") 18 3 0, fd "started" .boolean 2 4 0, fd "echoed" .boolean 2 5 0, fd "terminated" .boolean 2 6 0, fd "quit" .boolean 2 7 0, fd "output" (.object "convoke/model/Value") 2 8 0]
  methods := #[k12m0, k12m1, k12m2, k12m3, k12m4, k12m5, k12m6, k12m7, k12m8, k12m9, k12m10, k12m11]
  instanceTypes := #[(.object "convoke/protocol/Seat"), (.object "convoke/model/Kinds"), (.object "convoke/model/Message$Kind"), (.object "convoke/model/Message$Kind"), .boolean, .boolean, .boolean, .boolean, (.object "convoke/model/Value")]
  resolved := Array.replicate 218 none
  statics := none }

def pool13 : Array CpInfo := pool [(2, .class_ 4), (1, u "convoke/protocol/Bracha"), (0, u "<init>"), (0, u "(IIIIZ)V"), (0, .methodref 2 8), (0, .nameAndType 9 10), (0, u "seated"), (0, u "(IIII)Lconvoke/protocol/Seat;"), (0, .fieldref 12 13), (0, .class_ 14), (0, .nameAndType 15 16), (0, u "convoke/protocol/BrachaKind"), (0, u "KINDS"), (0, u "Lconvoke/model/Kinds;"), (0, .fieldref 12 18), (0, .nameAndType 19 20), (0, u "INIT"), (0, u "Lconvoke/protocol/BrachaKind;"), (0, .fieldref 12 22), (0, .nameAndType 23 20), (0, u "ECHO"), (0, .methodref 25 26), (0, .class_ 27), (0, .nameAndType 5 28), (0, u "convoke/protocol/BrachaFamily"), (0, u "(Lconvoke/protocol/Seat;Lconvoke/model/Kinds;Lconvoke/model/Message$Kind;Lconvoke/model/Message$Kind;)V"), (0, .fieldref 2 30), (0, .nameAndType 31 32), (0, u "quitResistant"), (0, u "Z"), (0, .long 2), (1, .fieldref 2 36), (0, .nameAndType 37 38), (0, u "echoQuorum"), (0, u "I"), (0, .fieldref 2 40), (0, .nameAndType 41 38), (0, u "readySupport"), (0, .fieldref 2 43), (0, .nameAndType 44 38), (0, u "readyQuorum"), (0, .fieldref 2 46), (0, .nameAndType 47 38), (0, u "outputSupport"), (0, .class_ 49), (0, u "convoke/protocol/Votes"), (0, .methodref 48 51), (0, .nameAndType 5 52), (0, u "(I)V"), (0, .fieldref 2 54), (0, .nameAndType 55 56), (0, u "echoes"), (0, u "Lconvoke/protocol/Votes;"), (0, .fieldref 2 58), (0, .nameAndType 59 56), (0, u "readies"), (0, .fieldref 2 61), (0, .nameAndType 62 56), (0, u "readiesOrQuits"), (0, .methodref 2 64), (0, .nameAndType 65 66), (0, u "checkParameters"), (0, u "(II)V"), (0, .class_ 68), (0, u "convoke/protocol/Seat"), (0, .methodref 67 70), (0, .nameAndType 5 71), (0, u "(III)V"), (0, .string 73), (0, u "Bracha broadcast"), (0, .methodref 75 76), (0, .class_ 77), (0, .nameAndType 78 79), (0, u "convoke/protocol/Bounds"), (0, u "checkMoreThanThreeT"), (0, u "(Ljava/lang/String;II)V"), (3, u "(ILconvoke/model/Value;)Ljava/util/List;"), (0, .fieldref 12 85), (0, .nameAndType 86 20), (0, u "READY"), (0, .methodref 2 88), (0, .nameAndType 89 83), (0, u "onReady"), (4, .methodref 2 95), (0, .nameAndType 96 97), (0, u "seat"), (0, u "()Lconvoke/protocol/Seat;"), (3, .methodref 67 102), (0, .nameAndType 103 104), (0, u "multicast"), (0, u "(Lconvoke/model/Message$Kind;Lconvoke/model/Value;)Ljava/util/List;"), (0, .interfaceMethodref 106 107), (0, .class_ 108), (0, .nameAndType 109 110), (0, u "java/util/List"), (0, u "of"), (0, u "()Ljava/util/List;"), (0, .methodref 48 112), (0, .nameAndType 113 114), (0, u "add"), (0, u "(ILconvoke/model/Value;)Z"), (0, .fieldref 2 116), (0, .nameAndType 117 32), (0, u "readySent"), (0, .methodref 48 119), (0, .nameAndType 120 121), (0, u "count"), (0, u "(Lconvoke/model/Value;)I"), (0, .methodref 2 123), (0, .nameAndType 124 125), (0, u "outputOnce"), (0, u "(Lconvoke/model/Value;)V"), (0, .methodref 2 127), (0, .nameAndType 128 129), (0, u "terminateIfDone"), (0, u "()V"), (4, .fieldref 2 135), (0, .nameAndType 136 38), (0, u "quits"), (0, .methodref 2 138), (0, .nameAndType 139 140), (0, u "output"), (0, u "()Ljava/util/Optional;"), (0, .methodref 142 143), (0, .class_ 144), (0, .nameAndType 145 146), (0, u "java/util/Optional"), (0, u "isEmpty"), (0, u "()Z"), (0, .methodref 142 148), (0, .nameAndType 149 150), (0, u "get"), (0, u "()Ljava/lang/Object;"), (0, .class_ 152), (0, u "convoke/model/Value"), (0, .methodref 2 154), (0, .nameAndType 155 129), (0, u "terminate"), (0, .methodref 25 138), (0, .methodref 25 158), (0, .nameAndType 159 146), (0, u "terminated"), (0, .methodref 25 161), (0, .nameAndType 162 110), (0, u "quit"), (17, u "rule"), (0, u "(Lconvoke/model/Message$Kind;ILconvoke/model/Value;)Ljava/util/List;"), (2, u "leaving"), (3, u "release")] 9

def k13c0 : Code := cd 5 6 prog_62_method_2_code
def k13m0 : Method := mt "<init>" "(IIIIZ)V" [.int, .int, .int, .int, .boolean] none 0 (some k13c0)
def k13c1 : Code := cd 5 4 prog_62_method_3_code
def k13m1 : Method := mt "seated" "(IIII)Lconvoke/protocol/Seat;" [.int, .int, .int, .int] (some (.object "convoke/protocol/Seat")) 10 (some k13c1)
def k13c2 : Code := cd 3 2 prog_62_method_5_code
def k13m2 : Method := mt "checkParameters" "(II)V" [.int, .int] none 9 (some k13c2)
def k13c3 : Code := cd 3 5 prog_62_method_6_code
def k13m3 : Method := mt "rule" "(Lconvoke/model/Message$Kind;ILconvoke/model/Value;)Ljava/util/List;" [(.object "convoke/model/Message$Kind"), .int, (.object "convoke/model/Value")] (some (.object "java/util/List")) 0 (some k13c3)
def k13c4 : Code := cd 3 1 prog_62_method_7_code
def k13m4 : Method := mt "leaving" "()Ljava/util/List;" [] (some (.object "java/util/List")) 0 (some k13c4)
def k13c5 : Code := cd 3 4 prog_62_method_9_code
def k13m5 : Method := mt "onReady" "(ILconvoke/model/Value;)Ljava/util/List;" [.int, (.object "convoke/model/Value")] (some (.object "java/util/List")) 2 (some k13c5)
def k13c6 : Code := cd 2 3 prog_62_method_11_code
def k13m6 : Method := mt "terminateIfDone" "()V" [] none 2 (some k13c6)
def k13c7 : Code := cd 2 1 prog_62_method_12_code
def k13m7 : Method := mt "release" "()V" [] none 0 (some k13c7)
def k13c8 : Code := cd 1 1 prog_62_method_13_code
def k13m8 : Method := mt "output" "()Ljava/util/Optional;" [] (some (.object "java/util/Optional")) 4161 (some k13c8)
def k13c9 : Code := cd 1 1 prog_62_method_14_code
def k13m9 : Method := mt "terminated" "()Z" [] (some .boolean) 4161 (some k13c9)
def k13c10 : Code := cd 1 1 prog_62_method_15_code
def k13m10 : Method := mt "quit" "()Ljava/util/List;" [] (some (.object "java/util/List")) 4161 (some k13c10)
def k13 : Class := { plain "convoke/protocol/Bracha" (some 12) with
  accessFlags := 49
  cf := some (fileOf pool13 2 #[] #[⟨0, 5, 6, #[]⟩, ⟨10, 9, 10, #[]⟩, ⟨9, 65, 66, #[]⟩, ⟨0, 180, 181, #[]⟩, ⟨0, 184, 110, #[]⟩, ⟨2, 89, 83, #[]⟩, ⟨2, 128, 129, #[]⟩, ⟨0, 188, 129, #[]⟩, ⟨4161, 139, 140, #[]⟩, ⟨4161, 159, 146, #[]⟩, ⟨4161, 162, 110, #[]⟩] 49 25 #[] #[⟨18, 31, 32, #[]⟩, ⟨18, 37, 38, #[]⟩, ⟨18, 41, 38, #[]⟩, ⟨18, 44, 38, #[]⟩, ⟨18, 47, 38, #[]⟩, ⟨2, 117, 32, #[]⟩, ⟨2, 55, 56, #[]⟩, ⟨2, 59, 56, #[]⟩, ⟨2, 62, 56, #[]⟩, ⟨2, 136, 38, #[]⟩])
  fields := #[fd "quitResistant" .boolean 18 9 0, fd "echoQuorum" .int 18 10 0, fd "readySupport" .int 18 11 0, fd "readyQuorum" .int 18 12 0, fd "outputSupport" .int 18 13 0, fd "readySent" .boolean 2 14 0, fd "echoes" (.object "convoke/protocol/Votes") 2 15 0, fd "readies" (.object "convoke/protocol/Votes") 2 16 0, fd "readiesOrQuits" (.object "convoke/protocol/Votes") 2 17 0, fd "quits" .int 2 18 0]
  methods := #[k13m0, k13m1, k13m2, k13m3, k13m4, k13m5, k13m6, k13m7, k13m8, k13m9, k13m10]
  instanceTypes := #[(.object "convoke/protocol/Seat"), (.object "convoke/model/Kinds"), (.object "convoke/model/Message$Kind"), (.object "convoke/model/Message$Kind"), .boolean, .boolean, .boolean, .boolean, (.object "convoke/model/Value"), .boolean, .int, .int, .int, .int, .boolean, (.object "convoke/protocol/Votes"), (.object "convoke/protocol/Votes"), (.object "convoke/protocol/Votes"), .int]
  resolved := Array.replicate 198 none
  statics := none }

def pool14 : Array CpInfo := pool [(1, .class_ 2), (0, u "java/lang/Comparable"), (0, .class_ 4), (0, u "java/lang/Object"), (0, u "compareTo"), (0, u "(Ljava/lang/Object;)I")] 5

def k14m0 : Method := mt "compareTo" "(Ljava/lang/Object;)I" [(.object "java/lang/Object")] (some .int) 1025 none
def k14 : Class := { plain "java/lang/Comparable" (some 0) with
  accessFlags := 1537
  cf := some (fileOf pool14 1 #[] #[⟨1025, 5, 6, #[]⟩] 1537 3 #[] #[])
  methods := #[k14m0]
  resolved := Array.replicate 12 none
  statics := none }

def pool15 : Array CpInfo := pool [(2, .class_ 4), (1, u "java/lang/CharSequence"), (42, .class_ 48), (0, u "java/lang/CharSequence$1CodePointIterator"), (10, .class_ 60), (0, u "java/lang/CharSequence$1CharIterator"), (5, .class_ 67), (0, u "java/lang/Object")] 63

def k15 : Class := { plain "java/lang/CharSequence" (some 0) with
  accessFlags := 1537
  cf := some (fileOf pool15 2 #[.nestMembers #[47, 59]] #[] 1537 66 #[] #[])
  resolved := Array.replicate 131 none
  statics := none }

def pool16 : Array CpInfo := pool [(1, .class_ 2), (0, u "java/lang/constant/Constable"), (0, .class_ 4), (0, u "java/lang/Object")] 6

def k16 : Class := { plain "java/lang/constant/Constable" (some 0) with
  accessFlags := 1537
  cf := some (fileOf pool16 1 #[] #[] 1537 3 #[] #[])
  resolved := Array.replicate 11 none
  statics := none }

def pool17 : Array CpInfo := pool [(1, .class_ 2), (0, u "java/lang/constant/ConstantDesc"), (0, .class_ 4), (0, u "java/lang/Object")] 32

def k17 : Class := { plain "java/lang/constant/ConstantDesc" (some 0) with
  accessFlags := 1537
  cf := some (fileOf pool17 1 #[] #[] 1537 3 #[] #[])
  resolved := Array.replicate 37 none
  statics := none }

def pool18 : Array CpInfo := pool [(2, .class_ 4), (1, u "java/lang/Object"), (0, u "<init>"), (0, u "()V"), (2, .fieldref 10 11), (0, .class_ 12), (0, .nameAndType 13 14), (0, u "java/lang/String"), (0, u "value"), (0, u "[B"), (0, .fieldref 10 16), (0, .nameAndType 17 18), (0, u "coder"), (0, u "B"), (2, u "hash"), (0, u "I"), (2, u "hashIsZero"), (0, u "Z"), (11, .fieldref 10 39), (0, .nameAndType 40 26), (0, u "COMPACT_STRINGS"), (45, .fieldref 87 88), (0, .class_ 89), (0, .nameAndType 90 91), (0, u "sun/nio/cs/UTF_8"), (0, u "INSTANCE"), (0, u "Lsun/nio/cs/UTF_8;"), (15, .class_ 109), (1, u "java/lang/StringLatin1"), (6, .fieldref 117 118), (0, .class_ 119), (0, .nameAndType 90 120), (0, u "sun/nio/cs/ISO_8859_1"), (0, u "Lsun/nio/cs/ISO_8859_1;"), (21, u "()Z"), (112, u "(B[BZ)[B"), (0, .methodref 10 257), (0, .nameAndType 258 259), (0, u "encode8859_1"), (0, u "(B[B)[B"), (19, .methodref 280 281), (0, .class_ 14), (0, .nameAndType 282 283), (0, u "clone"), (0, u "()Ljava/lang/Object;"), (33, u "encode"), (16, u "()I"), (0, .methodref 10 336), (0, .nameAndType 17 337), (0, u "()B"), (13, .methodref 10 352), (0, .nameAndType 258 255), (10, u "([BI)C"), (27, u "(II)V"), (35, u "(I)C"), (64, .methodref 10 493), (0, .nameAndType 494 142), (0, u "isLatin1"), (0, .methodref 107 496), (0, .nameAndType 497 363), (0, u "charAt"), (3, u "checkIndex"), (5, u "length"), (24, u "getBytes"), (2, .methodref 10 536), (0, .nameAndType 317 537), (0, u "(Ljava/nio/charset/Charset;B[B)[B"), (37, .class_ 576), (0, u "java/lang/CharSequence"), (22, u "CASE_INSENSITIVE_ORDER"), (0, u "Ljava/util/Comparator;"), (91, u "isEmpty"), (360, .fieldref 1054 1055), (0, .class_ 1056), (0, .nameAndType 1057 1058), (0, u "jdk/internal/util/Preconditions"), (0, u "SIOOBE_FORMATTER"), (0, u "Ljava/util/function/BiFunction;"), (0, .methodref 1054 1060), (0, .nameAndType 501 1061), (0, u "(IILjava/util/function/BiFunction;)I"), (39, u "serialPersistentFields"), (0, u "[Ljava/io/ObjectStreamField;"), (0, .class_ 1104), (0, u "java/lang/String$CaseInsensitiveComparator"), (1, .class_ 1107), (0, u "java/io/Serializable"), (0, .class_ 1109), (0, u "java/lang/Comparable"), (0, .class_ 1111), (0, u "java/lang/constant/Constable"), (0, .class_ 1113), (0, u "java/lang/constant/ConstantDesc"), (2, u "serialVersionUID"), (0, u "J"), (3, u "REPL"), (0, u "C"), (2, u "LATIN1"), (1, u "UTF16"), (117, u "(Ljava/nio/charset/Charset;)[B")] 205

def k18m0 : Method := mt "<init>" "()V" [] none 1 none
def k18c1 : Code := cd 4 3 jdk_42_method_18_code
def k18m1 : Method := mt "encode" "(Ljava/nio/charset/Charset;B[B)[B" [(.object "java/nio/charset/Charset"), .byte, (.array .byte)] (some (.array .byte)) 10 (some k18c1)
def k18c2 : Code := cd 3 2 jdk_42_method_26_code
def k18m2 : Method := mt "encode8859_1" "(B[B)[B" [.byte, (.array .byte)] (some (.array .byte)) 10 (some k18c2)
def k18c3 : Code := cd 5 10 jdk_42_method_27_code
def k18m3 : Method := mt "encode8859_1" "(B[BZ)[B" [.byte, (.array .byte), .boolean] (some (.array .byte)) 10 (some k18c3)
def k18c4 : Code := cd 2 1 jdk_42_method_54_code
def k18m4 : Method := mt "length" "()I" [] (some .int) 1 (some k18c4)
def k18c5 : Code := cd 1 1 jdk_42_method_55_code
def k18m5 : Method := mt "isEmpty" "()Z" [] (some .boolean) 1 (some k18c5)
def k18c6 : Code := cd 2 2 jdk_42_method_56_code
def k18m6 : Method := mt "charAt" "(I)C" [.int] (some .char) 1 (some k18c6)
def k18c7 : Code := cd 3 2 jdk_42_method_64_code
def k18m7 : Method := mt "getBytes" "(Ljava/nio/charset/Charset;)[B" [(.object "java/nio/charset/Charset")] (some (.array .byte)) 1 (some k18c7)
def k18c8 : Code := cd 1 1 jdk_42_method_152_code
def k18m8 : Method := mt "coder" "()B" [] (some .byte) 0 (some k18c8)
def k18c9 : Code := cd 1 1 jdk_42_method_154_code
def k18m9 : Method := mt "isLatin1" "()Z" [] (some .boolean) 0 (some k18c9)
def k18c10 : Code := cd 3 2 jdk_42_method_155_code
def k18m10 : Method := mt "checkIndex" "(II)V" [.int, .int] none 8 (some k18c10)
def k18 : Class := { plain "java/lang/String" (some 0) with
  accessFlags := 49
  interfaces := #[9, 14, 15, 16, 17]
  cf := some (fileOf pool18 10 #[.nestMembers #[1103]] #[⟨1, 5, 6, #[]⟩, ⟨10, 317, 537, #[]⟩, ⟨10, 258, 259, #[]⟩, ⟨10, 258, 255, #[]⟩, ⟨1, 507, 334, #[]⟩, ⟨1, 692, 142, #[]⟩, ⟨1, 497, 427, #[]⟩, ⟨1, 532, 1245, #[]⟩, ⟨0, 17, 337, #[]⟩, ⟨0, 494, 142, #[]⟩, ⟨8, 501, 391, #[]⟩] 49 2 #[1106, 1108, 575, 1110, 1112] #[⟨18, 13, 14, #[]⟩, ⟨18, 17, 18, #[]⟩, ⟨2, 21, 22, #[]⟩, ⟨2, 25, 26, #[]⟩, ⟨26, 1116, 1117, #[]⟩, ⟨24, 40, 26, #[]⟩, ⟨26, 1101, 1102, #[]⟩, ⟨26, 1121, 1122, #[]⟩, ⟨25, 599, 600, #[]⟩, ⟨24, 1125, 18, #[]⟩, ⟨24, 1127, 18, #[]⟩])
  fields := #[fd "value" (.array .byte) 18 0 0, fd "coder" .byte 18 1 0, fd "hash" .int 2 2 0, fd "hashIsZero" .boolean 2 3 0, fd "serialVersionUID" .long 26 0 0, fd "COMPACT_STRINGS" .boolean 24 1 0, fd "serialPersistentFields" (.array (.object "java/io/ObjectStreamField")) 26 2 0, fd "REPL" .char 26 3 0, fd "CASE_INSENSITIVE_ORDER" (.object "java/util/Comparator") 25 4 0, fd "LATIN1" .byte 24 5 0, fd "UTF16" .byte 24 6 0]
  methods := #[k18m0, k18m1, k18m2, k18m3, k18m4, k18m5, k18m6, k18m7, k18m8, k18m9, k18m10]
  instanceTypes := #[(.array .byte), .byte, .int, .boolean]
  staticTypes := #[.long, .boolean, (.array (.object "java/io/ObjectStreamField")), .char, (.object "java/util/Comparator"), .byte, .byte]
  resolved := Array.replicate 1451 none
  statics := some 0 }

def pool19 : Array CpInfo := pool [(2, .class_ 4), (1, u "java/lang/Object"), (0, u "<init>"), (0, u "()V"), (9, .methodref 17 18), (0, .class_ 19), (0, .nameAndType 20 21), (0, u "convoke/protocol/Bounds"), (0, u "checkFaulty"), (0, u "(I)V"), (0, .long 3), (7, u "checkMoreThanThreeT"), (0, u "(Ljava/lang/String;II)V")] 19

def k19m0 : Method := mt "<init>" "()V" [] none 2 none
def k19c1 : Code := cd 3 1 prog_61_method_2_code
def k19m1 : Method := mt "checkFaulty" "(I)V" [.int] none 8 (some k19c1)
def k19c2 : Code := cd 6 3 prog_61_method_3_code
def k19m2 : Method := mt "checkMoreThanThreeT" "(Ljava/lang/String;II)V" [(.object "java/lang/String"), .int, .int] none 8 (some k19c2)
def k19 : Class := { plain "convoke/protocol/Bounds" (some 0) with
  accessFlags := 48
  cf := some (fileOf pool19 17 #[] #[⟨2, 5, 6, #[]⟩, ⟨8, 20, 21, #[]⟩, ⟨8, 30, 31, #[]⟩] 48 2 #[] #[])
  methods := #[k19m0, k19m1, k19m2]
  resolved := Array.replicate 51 none
  statics := none }

def pool20 : Array CpInfo := pool [(2, .class_ 4), (1, u "java/lang/Object"), (0, u "<init>"), (0, u "()V"), (18, .class_ 27), (1, u "convoke/model/Parties"), (0, u "check"), (0, u "(Ljava/lang/String;II)V")] 21

def k20m0 : Method := mt "<init>" "()V" [] none 2 none
def k20c1 : Code := cd 5 3 prog_25_method_2_code
def k20m1 : Method := mt "check" "(Ljava/lang/String;II)V" [(.object "java/lang/String"), .int, .int] none 9 (some k20c1)
def k20 : Class := { plain "convoke/model/Parties" (some 0) with
  accessFlags := 49
  cf := some (fileOf pool20 25 #[] #[⟨2, 5, 6, #[]⟩, ⟨9, 28, 29, #[]⟩] 49 2 #[] #[])
  methods := #[k20m0, k20m1]
  resolved := Array.replicate 51 none
  statics := none }

def pool21 : Array CpInfo := pool [(1, .methodref 2 3), (0, .class_ 4), (0, .nameAndType 5 6), (0, u "java/lang/Object"), (0, u "<init>"), (0, u "()V"), (0, .class_ 8), (0, u "java/lang/Record")] 13

def k21c0 : Code := cd 1 1 jdk_30_method_1_code
def k21m0 : Method := mt "<init>" "()V" [] none 4 (some k21c0)
def k21 : Class := { plain "java/lang/Record" (some 0) with
  accessFlags := 1057
  cf := some (fileOf pool21 7 #[] #[⟨4, 5, 6, #[]⟩] 1057 2 #[] #[])
  methods := #[k21m0]
  resolved := Array.replicate 22 none
  statics := none }

def pool22 : Array CpInfo := pool [(1, .methodref 2 3), (0, .class_ 4), (0, .nameAndType 5 6), (0, u "java/lang/Record"), (0, u "<init>"), (0, u "()V"), (0, .string 8), (0, u "self"), (0, .methodref 10 11), (0, .class_ 12), (0, .nameAndType 13 14), (0, u "convoke/model/Parties"), (0, u "check"), (0, u "(Ljava/lang/String;II)V"), (0, .string 16), (0, u "sender"), (0, .fieldref 18 19), (0, .class_ 20), (0, .nameAndType 21 22), (0, u "convoke/protocol/Seat"), (0, u "parties"), (0, u "I"), (0, .fieldref 18 24), (0, .nameAndType 8 22), (0, .fieldref 18 26), (0, .nameAndType 16 22), (2, u "checkAddressed"), (0, u "(Lconvoke/model/Message;II)V"), (1, .class_ 34), (1, u "convoke/model/Message"), (1, u "()I"), (9, .methodref 32 47), (0, .nameAndType 48 36), (0, u "to"), (3, .string 53), (0, u "message sender"), (0, .methodref 32 55), (0, .nameAndType 56 36), (0, u "from"), (0, .methodref 18 58), (0, .nameAndType 59 60), (0, u "multicast"), (0, u "(IIILconvoke/model/Message$Kind;Lconvoke/model/Value;)Ljava/util/List;"), (0, .class_ 62), (0, u "java/util/ArrayList"), (0, .methodref 61 64), (0, .nameAndType 5 65), (0, u "(I)V"), (0, .methodref 32 67), (0, .nameAndType 5 68), (0, u "(IIILconvoke/model/Message$Kind;Lconvoke/model/Value;)V"), (0, .interfaceMethodref 70 71), (0, .class_ 72), (0, .nameAndType 73 74), (0, u "java/util/List"), (0, u "add"), (0, u "(Ljava/lang/Object;)Z"), (12, u "(III)V"), (5, u "(Lconvoke/model/Message$Kind;Lconvoke/model/Value;)Ljava/util/List;")] 39

def k22c0 : Code := cd 3 4 prog_80_method_1_code
def k22m0 : Method := mt "<init>" "(III)V" [.int, .int, .int] none 0 (some k22c0)
def k22c1 : Code := cd 4 3 prog_80_method_3_code
def k22m1 : Method := mt "checkAddressed" "(Lconvoke/model/Message;II)V" [(.object "convoke/model/Message"), .int, .int] none 8 (some k22c1)
def k22c2 : Code := cd 5 3 prog_80_method_4_code
def k22m2 : Method := mt "multicast" "(Lconvoke/model/Message$Kind;Lconvoke/model/Value;)Ljava/util/List;" [(.object "convoke/model/Message$Kind"), (.object "convoke/model/Value")] (some (.object "java/util/List")) 0 (some k22c2)
def k22c3 : Code := cd 8 7 prog_80_method_5_code
def k22m3 : Method := mt "multicast" "(IIILconvoke/model/Message$Kind;Lconvoke/model/Value;)Ljava/util/List;" [.int, .int, .int, (.object "convoke/model/Message$Kind"), (.object "convoke/model/Value")] (some (.object "java/util/List")) 8 (some k22c3)
def k22 : Class := { plain "convoke/protocol/Seat" (some 21) with
  accessFlags := 48
  cf := some (fileOf pool22 18 #[] #[⟨0, 5, 87, #[]⟩, ⟨8, 29, 30, #[]⟩, ⟨0, 59, 93, #[]⟩, ⟨8, 59, 60, #[]⟩] 48 2 #[] #[⟨18, 21, 22, #[]⟩, ⟨18, 8, 22, #[]⟩, ⟨18, 16, 22, #[]⟩])
  fields := #[fd "parties" .int 18 0 0, fd "self" .int 18 1 0, fd "sender" .int 18 2 0]
  methods := #[k22m0, k22m1, k22m2, k22m3]
  instanceTypes := #[.int, .int, .int]
  resolved := Array.replicate 133 none
  statics := none }

def pool23 : Array CpInfo := pool [(2, .class_ 4), (1, u "java/lang/Enum"), (0, u "name"), (0, u "Ljava/lang/String;"), (2, u "ordinal"), (0, u "I"), (1, .class_ 14), (1, u "java/lang/Object"), (4, u "hash"), (86, .class_ 108), (1, u "java/lang/Enum$EnumDesc"), (2, .class_ 112), (0, u "java/lang/constant/Constable"), (0, .class_ 114), (0, u "java/lang/Comparable"), (0, .class_ 116), (0, u "java/io/Serializable"), (11, u "equals"), (0, u "(Ljava/lang/Object;)Z")] 74

def k23c0 : Code := cd 2 2 jdk_37_method_5_code
def k23m0 : Method := mt "equals" "(Ljava/lang/Object;)Z" [(.object "java/lang/Object")] (some .boolean) 17 (some k23c0)
def k23 : Class := { plain "java/lang/Enum" (some 0) with
  accessFlags := 1057
  interfaces := #[16, 14, 9]
  cf := some (fileOf pool23 2 #[.nestMembers #[106]] #[⟨17, 128, 129, #[]⟩] 1057 12 #[111, 113, 115] #[⟨18, 5, 6, #[]⟩, ⟨18, 9, 10, #[]⟩, ⟨2, 19, 10, #[]⟩])
  fields := #[fd "name" (.object "java/lang/String") 18 0 0, fd "ordinal" .int 18 1 0, fd "hash" .int 2 2 0]
  methods := #[k23m0]
  instanceTypes := #[(.object "java/lang/String"), .int, .int]
  resolved := Array.replicate 204 none
  statics := none }

def pool24 : Array CpInfo := pool [(1, .class_ 2), (0, u "convoke/model/Message$Kind"), (0, .class_ 4), (0, u "java/lang/Object"), (2, u "carriesValue"), (0, u "()Z"), (6, .class_ 16), (0, u "convoke/model/Message")] 2

def k24m0 : Method := mt "carriesValue" "()Z" [] (some .boolean) 1025 none
def k24 : Class := { plain "convoke/model/Message$Kind" (some 0) with
  accessFlags := 1537
  cf := some (fileOf pool24 1 #[.nestHost 15] #[⟨1025, 7, 8, #[]⟩] 1537 3 #[] #[])
  methods := #[k24m0]
  resolved := Array.replicate 19 none
  statics := none }

def pool25 : Array CpInfo := pool [(1, .class_ 2), (0, u "convoke/protocol/BrachaKind"), (2, u "INIT"), (0, u "Lconvoke/protocol/BrachaKind;"), (2, u "ECHO"), (2, u "READY"), (2, u "QUIT"), (2, u "$VALUES"), (0, u "[Lconvoke/protocol/BrachaKind;"), (6, .class_ 28), (1, u "java/lang/Enum"), (6, .fieldref 1 36), (0, .nameAndType 37 38), (0, u "carriesValue"), (0, u "Z"), (0, .fieldref 1 40), (0, .nameAndType 41 42), (0, u "KINDS"), (0, u "Lconvoke/model/Kinds;"), (0, .methodref 44 45), (0, .class_ 46), (0, .nameAndType 47 48), (0, u "convoke/model/Kinds"), (0, u "code"), (0, u "(Lconvoke/model/Message$Kind;)I"), (16, u "of"), (1, .class_ 68), (0, u "convoke/model/Message$Kind"), (6, u "(Lconvoke/model/Message$Kind;)Lconvoke/protocol/BrachaKind;"), (0, u "()Z")] 11

def k25c0 : Code := cd 2 1 prog_64_method_4_code
def k25m0 : Method := mt "of" "(Lconvoke/model/Message$Kind;)Lconvoke/protocol/BrachaKind;" [(.object "convoke/model/Message$Kind")] (some (.object "convoke/protocol/BrachaKind")) 8 (some k25c0)
def k25c1 : Code := cd 1 1 prog_64_method_5_code
def k25m1 : Method := mt "carriesValue" "()Z" [] (some .boolean) 1 (some k25c1)
def k25 : Class := { plain "convoke/protocol/BrachaKind" (some 23) with
  accessFlags := 16433
  interfaces := #[24]
  cf := some (fileOf pool25 1 #[] #[⟨8, 65, 75, #[]⟩, ⟨1, 37, 76, #[]⟩] 16433 26 #[67] #[⟨16409, 5, 6, #[]⟩, ⟨16409, 9, 6, #[]⟩, ⟨16409, 12, 6, #[]⟩, ⟨16409, 15, 6, #[]⟩, ⟨24, 41, 42, #[]⟩, ⟨18, 37, 38, #[]⟩, ⟨4122, 18, 19, #[]⟩])
  fields := #[fd "INIT" (.object "convoke/protocol/BrachaKind") 16409 0 0, fd "ECHO" (.object "convoke/protocol/BrachaKind") 16409 1 0, fd "READY" (.object "convoke/protocol/BrachaKind") 16409 2 0, fd "QUIT" (.object "convoke/protocol/BrachaKind") 16409 3 0, fd "KINDS" (.object "convoke/model/Kinds") 24 4 0, fd "carriesValue" .boolean 18 3 0, fd "$VALUES" (.array (.object "convoke/protocol/BrachaKind")) 4122 5 0]
  methods := #[k25m0, k25m1]
  instanceTypes := #[(.object "java/lang/String"), .int, .int, .boolean]
  staticTypes := #[(.object "convoke/protocol/BrachaKind"), (.object "convoke/protocol/BrachaKind"), (.object "convoke/protocol/BrachaKind"), (.object "convoke/protocol/BrachaKind"), (.object "convoke/model/Kinds"), (.array (.object "convoke/protocol/BrachaKind"))]
  resolved := Array.replicate 88 none
  statics := some 1 }

def pool26 : Array CpInfo := pool [(1, .methodref 2 3), (0, .class_ 4), (0, .nameAndType 5 6), (0, u "java/lang/Object"), (0, u "<init>"), (0, u "()V"), (0, .class_ 8), (0, u "convoke/model/Value"), (0, .fieldref 10 11), (0, .class_ 12), (0, .nameAndType 13 14), (0, u "convoke/protocol/Votes"), (0, u "values"), (0, u "[Lconvoke/model/Value;"), (0, .fieldref 10 16), (0, .nameAndType 17 18), (0, u "counts"), (0, u "[I"), (0, .fieldref 10 20), (0, .nameAndType 21 22), (0, u "counted"), (0, u "[Z"), (0, .methodref 10 24), (0, .nameAndType 25 26), (0, u "claim"), (0, u "(I)Z"), (0, .methodref 10 28), (0, .nameAndType 29 30), (0, u "place"), (0, u "(Lconvoke/model/Value;)I"), (0, .fieldref 10 32), (0, .nameAndType 33 34), (0, u "distinct"), (0, u "I"), (0, .methodref 36 37), (0, .class_ 38), (0, .nameAndType 39 40), (0, u "java/util/Arrays"), (0, u "copyOf"), (0, u "([Ljava/lang/Object;I)[Ljava/lang/Object;"), (4, .fieldref 10 46), (0, .nameAndType 47 34), (0, u "voters"), (4, u "(I)V"), (2, u "add"), (0, u "(ILconvoke/model/Value;)Z"), (2, u "count")] 2

def k26c0 : Code := cd 3 2 prog_88_method_1_code
def k26m0 : Method := mt "<init>" "(I)V" [.int] none 0 (some k26c0)
def k26c1 : Code := cd 4 4 prog_88_method_2_code
def k26m1 : Method := mt "add" "(ILconvoke/model/Value;)Z" [.int, (.object "convoke/model/Value")] (some .boolean) 0 (some k26c1)
def k26c2 : Code := cd 3 2 prog_88_method_3_code
def k26m2 : Method := mt "claim" "(I)Z" [.int] (some .boolean) 0 (some k26c2)
def k26c3 : Code := cd 2 3 prog_88_method_5_code
def k26m3 : Method := mt "count" "(Lconvoke/model/Value;)I" [(.object "convoke/model/Value")] (some .int) 0 (some k26c3)
def k26c4 : Code := cd 2 3 prog_88_method_6_code
def k26m4 : Method := mt "place" "(Lconvoke/model/Value;)I" [(.object "convoke/model/Value")] (some .int) 2 (some k26c4)
def k26 : Class := { plain "convoke/protocol/Votes" (some 0) with
  accessFlags := 48
  cf := some (fileOf pool26 10 #[] #[⟨0, 5, 52, #[]⟩, ⟨0, 55, 56, #[]⟩, ⟨0, 25, 26, #[]⟩, ⟨0, 59, 30, #[]⟩, ⟨2, 29, 30, #[]⟩] 48 2 #[] #[⟨18, 21, 22, #[]⟩, ⟨2, 13, 14, #[]⟩, ⟨2, 17, 18, #[]⟩, ⟨2, 33, 34, #[]⟩, ⟨2, 47, 34, #[]⟩])
  fields := #[fd "counted" (.array .boolean) 18 0 0, fd "values" (.array (.object "convoke/model/Value")) 2 1 0, fd "counts" (.array .int) 2 2 0, fd "distinct" .int 2 3 0, fd "voters" .int 2 4 0]
  methods := #[k26m0, k26m1, k26m2, k26m3, k26m4]
  instanceTypes := #[(.array .boolean), (.array (.object "convoke/model/Value")), (.array .int), .int, .int]
  resolved := Array.replicate 62 none
  statics := none }

def pool27 : Array CpInfo := pool [(1, .class_ 2), (0, u "convoke/model/Value"), (0, .string 4), (0, u "value"), (0, .methodref 6 7), (0, .class_ 8), (0, .nameAndType 9 10), (0, u "java/util/Objects"), (0, u "requireNonNull"), (0, u "(Ljava/lang/Object;Ljava/lang/String;)Ljava/lang/Object;"), (0, .class_ 12), (0, u "java/lang/String"), (0, .methodref 1 14), (0, .nameAndType 15 16), (0, u "bytes"), (0, u "(Ljava/lang/String;)[B"), (0, .methodref 1 18), (0, .nameAndType 19 20), (0, u "<init>"), (0, u "([BLjava/lang/String;)V"), (0, .methodref 22 23), (0, .class_ 24), (0, .nameAndType 19 25), (0, u "java/lang/Object"), (0, u "()V"), (0, .fieldref 1 27), (0, .nameAndType 15 28), (0, u "[B"), (0, .fieldref 1 30), (0, .nameAndType 31 32), (0, u "reserved"), (0, u "Ljava/lang/String;"), (20, u "TOP"), (0, u "Lconvoke/model/Value;"), (6, u "BOTTOM"), (2, u "(Ljava/lang/String;)V"), (29, u "isToken"), (1, .fieldref 97 98), (0, .class_ 99), (0, .nameAndType 100 101), (0, u "java/nio/charset/StandardCharsets"), (0, u "ISO_8859_1"), (0, u "Ljava/nio/charset/Charset;"), (17, u "hash"), (0, u "I"), (6, u "()I"), (2, u "shown"), (12, .class_ 145), (1, u "convoke/model/Tokens"), (1, .methodref 143 148), (0, .nameAndType 94 149), (0, u "(Ljava/lang/String;)Z"), (0, .methodref 11 151), (0, .nameAndType 152 153), (0, u "getBytes"), (0, u "(Ljava/nio/charset/Charset;)[B"), (5, .methodref 11 160), (0, .nameAndType 161 127), (0, u "length"), (21, u "MAX_LENGTH"), (1, u "MAX_WRITTEN_LENGTH"), (1, u "HEX"), (0, u "SHA256")] 40

def k27c0 : Code := cd 3 2 prog_28_method_1_code
def k27m0 : Method := mt "<init>" "(Ljava/lang/String;)V" [(.object "java/lang/String")] none 1 (some k27c0)
def k27c1 : Code := cd 2 3 prog_28_method_2_code
def k27m1 : Method := mt "<init>" "([BLjava/lang/String;)V" [(.array .byte), (.object "java/lang/String")] none 2 (some k27c1)
def k27c2 : Code := cd 3 2 prog_28_method_17_code
def k27m2 : Method := mt "bytes" "(Ljava/lang/String;)[B" [(.object "java/lang/String")] (some (.array .byte)) 10 (some k27c2)
def k27 : Class := { plain "convoke/model/Value" (some 0) with
  accessFlags := 49
  cf := some (fileOf pool27 1 #[] #[⟨1, 19, 64, #[]⟩, ⟨2, 19, 20, #[]⟩, ⟨10, 15, 16, #[]⟩] 49 22 #[] #[⟨25, 183, 120, #[]⟩, ⟨25, 185, 120, #[]⟩, ⟨25, 53, 54, #[]⟩, ⟨25, 61, 54, #[]⟩, ⟨26, 187, 32, #[]⟩, ⟨26, 188, 32, #[]⟩, ⟨18, 15, 28, #[]⟩, ⟨18, 31, 32, #[]⟩, ⟨2, 130, 32, #[]⟩, ⟨2, 119, 120, #[]⟩])
  fields := #[fd "MAX_LENGTH" .int 25 0 0, fd "MAX_WRITTEN_LENGTH" .int 25 1 0, fd "TOP" (.object "convoke/model/Value") 25 2 0, fd "BOTTOM" (.object "convoke/model/Value") 25 3 0, fd "HEX" (.object "java/lang/String") 26 4 0, fd "SHA256" (.object "java/lang/String") 26 5 0, fd "bytes" (.array .byte) 18 0 0, fd "reserved" (.object "java/lang/String") 18 1 0, fd "shown" (.object "java/lang/String") 2 2 0, fd "hash" .int 2 3 0]
  methods := #[k27m0, k27m1, k27m2]
  instanceTypes := #[(.array .byte), (.object "java/lang/String"), (.object "java/lang/String"), .int]
  staticTypes := #[.int, .int, (.object "convoke/model/Value"), (.object "convoke/model/Value"), (.object "java/lang/String"), (.object "java/lang/String")]
  resolved := Array.replicate 229 none
  statics := none }

def pool28 : Array CpInfo := pool [(2, .class_ 4), (1, u "java/lang/Object"), (0, u "<init>"), (0, u "()V"), (35, .class_ 44), (1, u "java/util/Objects"), (0, u "requireNonNull"), (0, u "(Ljava/lang/Object;)Ljava/lang/Object;"), (47, u "(Ljava/lang/Object;Ljava/lang/String;)Ljava/lang/Object;")] 89

def k28m0 : Method := mt "<init>" "()V" [] none 2 none
def k28c1 : Code := cd 2 1 jdk_31_method_10_code
def k28m1 : Method := mt "requireNonNull" "(Ljava/lang/Object;)Ljava/lang/Object;" [(.object "java/lang/Object")] (some (.object "java/lang/Object")) 9 (some k28c1)
def k28c2 : Code := cd 3 2 jdk_31_method_11_code
def k28m2 : Method := mt "requireNonNull" "(Ljava/lang/Object;Ljava/lang/String;)Ljava/lang/Object;" [(.object "java/lang/Object"), (.object "java/lang/String")] (some (.object "java/lang/Object")) 9 (some k28c2)
def k28 : Class := { plain "java/util/Objects" (some 0) with
  accessFlags := 49
  cf := some (fileOf pool28 42 #[] #[⟨2, 5, 6, #[]⟩, ⟨9, 45, 46, #[]⟩, ⟨9, 45, 94, #[]⟩] 49 2 #[] #[])
  methods := #[k28m0, k28m1, k28m2]
  resolved := Array.replicate 184 none
  statics := none }

def pool29 : Array CpInfo := pool [(2, .class_ 4), (1, u "java/lang/Object"), (0, u "<init>"), (0, u "()V"), (1, .class_ 10), (1, u "convoke/model/Tokens"), (0, u "isToken"), (0, u "(Ljava/lang/String;)Z"), (15, .fieldref 8 29), (0, .nameAndType 30 31), (0, u "TOKEN_CHARACTERS"), (0, u "[Z"), (0, .methodref 33 34), (0, .class_ 35), (0, .nameAndType 36 37), (0, u "java/lang/String"), (0, u "isEmpty"), (0, u "()Z"), (0, .methodref 33 39), (0, .nameAndType 40 41), (0, u "length"), (0, u "()I"), (0, .methodref 33 43), (0, .nameAndType 44 45), (0, u "charAt"), (0, u "(I)C"), (10, u "MAX_LENGTH"), (0, u "I"), (2, u "ASCII")] 26

def k29m0 : Method := mt "<init>" "()V" [] none 2 none
def k29c1 : Code := cd 2 3 prog_27_method_4_code
def k29m1 : Method := mt "isToken" "(Ljava/lang/String;)Z" [(.object "java/lang/String")] (some .boolean) 8 (some k29c1)
def k29 : Class := { plain "convoke/model/Tokens" (some 0) with
  accessFlags := 49
  cf := some (fileOf pool29 8 #[] #[⟨2, 5, 6, #[]⟩, ⟨8, 11, 12, #[]⟩] 49 2 #[] #[⟨25, 56, 57, #[]⟩, ⟨26, 60, 57, #[]⟩, ⟨26, 30, 31, #[]⟩])
  fields := #[fd "MAX_LENGTH" .int 25 0 0, fd "ASCII" .int 26 1 0, fd "TOKEN_CHARACTERS" (.array .boolean) 26 2 0]
  methods := #[k29m0, k29m1]
  staticTypes := #[.int, .int, (.array .boolean)]
  resolved := Array.replicate 87 none
  statics := some 2 }

def pool30 : Array CpInfo := pool [(1, .class_ 2), (0, u "java/lang/String"), (1, .class_ 6), (1, u "java/lang/Object"), (0, u "<init>"), (0, u "()V"), (0, .methodref 1 10), (0, .nameAndType 11 12), (0, u "checkIndex"), (0, u "(II)V"), (1, .class_ 16), (1, u "java/lang/StringLatin1"), (36, u "([BI)C"), (67, u "$assertionsDisabled"), (0, u "Z"), (98, .class_ 223), (1, u "java/lang/StringLatin1$LinesSpliterator"), (28, u "charAt"), (137, .class_ 391), (0, u "java/lang/StringLatin1$CharsSpliterator")] 3

def k30m0 : Method := mt "<init>" "()V" [] none 0 none
def k30c1 : Code := cd 2 2 jdk_43_method_2_code
def k30m1 : Method := mt "charAt" "([BI)C" [(.array .byte), .int] (some .char) 9 (some k30c1)
def k30 : Class := { plain "java/lang/StringLatin1" (some 0) with
  accessFlags := 48
  cf := some (fileOf pool30 14 #[.nestMembers #[390, 221]] #[⟨0, 7, 8, #[]⟩, ⟨9, 252, 53, #[]⟩] 48 4 #[] #[⟨4120, 121, 122, #[]⟩])
  fields := #[fd "$assertionsDisabled" .boolean 4120 0 0]
  methods := #[k30m0, k30m1]
  staticTypes := #[.boolean]
  resolved := Array.replicate 395 none
  statics := none }

def pool31 : Array CpInfo := pool [(2, .class_ 4), (1, u "java/lang/Object"), (0, u "<init>"), (0, u "()V"), (17, .class_ 26), (1, u "jdk/internal/util/Preconditions"), (6, u "checkIndex"), (21, .class_ 56), (0, u "jdk/internal/util/Preconditions$4"), (57, .class_ 115), (0, u "jdk/internal/util/Preconditions$1"), (7, u "SIOOBE_FORMATTER"), (0, u "Ljava/util/function/BiFunction;"), (0, .class_ 126), (0, u "jdk/internal/util/Preconditions$2"), (3, u "AIOOBE_FORMATTER"), (0, .class_ 132), (0, u "jdk/internal/util/Preconditions$3"), (3, u "IOOBE_FORMATTER"), (41, u "(IILjava/util/function/BiFunction;)I")] 15

def k31m0 : Method := mt "<init>" "()V" [] none 1 none
def k31c1 : Code := cd 3 3 jdk_41_method_11_code
def k31m1 : Method := mt "checkIndex" "(IILjava/util/function/BiFunction;)I" [.int, .int, (.object "java/util/function/BiFunction")] (some .int) 9 (some k31c1)
def k31 : Class := { plain "jdk/internal/util/Preconditions" (some 0) with
  accessFlags := 33
  cf := some (fileOf pool31 24 #[.nestMembers #[55, 131, 125, 114]] #[⟨1, 5, 6, #[]⟩, ⟨9, 33, 178, #[]⟩] 33 2 #[] #[⟨25, 123, 124, #[]⟩, ⟨25, 130, 124, #[]⟩, ⟨25, 136, 124, #[]⟩])
  fields := #[fd "SIOOBE_FORMATTER" (.object "java/util/function/BiFunction") 25 0 0, fd "AIOOBE_FORMATTER" (.object "java/util/function/BiFunction") 25 1 0, fd "IOOBE_FORMATTER" (.object "java/util/function/BiFunction") 25 2 0]
  methods := #[k31m0, k31m1]
  staticTypes := #[(.object "java/util/function/BiFunction"), (.object "java/util/function/BiFunction"), (.object "java/util/function/BiFunction")]
  resolved := Array.replicate 194 none
  statics := some 3 }

def pool32 : Array CpInfo := pool [(2, .class_ 4), (1, u "java/lang/Object"), (0, u "<init>"), (0, u "()V"), (14, .class_ 23), (1, u "java/nio/charset/StandardCharsets"), (0, u "US_ASCII"), (0, u "Ljava/nio/charset/Charset;"), (7, u "ISO_8859_1"), (7, u "UTF_8"), (5, u "UTF_16BE"), (5, u "UTF_16LE"), (5, u "UTF_16")] 8

def k32m0 : Method := mt "<init>" "()V" [] none 2 none
def k32 : Class := { plain "java/nio/charset/StandardCharsets" (some 0) with
  accessFlags := 49
  cf := some (fileOf pool32 21 #[] #[⟨2, 5, 6, #[]⟩] 49 2 #[] #[⟨25, 24, 25, #[]⟩, ⟨25, 33, 25, #[]⟩, ⟨25, 41, 25, #[]⟩, ⟨25, 47, 25, #[]⟩, ⟨25, 53, 25, #[]⟩, ⟨25, 59, 25, #[]⟩])
  fields := #[fd "US_ASCII" (.object "java/nio/charset/Charset") 25 0 0, fd "ISO_8859_1" (.object "java/nio/charset/Charset") 25 1 0, fd "UTF_8" (.object "java/nio/charset/Charset") 25 2 0, fd "UTF_16BE" (.object "java/nio/charset/Charset") 25 3 0, fd "UTF_16LE" (.object "java/nio/charset/Charset") 25 4 0, fd "UTF_16" (.object "java/nio/charset/Charset") 25 5 0]
  methods := #[k32m0]
  staticTypes := #[(.object "java/nio/charset/Charset"), (.object "java/nio/charset/Charset"), (.object "java/nio/charset/Charset"), (.object "java/nio/charset/Charset"), (.object "java/nio/charset/Charset"), (.object "java/nio/charset/Charset")]
  resolved := Array.replicate 68 none
  statics := some 4 }

def pool33 : Array CpInfo := pool [(18, .class_ 20), (1, u "java/nio/charset/Charset"), (0, u "cache1"), (0, u "[Ljava/lang/Object;"), (2, u "cache2"), (0, .class_ 27), (0, u "java/lang/Object"), (0, .class_ 29), (0, u "java/nio/charset/Charset$1"), (4, .class_ 36), (1, u "java/nio/charset/Charset$ThreadTrackHolder"), (21, .class_ 59), (0, u "java/nio/charset/Charset$2"), (11, .class_ 73), (1, u "java/nio/charset/Charset$ExtendedProviderHolder"), (22, u "standardProvider"), (0, u "Ljava/nio/charset/spi/CharsetProvider;"), (29, u "name"), (7, .class_ 136), (0, u "java/nio/charset/Charset$3"), (5, u "defaultCharset"), (0, u "Ljava/nio/charset/Charset;"), (14, u "zeroAliases"), (0, u "[Ljava/lang/String;"), (29, u "Ljava/lang/String;"), (2, u "aliases"), (2, u "aliasSet"), (0, u "Ljava/util/Set;"), (82, .class_ 280), (0, u "java/lang/Comparable"), (84, .class_ 366), (0, u "java/nio/charset/Charset$ExtendedProviderHolder$1")] 3

def k33 : Class := { plain "java/nio/charset/Charset" (some 0) with
  accessFlags := 1057
  interfaces := #[14]
  cf := some (fileOf pool33 18 #[.nestMembers #[71, 365, 34, 135, 58, 28]] #[] 1057 26 #[279] #[⟨26, 96, 97, #[]⟩, ⟨26, 158, 159, #[]⟩, ⟨74, 21, 22, #[]⟩, ⟨74, 25, 22, #[]⟩, ⟨10, 142, 143, #[]⟩, ⟨18, 127, 189, #[]⟩, ⟨18, 192, 159, #[]⟩, ⟨2, 195, 196, #[]⟩])
  fields := #[fd "standardProvider" (.object "java/nio/charset/spi/CharsetProvider") 26 0 0, fd "zeroAliases" (.array (.object "java/lang/String")) 26 1 0, fd "cache1" (.array (.object "java/lang/Object")) 74 2 0, fd "cache2" (.array (.object "java/lang/Object")) 74 3 0, fd "defaultCharset" (.object "java/nio/charset/Charset") 10 4 0, fd "name" (.object "java/lang/String") 18 0 0, fd "aliases" (.array (.object "java/lang/String")) 18 1 0, fd "aliasSet" (.object "java/util/Set") 2 2 0]
  instanceTypes := #[(.object "java/lang/String"), (.array (.object "java/lang/String")), (.object "java/util/Set")]
  staticTypes := #[(.object "java/nio/charset/spi/CharsetProvider"), (.array (.object "java/lang/String")), (.array (.object "java/lang/Object")), (.array (.object "java/lang/Object")), (.object "java/nio/charset/Charset")]
  resolved := Array.replicate 370 none
  statics := none }

def pool34 : Array CpInfo := pool [(1, .class_ 2), (0, u "sun/nio/cs/HistoricallyNamedCharset"), (0, .class_ 4), (0, u "java/lang/Object")] 4

def k34 : Class := { plain "sun/nio/cs/HistoricallyNamedCharset" (some 0) with
  accessFlags := 1537
  cf := some (fileOf pool34 1 #[] #[] 1537 3 #[] #[])
  resolved := Array.replicate 9 none
  statics := none }

def pool35 : Array CpInfo := pool [(2, .class_ 4), (1, u "java/nio/charset/Charset"), (130, .class_ 136), (0, u "sun/nio/cs/Unicode"), (0, .class_ 138), (0, u "sun/nio/cs/HistoricallyNamedCharset")] 15

def k35 : Class := { plain "sun/nio/cs/Unicode" (some 33) with
  accessFlags := 1056
  interfaces := #[34]
  cf := some (fileOf pool35 135 #[] #[] 1056 2 #[137] #[])
  instanceTypes := #[(.object "java/lang/String"), (.array (.object "java/lang/String")), (.object "java/util/Set")]
  resolved := Array.replicate 154 none
  statics := none }

def pool36 : Array CpInfo := pool [(10, .class_ 12), (1, u "sun/nio/cs/Unicode"), (0, u "<init>"), (3, .class_ 18), (0, u "sun/nio/cs/UTF_8$Decoder"), (3, .class_ 23), (0, u "sun/nio/cs/UTF_8$Encoder"), (15, .class_ 40), (0, u "sun/nio/cs/UTF_8"), (2, u "()V"), (2, u "INSTANCE"), (0, u "Lsun/nio/cs/UTF_8;"), (8, u "JLA"), (0, u "Ljdk/internal/access/JavaLangAccess;")] 26

def k36m0 : Method := mt "<init>" "()V" [] none 1 none
def k36 : Class := { plain "sun/nio/cs/UTF_8" (some 35) with
  accessFlags := 49
  cf := some (fileOf pool36 39 #[.nestMembers #[22, 17]] #[⟨1, 13, 43, #[]⟩] 49 10 #[] #[⟨25, 46, 47, #[]⟩, ⟨26, 56, 57, #[]⟩])
  fields := #[fd "INSTANCE" (.object "sun/nio/cs/UTF_8") 25 0 0, fd "JLA" (.object "jdk/internal/access/JavaLangAccess") 26 1 0]
  methods := #[k36m0]
  instanceTypes := #[(.object "java/lang/String"), (.array (.object "java/lang/String")), (.object "java/util/Set")]
  staticTypes := #[(.object "sun/nio/cs/UTF_8"), (.object "jdk/internal/access/JavaLangAccess")]
  resolved := Array.replicate 84 none
  statics := some 5 }

def pool37 : Array CpInfo := pool [(10, .class_ 12), (1, u "java/nio/charset/Charset"), (0, u "<init>"), (5, .class_ 20), (0, u "sun/nio/cs/ISO_8859_1"), (0, .class_ 22), (0, u "sun/nio/cs/ISO_8859_1$Decoder"), (3, .class_ 27), (0, u "sun/nio/cs/ISO_8859_1$Encoder"), (3, u "()V"), (2, u "INSTANCE"), (0, u "Lsun/nio/cs/ISO_8859_1;"), (0, .class_ 37), (0, u "sun/nio/cs/HistoricallyNamedCharset")] 22

def k37m0 : Method := mt "<init>" "()V" [] none 1 none
def k37 : Class := { plain "sun/nio/cs/ISO_8859_1" (some 33) with
  accessFlags := 33
  interfaces := #[34]
  cf := some (fileOf pool37 19 #[.nestMembers #[26, 21]] #[⟨1, 13, 31, #[]⟩] 33 10 #[36] #[⟨25, 34, 35, #[]⟩])
  fields := #[fd "INSTANCE" (.object "sun/nio/cs/ISO_8859_1") 25 0 0]
  methods := #[k37m0]
  instanceTypes := #[(.object "java/lang/String"), (.array (.object "java/lang/String")), (.object "java/util/Set")]
  staticTypes := #[(.object "sun/nio/cs/ISO_8859_1")]
  resolved := Array.replicate 60 none
  statics := some 6 }

def pool38 : Array CpInfo := pool [(1, .methodref 2 3), (0, .class_ 4), (0, .nameAndType 5 6), (0, u "java/lang/Record"), (0, u "<init>"), (0, u "()V"), (9, .string 17), (0, u "kind"), (0, .methodref 19 20), (0, .class_ 21), (0, .nameAndType 22 23), (0, u "java/util/Objects"), (0, u "requireNonNull"), (0, u "(Ljava/lang/Object;Ljava/lang/String;)Ljava/lang/Object;"), (0, .interfaceMethodref 25 26), (0, .class_ 27), (0, .nameAndType 28 29), (0, u "convoke/model/Message$Kind"), (0, u "carriesValue"), (0, u "()Z"), (0, .string 31), (0, u "value"), (13, .fieldref 46 47), (0, .class_ 48), (0, .nameAndType 49 50), (0, u "convoke/model/Message"), (0, u "from"), (0, u "I"), (0, .fieldref 46 52), (0, .nameAndType 53 50), (0, u "to"), (0, .fieldref 46 55), (0, .nameAndType 56 50), (0, u "instance"), (0, .fieldref 46 58), (0, .nameAndType 17 59), (0, u "Lconvoke/model/Message$Kind;"), (0, .fieldref 46 61), (0, .nameAndType 31 62), (0, u "Lconvoke/model/Value;"), (12, u "(IIILconvoke/model/Message$Kind;Lconvoke/model/Value;)V"), (6, u "()I"), (1, u "()Lconvoke/model/Message$Kind;"), (0, u "()Lconvoke/model/Value;")] 36

def k38c0 : Code := cd 5 6 prog_22_method_1_code
def k38m0 : Method := mt "<init>" "(IIILconvoke/model/Message$Kind;Lconvoke/model/Value;)V" [.int, .int, .int, (.object "convoke/model/Message$Kind"), (.object "convoke/model/Value")] none 1 (some k38c0)
def k38c1 : Code := cd 1 1 prog_22_method_5_code
def k38m1 : Method := mt "from" "()I" [] (some .int) 1 (some k38c1)
def k38c2 : Code := cd 1 1 prog_22_method_6_code
def k38m2 : Method := mt "to" "()I" [] (some .int) 1 (some k38c2)
def k38c3 : Code := cd 1 1 prog_22_method_7_code
def k38m3 : Method := mt "instance" "()I" [] (some .int) 1 (some k38c3)
def k38c4 : Code := cd 1 1 prog_22_method_8_code
def k38m4 : Method := mt "kind" "()Lconvoke/model/Message$Kind;" [] (some (.object "convoke/model/Message$Kind")) 1 (some k38c4)
def k38c5 : Code := cd 1 1 prog_22_method_9_code
def k38m5 : Method := mt "value" "()Lconvoke/model/Value;" [] (some (.object "convoke/model/Value")) 1 (some k38c5)
def k38 : Class := { plain "convoke/model/Message" (some 21) with
  accessFlags := 49
  cf := some (fileOf pool38 46 #[.nestMembers #[25]] #[⟨1, 5, 75, #[]⟩, ⟨1, 49, 82, #[]⟩, ⟨1, 53, 82, #[]⟩, ⟨1, 56, 82, #[]⟩, ⟨1, 17, 84, #[]⟩, ⟨1, 31, 85, #[]⟩] 49 2 #[] #[⟨18, 49, 50, #[]⟩, ⟨18, 53, 50, #[]⟩, ⟨18, 56, 50, #[]⟩, ⟨18, 17, 59, #[]⟩, ⟨18, 31, 62, #[]⟩])
  fields := #[fd "from" .int 18 0 0, fd "to" .int 18 1 0, fd "instance" .int 18 2 0, fd "kind" (.object "convoke/model/Message$Kind") 18 3 0, fd "value" (.object "convoke/model/Value") 18 4 0]
  methods := #[k38m0, k38m1, k38m2, k38m3, k38m4, k38m5]
  instanceTypes := #[.int, .int, .int, (.object "convoke/model/Message$Kind"), (.object "convoke/model/Value")]
  resolved := Array.replicate 122 none
  statics := none }

def pool39 : Array CpInfo := pool [(2, .class_ 4), (1, u "java/lang/Object"), (2, .fieldref 8 9), (0, .class_ 10), (0, .nameAndType 11 12), (0, u "convoke/model/Kinds"), (0, u "kinds"), (0, u "[Lconvoke/model/Message$Kind;"), (99, u "MAX"), (0, u "I"), (8, u "code"), (0, u "(Lconvoke/model/Message$Kind;)I")] 45

def k39c0 : Code := cd 4 3 prog_21_method_4_code
def k39m0 : Method := mt "code" "(Lconvoke/model/Message$Kind;)I" [(.object "convoke/model/Message$Kind")] (some .int) 1 (some k39c0)
def k39 : Class := { plain "convoke/model/Kinds" (some 0) with
  accessFlags := 49
  cf := some (fileOf pool39 8 #[] #[⟨1, 122, 123, #[]⟩] 49 2 #[] #[⟨25, 112, 113, #[]⟩, ⟨18, 11, 12, #[]⟩])
  fields := #[fd "MAX" .int 25 0 0, fd "kinds" (.array (.object "convoke/model/Message$Kind")) 18 0 0]
  methods := #[k39m0]
  instanceTypes := #[(.array (.object "convoke/model/Message$Kind"))]
  staticTypes := #[.int]
  resolved := Array.replicate 169 none
  statics := none }

def pool40 : Array CpInfo := pool [(8, .class_ 10), (1, u "java/lang/Iterable"), (24, .class_ 36), (0, u "java/lang/Object")] 25

def k40 : Class := { plain "java/lang/Iterable" (some 0) with
  accessFlags := 1537
  cf := some (fileOf pool40 8 #[] #[] 1537 35 #[] #[])
  resolved := Array.replicate 62 none
  statics := none }

def pool41 : Array CpInfo := pool [(10, .class_ 12), (1, u "java/util/Collection"), (0, u "toArray"), (46, .class_ 61), (0, u "java/lang/Object"), (0, .class_ 63), (0, u "java/lang/Iterable"), (6, u "()[Ljava/lang/Object;")] 44

def k41m0 : Method := mt "toArray" "()[Ljava/lang/Object;" [] (some (.array (.object "java/lang/Object"))) 1025 none
def k41 : Class := { plain "java/util/Collection" (some 0) with
  accessFlags := 1537
  interfaces := #[40]
  cf := some (fileOf pool41 10 #[] #[⟨1025, 13, 70, #[]⟩] 1537 60 #[62] #[])
  methods := #[k41m0]
  resolved := Array.replicate 115 none
  statics := none }

def pool42 : Array CpInfo := pool [(8, .class_ 10), (1, u "java/util/SequencedCollection"), (15, .class_ 27), (0, u "java/lang/Object"), (0, .class_ 29), (0, u "java/util/Collection")] 27

def k42 : Class := { plain "java/util/SequencedCollection" (some 0) with
  accessFlags := 1537
  interfaces := #[41]
  cf := some (fileOf pool42 8 #[] #[] 1537 26 #[28] #[])
  resolved := Array.replicate 57 none
  statics := none }

def pool43 : Array CpInfo := pool [(8, .class_ 10), (1, u "java/util/List"), (49, u "add"), (3, u "(Ljava/lang/Object;)Z"), (23, u "of"), (1, .fieldref 91 92), (0, .class_ 93), (0, .nameAndType 94 95), (0, u "java/util/ImmutableCollections"), (0, u "EMPTY_LIST"), (0, u "Ljava/util/ImmutableCollections$ListN;"), (7, .class_ 104), (0, u "java/lang/Object"), (14, u "()Ljava/util/List;"), (0, .class_ 121), (0, u "java/util/SequencedCollection"), (9, u "(Ljava/util/Collection;)Z"), (1, u "addAll")] 117

def k43m0 : Method := mt "add" "(Ljava/lang/Object;)Z" [(.object "java/lang/Object")] (some .boolean) 1025 none
def k43m1 : Method := mt "addAll" "(Ljava/util/Collection;)Z" [(.object "java/util/Collection")] (some .boolean) 1025 none
def k43c2 : Code := cd 1 0 jdk_40_method_36_code
def k43m2 : Method := mt "of" "()Ljava/util/List;" [] (some (.object "java/util/List")) 9 (some k43c2)
def k43 : Class := { plain "java/util/List" (some 0) with
  accessFlags := 1537
  interfaces := #[42]
  cf := some (fileOf pool43 8 #[] #[⟨1025, 60, 64, #[]⟩, ⟨1025, 133, 131, #[]⟩, ⟨9, 88, 119, #[]⟩] 1537 103 #[120] #[])
  methods := #[k43m0, k43m1, k43m2]
  resolved := Array.replicate 251 none
  statics := none }

def pool44 : Array CpInfo := pool [(2, .class_ 4), (1, u "java/lang/Object"), (0, u "<init>"), (0, u "()V"), (3, .class_ 11), (0, u "java/util/ImmutableCollections$List12"), (0, .class_ 13), (0, u "java/util/ImmutableCollections$ListN"), (3, u "Z"), (29, .class_ 49), (1, u "java/util/ImmutableCollections"), (0, u "$assertionsDisabled"), (5, u "[Ljava/lang/Object;"), (5, u "EMPTY_LIST"), (0, u "Ljava/util/ImmutableCollections$ListN;"), (8, u "EMPTY_LIST_NULLS"), (22, u "SALT32L"), (0, u "J"), (2, u "REVERSE"), (6, u "archivedObjects"), (2, u "EMPTY"), (0, u "Ljava/lang/Object;"), (0, .class_ 112), (0, u "java/util/ImmutableCollections$SetN"), (5, u "EMPTY_SET"), (0, u "Ljava/util/ImmutableCollections$SetN;"), (0, .class_ 121), (0, u "java/util/ImmutableCollections$MapN"), (3, u "EMPTY_MAP"), (0, u "Ljava/util/ImmutableCollections$MapN;"), (4, u "EXPAND_FACTOR"), (0, u "I"), (36, .class_ 170), (0, u "java/util/ImmutableCollections$MapN$MapNIterator"), (0, .class_ 172), (0, u "java/util/ImmutableCollections$MapN$1"), (0, .class_ 174), (0, u "java/util/ImmutableCollections$Map1"), (0, .class_ 176), (0, u "java/util/ImmutableCollections$AbstractImmutableMap"), (0, .class_ 178), (0, u "java/util/ImmutableCollections$SetN$SetNIterator"), (0, .class_ 180), (0, u "java/util/ImmutableCollections$Set12"), (0, .class_ 182), (0, u "java/util/ImmutableCollections$Set12$1"), (0, .class_ 184), (0, u "java/util/ImmutableCollections$AbstractImmutableSet"), (0, .class_ 186), (0, u "java/util/ImmutableCollections$SubList"), (0, .class_ 188), (0, u "java/util/ImmutableCollections$ListItr"), (0, .class_ 190), (0, u "java/util/ImmutableCollections$AbstractImmutableList"), (0, .class_ 192), (0, u "java/util/ImmutableCollections$AbstractImmutableCollection"), (0, .class_ 194), (0, u "java/util/ImmutableCollections$Access"), (0, .class_ 196), (0, u "java/util/ImmutableCollections$Access$1")] 16

def k44m0 : Method := mt "<init>" "()V" [] none 2 none
def k44 : Class := { plain "java/util/ImmutableCollections" (some 0) with
  accessFlags := 32
  cf := some (fileOf pool44 47 #[.nestMembers #[120, 169, 171, 173, 175, 111, 177, 179, 181, 183, 12, 10, 185, 187, 189, 191, 193, 195]] #[⟨2, 5, 6, #[]⟩] 32 2 #[] #[⟨26, 95, 96, #[]⟩, ⟨26, 99, 17, #[]⟩, ⟨10, 106, 56, #[]⟩, ⟨26, 109, 110, #[]⟩, ⟨24, 62, 63, #[]⟩, ⟨24, 72, 63, #[]⟩, ⟨24, 118, 119, #[]⟩, ⟨24, 125, 126, #[]⟩, ⟨24, 131, 132, #[]⟩, ⟨4120, 50, 17, #[]⟩])
  fields := #[fd "SALT32L" .long 26 0 0, fd "REVERSE" .boolean 26 1 0, fd "archivedObjects" (.array (.object "java/lang/Object")) 10 2 0, fd "EMPTY" (.object "java/lang/Object") 26 3 0, fd "EMPTY_LIST" (.object "java/util/ImmutableCollections$ListN") 24 4 0, fd "EMPTY_LIST_NULLS" (.object "java/util/ImmutableCollections$ListN") 24 5 0, fd "EMPTY_SET" (.object "java/util/ImmutableCollections$SetN") 24 6 0, fd "EMPTY_MAP" (.object "java/util/ImmutableCollections$MapN") 24 7 0, fd "EXPAND_FACTOR" .int 24 8 0, fd "$assertionsDisabled" .boolean 4120 9 0]
  methods := #[k44m0]
  staticTypes := #[.long, .boolean, (.array (.object "java/lang/Object")), (.object "java/lang/Object"), (.object "java/util/ImmutableCollections$ListN"), (.object "java/util/ImmutableCollections$ListN"), (.object "java/util/ImmutableCollections$SetN"), (.object "java/util/ImmutableCollections$MapN"), .int, .boolean]
  resolved := Array.replicate 213 none
  statics := some 7 }

def pool45 : Array CpInfo := pool [(1, .methodref 2 3), (0, .class_ 4), (0, .nameAndType 5 6), (0, u "java/lang/Object"), (0, u "<init>"), (0, u "()V"), (1, .class_ 10), (1, u "java/util/AbstractCollection"), (66, .class_ 78), (0, u "java/util/Collection")] 81

def k45c0 : Code := cd 1 1 jdk_22_method_1_code
def k45m0 : Method := mt "<init>" "()V" [] none 4 (some k45c0)
def k45 : Class := { plain "java/util/AbstractCollection" (some 0) with
  accessFlags := 1057
  interfaces := #[41]
  cf := some (fileOf pool45 8 #[] #[⟨4, 5, 6, #[]⟩] 1057 2 #[77] #[])
  methods := #[k45m0]
  resolved := Array.replicate 160 none
  statics := none }

def pool46 : Array CpInfo := pool [(1, .methodref 2 3), (0, .class_ 4), (0, .nameAndType 5 6), (0, u "java/util/AbstractCollection"), (0, u "<init>"), (0, u "()V"), (0, .fieldref 8 9), (0, .class_ 10), (0, .nameAndType 11 12), (0, u "java/util/AbstractList"), (0, u "modCount"), (0, u "I"), (64, .class_ 78), (0, u "java/util/AbstractList$Itr"), (3, .class_ 83), (0, u "java/util/AbstractList$ListItr"), (9, .class_ 94), (0, u "java/util/AbstractList$RandomAccessSubList"), (3, .class_ 99), (0, u "java/util/AbstractList$SubList"), (33, .class_ 134), (0, u "java/util/List"), (73, .class_ 209), (0, u "java/util/AbstractList$SubList$1"), (0, .class_ 211), (0, u "java/util/AbstractList$RandomAccessSpliterator")] 6

def k46c0 : Code := cd 2 1 jdk_39_method_1_code
def k46m0 : Method := mt "<init>" "()V" [] none 4 (some k46c0)
def k46 : Class := { plain "java/util/AbstractList" (some 45) with
  accessFlags := 1057
  interfaces := #[43]
  cf := some (fileOf pool46 8 #[.nestMembers #[93, 98, 208, 210, 82, 77]] #[⟨4, 5, 6, #[]⟩] 1057 2 #[133] #[⟨132, 11, 12, #[]⟩])
  fields := #[fd "modCount" .int 132 0 0]
  methods := #[k46m0]
  instanceTypes := #[.int]
  resolved := Array.replicate 218 none
  statics := none }

def pool47 : Array CpInfo := pool [(1, .class_ 2), (0, u "java/util/RandomAccess"), (0, .class_ 4), (0, u "java/lang/Object")] 2

def k47 : Class := { plain "java/util/RandomAccess" (some 0) with
  accessFlags := 1537
  cf := some (fileOf pool47 1 #[] #[] 1537 3 #[] #[])
  resolved := Array.replicate 7 none
  statics := none }

def pool48 : Array CpInfo := pool [(1, .methodref 2 3), (0, .class_ 4), (0, .nameAndType 5 6), (0, u "java/util/AbstractList"), (0, u "<init>"), (0, u "()V"), (0, .class_ 8), (0, u "java/lang/Object"), (0, .fieldref 10 11), (0, .class_ 12), (0, .nameAndType 13 14), (0, u "java/util/ArrayList"), (0, u "elementData"), (0, u "[Ljava/lang/Object;"), (2, u "EMPTY_ELEMENTDATA"), (21, .fieldref 10 40), (0, .nameAndType 41 14), (0, u "DEFAULTCAPACITY_EMPTY_ELEMENTDATA"), (0, .interfaceMethodref 43 44), (0, .class_ 45), (0, .nameAndType 46 47), (0, u "java/util/Collection"), (0, u "toArray"), (0, u "()[Ljava/lang/Object;"), (0, .fieldref 10 49), (0, .nameAndType 50 51), (0, u "size"), (0, u "I"), (0, .interfaceMethodref 43 53), (0, .nameAndType 54 55), (0, u "getClass"), (0, u "()Ljava/lang/Class;"), (2, .class_ 60), (1, u "java/util/Arrays"), (0, u "copyOf"), (1, .fieldref 10 64), (0, .nameAndType 65 51), (0, u "modCount"), (0, .methodref 58 67), (0, .nameAndType 61 68), (0, u "([Ljava/lang/Object;I)[Ljava/lang/Object;"), (27, u "(Ljava/lang/Object;)Z"), (34, .methodref 10 132), (0, .nameAndType 133 134), (0, u "add"), (0, u "(Ljava/lang/Object;[Ljava/lang/Object;I)V"), (3, u "(I)V"), (9, .class_ 149), (0, u "java/util/List"), (112, .class_ 263), (0, u "java/util/ArrayList$ListItr"), (3, .class_ 268), (0, u "java/util/ArrayList$Itr"), (7, .class_ 277), (0, u "java/util/ArrayList$SubList"), (12, .class_ 291), (0, u "java/util/ArrayList$ArrayListSpliterator"), (37, .class_ 330), (0, u "java/util/RandomAccess"), (0, .class_ 332), (0, u "java/lang/Cloneable"), (0, .class_ 334), (0, u "java/io/Serializable"), (0, u "serialVersionUID"), (0, u "J"), (3, u "DEFAULT_CAPACITY"), (10, u "(Ljava/util/Collection;)V"), (68, u "addAll"), (0, u "(Ljava/util/Collection;)Z"), (78, .class_ 501), (0, u "java/util/ArrayList$SubList$2"), (0, .class_ 503), (0, u "java/util/ArrayList$SubList$1")] 5

def k48c0 : Code := cd 4 2 jdk_38_method_1_code
def k48m0 : Method := mt "<init>" "(I)V" [.int] none 1 (some k48c0)
def k48c1 : Code := cd 2 1 jdk_38_method_2_code
def k48m1 : Method := mt "<init>" "()V" [] none 1 (some k48c1)
def k48c2 : Code := cd 4 3 jdk_38_method_3_code
def k48m2 : Method := mt "<init>" "(Ljava/util/Collection;)V" [(.object "java/util/Collection")] none 1 (some k48c2)
def k48c3 : Code := cd 2 1 jdk_38_method_16_code
def k48m3 : Method := mt "toArray" "()[Ljava/lang/Object;" [] (some (.array (.object "java/lang/Object"))) 1 (some k48c3)
def k48c4 : Code := cd 3 4 jdk_38_method_24_code
def k48m4 : Method := mt "add" "(Ljava/lang/Object;[Ljava/lang/Object;I)V" [(.object "java/lang/Object"), (.array (.object "java/lang/Object")), .int] none 2 (some k48c4)
def k48c5 : Code := cd 4 2 jdk_38_method_25_code
def k48m5 : Method := mt "add" "(Ljava/lang/Object;)Z" [(.object "java/lang/Object")] (some .boolean) 1 (some k48c5)
def k48c6 : Code := cd 5 6 jdk_38_method_41_code
def k48m6 : Method := mt "addAll" "(Ljava/util/Collection;)Z" [(.object "java/util/Collection")] (some .boolean) 1 (some k48c6)
def k48 : Class := { plain "java/util/ArrayList" (some 46) with
  accessFlags := 33
  interfaces := #[43, 47, 8, 9]
  cf := some (fileOf pool48 10 #[.nestMembers #[290, 276, 500, 502, 262, 267]] #[⟨1, 5, 138, #[]⟩, ⟨1, 5, 6, #[]⟩, ⟨1, 5, 351, #[]⟩, ⟨1, 46, 47, #[]⟩, ⟨2, 133, 134, #[]⟩, ⟨1, 133, 96, #[]⟩, ⟨1, 420, 421, #[]⟩] 33 2 #[148, 329, 331, 333] #[⟨26, 335, 336, #[]⟩, ⟨26, 340, 51, #[]⟩, ⟨26, 17, 14, #[]⟩, ⟨26, 41, 14, #[]⟩, ⟨128, 13, 14, #[]⟩, ⟨2, 50, 51, #[]⟩])
  fields := #[fd "serialVersionUID" .long 26 0 0, fd "DEFAULT_CAPACITY" .int 26 1 0, fd "EMPTY_ELEMENTDATA" (.array (.object "java/lang/Object")) 26 2 0, fd "DEFAULTCAPACITY_EMPTY_ELEMENTDATA" (.array (.object "java/lang/Object")) 26 3 0, fd "elementData" (.array (.object "java/lang/Object")) 128 1 0, fd "size" .int 2 2 0]
  methods := #[k48m0, k48m1, k48m2, k48m3, k48m4, k48m5, k48m6]
  instanceTypes := #[.int, (.array (.object "java/lang/Object")), .int]
  staticTypes := #[.long, .int, (.array (.object "java/lang/Object")), (.array (.object "java/lang/Object"))]
  resolved := Array.replicate 509 none
  mirror := some 12
  statics := some 8 }

def pool49 : Array CpInfo := pool [(1, .fieldref 2 3), (0, .class_ 4), (0, .nameAndType 5 6), (0, u "java/util/Optional"), (0, u "EMPTY"), (0, u "Ljava/util/Optional;"), (0, .methodref 8 9), (0, .class_ 10), (0, .nameAndType 11 12), (0, u "java/lang/Object"), (0, u "<init>"), (0, u "()V"), (0, .fieldref 2 14), (0, .nameAndType 15 16), (0, u "value"), (0, u "Ljava/lang/Object;"), (6, .methodref 2 24), (0, .nameAndType 11 25), (0, u "(Ljava/lang/Object;)V"), (19, u "isEmpty"), (0, u "()Z"), (17, u "ofNullable"), (0, u "(Ljava/lang/Object;)Ljava/util/Optional;"), (7, u "get"), (0, u "()Ljava/lang/Object;"), (97, u "orElseThrow")] 14

def k49c0 : Code := cd 2 2 jdk_32_method_2_code
def k49m0 : Method := mt "<init>" "(Ljava/lang/Object;)V" [(.object "java/lang/Object")] none 2 (some k49c0)
def k49c1 : Code := cd 3 1 jdk_32_method_4_code
def k49m1 : Method := mt "ofNullable" "(Ljava/lang/Object;)Ljava/util/Optional;" [(.object "java/lang/Object")] (some (.object "java/util/Optional")) 9 (some k49c1)
def k49c2 : Code := cd 3 1 jdk_32_method_5_code
def k49m2 : Method := mt "get" "()Ljava/lang/Object;" [] (some (.object "java/lang/Object")) 1 (some k49c2)
def k49c3 : Code := cd 1 1 jdk_32_method_7_code
def k49m3 : Method := mt "isEmpty" "()Z" [] (some .boolean) 1 (some k49c3)
def k49c4 : Code := cd 3 1 jdk_32_method_17_code
def k49m4 : Method := mt "orElseThrow" "()Ljava/lang/Object;" [] (some (.object "java/lang/Object")) 1 (some k49c4)
def k49 : Class := { plain "java/util/Optional" (some 0) with
  accessFlags := 49
  cf := some (fileOf pool49 2 #[] #[⟨2, 11, 25, #[]⟩, ⟨9, 64, 65, #[]⟩, ⟨1, 73, 74, #[]⟩, ⟨1, 45, 46, #[]⟩, ⟨1, 172, 74, #[]⟩] 49 8 #[] #[⟨26, 5, 6, #[]⟩, ⟨18, 15, 16, #[]⟩])
  fields := #[fd "EMPTY" (.object "java/util/Optional") 26 0 0, fd "value" (.object "java/lang/Object") 18 0 0]
  methods := #[k49m0, k49m1, k49m2, k49m3, k49m4]
  instanceTypes := #[(.object "java/lang/Object")]
  staticTypes := #[(.object "java/util/Optional")]
  resolved := Array.replicate 187 none
  statics := some 9 }

def pool50 : Array CpInfo := pool [(2, .class_ 4), (1, u "java/lang/Object"), (0, u "<init>"), (0, u "()V"), (1, .class_ 10), (1, u "java/lang/Number"), (2, .class_ 14), (0, u "java/io/Serializable"), (0, u "serialVersionUID"), (0, u "J")] 20

def k50m0 : Method := mt "<init>" "()V" [] none 1 none
def k50 : Class := { plain "java/lang/Number" (some 0) with
  accessFlags := 1057
  interfaces := #[9]
  cf := some (fileOf pool50 8 #[] #[⟨1, 5, 6, #[]⟩] 1057 2 #[13] #[⟨26, 15, 16, #[]⟩])
  fields := #[fd "serialVersionUID" .long 26 0 0]
  methods := #[k50m0]
  staticTypes := #[.long]
  resolved := Array.replicate 37 none
  statics := none }

def pool51 : Array CpInfo := pool [(1, .class_ 2), (0, u "java/lang/Integer"), (16, u "digits"), (0, u "[C"), (39, u "(II)I"), (24, u "DigitOnes"), (0, u "[B"), (2, u "DigitTens"), (97, u "valueOf"), (0, u "(I)Ljava/lang/Integer;"), (0, .class_ 190), (0, u "java/lang/Integer$IntegerCache"), (0, .fieldref 189 192), (0, .nameAndType 193 194), (0, u "high"), (0, u "I"), (0, .fieldref 189 196), (0, .nameAndType 197 198), (0, u "cache"), (0, u "[Ljava/lang/Integer;"), (4, .class_ 204), (0, u "java/lang/Number"), (0, .fieldref 1 206), (0, .nameAndType 207 194), (0, u "value"), (51, .methodref 1 260), (0, .nameAndType 261 60), (0, u "compare"), (22, .methodref 1 285), (0, .nameAndType 286 287), (0, u "compareTo"), (0, u "(Ljava/lang/Integer;)I"), (14, u "TYPE"), (0, u "Ljava/lang/Class;"), (0, .class_ 305), (0, u "java/lang/Comparable"), (0, .class_ 307), (0, u "java/lang/constant/Constable"), (0, .class_ 309), (0, u "java/lang/constant/ConstantDesc"), (0, u "MIN_VALUE"), (1, u "MAX_VALUE"), (3, u "SIZE"), (1, u "BYTES"), (1, u "serialVersionUID"), (0, u "J"), (113, u "(Ljava/lang/Object;)I")] 17

def k51c0 : Code := cd 3 1 jdk_33_method_22_code
def k51m0 : Method := mt "valueOf" "(I)Ljava/lang/Integer;" [.int] (some (.object "java/lang/Integer")) 9 (some k51c0)
def k51c1 : Code := cd 2 2 jdk_33_method_39_code
def k51m1 : Method := mt "compareTo" "(Ljava/lang/Integer;)I" [(.object "java/lang/Integer")] (some .int) 1 (some k51c1)
def k51c2 : Code := cd 2 2 jdk_33_method_40_code
def k51m2 : Method := mt "compare" "(II)I" [.int, .int] (some .int) 9 (some k51c2)
def k51c3 : Code := cd 2 2 jdk_33_method_63_code
def k51m3 : Method := mt "compareTo" "(Ljava/lang/Object;)I" [(.object "java/lang/Object")] (some .int) 4161 (some k51c3)
def k51 : Class := { plain "java/lang/Integer" (some 50) with
  accessFlags := 49
  interfaces := #[14, 16, 17]
  cf := some (fileOf pool51 1 #[.nestMembers #[189]] #[⟨9, 187, 188, #[]⟩, ⟨1, 286, 287, #[]⟩, ⟨9, 261, 60, #[]⟩, ⟨4161, 286, 435, #[]⟩] 49 203 #[304, 306, 308] #[⟨25, 310, 194, #[]⟩, ⟨25, 312, 194, #[]⟩, ⟨25, 302, 303, #[]⟩, ⟨24, 19, 20, #[]⟩, ⟨24, 89, 86, #[]⟩, ⟨24, 85, 86, #[]⟩, ⟨18, 207, 194, #[]⟩, ⟨25, 316, 194, #[]⟩, ⟨25, 318, 194, #[]⟩, ⟨26, 320, 321, #[]⟩])
  fields := #[fd "MIN_VALUE" .int 25 0 0, fd "MAX_VALUE" .int 25 1 0, fd "TYPE" (.object "java/lang/Class") 25 2 0, fd "digits" (.array .char) 24 3 0, fd "DigitTens" (.array .byte) 24 4 0, fd "DigitOnes" (.array .byte) 24 5 0, fd "value" .int 18 0 0, fd "SIZE" .int 25 6 0, fd "BYTES" .int 25 7 0, fd "serialVersionUID" .long 26 8 0]
  methods := #[k51m0, k51m1, k51m2, k51m3]
  instanceTypes := #[.int]
  staticTypes := #[.int, .int, (.object "java/lang/Class"), (.array .char), (.array .byte), (.array .byte), .int, .int, .long]
  resolved := Array.replicate 453 none
  statics := none }

def pool52 : Array CpInfo := pool [(2, .class_ 4), (1, u "java/lang/Object"), (0, u "<init>"), (0, u "()V"), (0, .class_ 8), (0, u "java/lang/Integer"), (7, .class_ 18), (1, u "java/lang/Integer$IntegerCache"), (0, u "$assertionsDisabled"), (0, u "Z"), (26, u "high"), (0, u "I"), (8, u "archivedCache"), (0, u "[Ljava/lang/Integer;"), (12, u "cache"), (0, u "low")] 27

def k52m0 : Method := mt "<init>" "()V" [] none 2 none
def k52 : Class := { plain "java/lang/Integer$IntegerCache" (some 0) with
  accessFlags := 48
  cf := some (fileOf pool52 16 #[.nestHost 7] #[⟨2, 5, 6, #[]⟩] 48 2 #[] #[⟨24, 72, 48, #[]⟩, ⟨24, 47, 48, #[]⟩, ⟨24, 71, 58, #[]⟩, ⟨8, 57, 58, #[]⟩, ⟨4120, 19, 20, #[]⟩])
  fields := #[fd "low" .int 24 0 0, fd "high" .int 24 1 0, fd "cache" (.array (.object "java/lang/Integer")) 24 2 0, fd "archivedCache" (.array (.object "java/lang/Integer")) 8 3 0, fd "$assertionsDisabled" .boolean 4120 4 0]
  methods := #[k52m0]
  staticTypes := #[.int, .int, (.array (.object "java/lang/Integer")), (.array (.object "java/lang/Integer")), .boolean]
  resolved := Array.replicate 100 none
  statics := some 10 }

def pool53 : Array CpInfo := pool [(23, .class_ 25), (1, u "java/util/Map$Entry"), (6, .class_ 34), (1, u "java/util/Map"), (34, .class_ 70), (0, u "java/lang/Object")] 107

def k53 : Class := { plain "java/util/Map$Entry" (some 0) with
  accessFlags := 1537
  cf := some (fileOf pool53 23 #[.nestHost 32] #[] 1537 69 #[] #[])
  resolved := Array.replicate 178 none
  statics := none }

def pool54 : Array CpInfo := pool [(1, .class_ 2), (0, u "java/util/TreeMap"), (0, .methodref 4 5), (0, .class_ 6), (0, .nameAndType 7 8), (0, u "java/lang/Object"), (0, u "<init>"), (0, u "()V"), (0, .fieldref 10 11), (0, .class_ 12), (0, .nameAndType 13 14), (0, u "java/util/TreeMap$Entry"), (0, u "color"), (0, u "Z"), (0, .fieldref 10 16), (0, .nameAndType 17 18), (0, u "key"), (0, u "Ljava/lang/Object;"), (0, .fieldref 10 20), (0, .nameAndType 21 18), (0, u "value"), (0, .fieldref 10 23), (0, .nameAndType 24 25), (0, u "parent"), (0, u "Ljava/util/TreeMap$Entry;"), (0, .class_ 27), (0, u "java/util/Map$Entry"), (34, u "left"), (1, u "right"), (0, u "(Ljava/lang/Object;Ljava/lang/Object;Ljava/util/TreeMap$Entry;)V")] 30

def k54c0 : Code := cd 2 4 jdk_2736_method_1_code
def k54m0 : Method := mt "<init>" "(Ljava/lang/Object;Ljava/lang/Object;Ljava/util/TreeMap$Entry;)V" [(.object "java/lang/Object"), (.object "java/lang/Object"), (.object "java/util/TreeMap$Entry")] none 0 (some k54c0)
def k54 : Class := { plain "java/util/TreeMap$Entry" (some 0) with
  accessFlags := 48
  interfaces := #[53]
  cf := some (fileOf pool54 10 #[.nestHost 1] #[⟨0, 7, 65, #[]⟩] 48 4 #[26] #[⟨0, 17, 18, #[]⟩, ⟨0, 21, 18, #[]⟩, ⟨0, 62, 25, #[]⟩, ⟨0, 64, 25, #[]⟩, ⟨0, 24, 25, #[]⟩, ⟨0, 13, 14, #[]⟩])
  fields := #[fd "key" (.object "java/lang/Object") 0 0 0, fd "value" (.object "java/lang/Object") 0 1 0, fd "left" (.object "java/util/TreeMap$Entry") 0 2 0, fd "right" (.object "java/util/TreeMap$Entry") 0 3 0, fd "parent" (.object "java/util/TreeMap$Entry") 0 4 0, fd "color" .boolean 0 5 0]
  methods := #[k54m0]
  instanceTypes := #[(.object "java/lang/Object"), (.object "java/lang/Object"), (.object "java/util/TreeMap$Entry"), (.object "java/util/TreeMap$Entry"), (.object "java/util/TreeMap$Entry"), .boolean]
  resolved := Array.replicate 96 none
  statics := none }

def pool55 : Array CpInfo := pool [(2, .class_ 4), (1, u "java/lang/Object"), (0, u "<init>"), (0, u "()V"), (7, .class_ 16), (1, u "java/util/Arrays"), (57, .class_ 76), (1, u "java/util/Arrays$NaturalOrder"), (9, .methodref 2 87), (0, .nameAndType 88 89), (0, u "getClass"), (0, u "()Ljava/lang/Class;"), (20, .class_ 111), (0, u "[Ljava/lang/Object;"), (1, .class_ 115), (1, u "java/util/Arrays$LegacyMergeSort"), (1, u "Z"), (32, .methodref 151 152), (0, .class_ 153), (0, .nameAndType 154 155), (0, u "java/lang/System"), (0, u "arraycopy"), (0, u "(Ljava/lang/Object;ILjava/lang/Object;II)V"), (144, .methodref 14 301), (0, .nameAndType 302 303), (0, u "copyOf"), (0, u "([Ljava/lang/Object;ILjava/lang/Class;)[Ljava/lang/Object;"), (0, .methodref 305 306), (0, .class_ 307), (0, .nameAndType 308 309), (0, u "java/lang/Math"), (0, u "min"), (0, u "(II)I"), (65, .class_ 376), (0, u "java/util/Arrays$ArrayList"), (68, u "$assertionsDisabled"), (269, u "MIN_ARRAY_SORT_GRAN"), (0, u "I"), (2, u "INSERTIONSORT_THRESHOLD"), (140, u "([Ljava/lang/Object;I)[Ljava/lang/Object;"), (114, .class_ 976), (0, u "java/util/Arrays$ArrayItr")] 52

def k55m0 : Method := mt "<init>" "()V" [] none 2 none
def k55c1 : Code := cd 3 2 jdk_65_method_119_code
def k55m1 : Method := mt "copyOf" "([Ljava/lang/Object;I)[Ljava/lang/Object;" [(.array (.object "java/lang/Object")), .int] (some (.array (.object "java/lang/Object"))) 9 (some k55c1)
def k55c2 : Code := cd 6 4 jdk_65_method_120_code
def k55m2 : Method := mt "copyOf" "([Ljava/lang/Object;ILjava/lang/Class;)[Ljava/lang/Object;" [(.array (.object "java/lang/Object")), .int, (.object "java/lang/Class")] (some (.array (.object "java/lang/Object"))) 9 (some k55c2)
def k55 : Class := { plain "java/util/Arrays" (some 0) with
  accessFlags := 49
  cf := some (fileOf pool55 14 #[.nestMembers #[975, 375, 113, 74]] #[⟨2, 5, 6, #[]⟩, ⟨9, 302, 860, #[]⟩, ⟨9, 302, 303, #[]⟩] 49 2 #[] #[⟨26, 715, 716, #[]⟩, ⟨26, 719, 716, #[]⟩, ⟨4120, 445, 117, #[]⟩])
  fields := #[fd "MIN_ARRAY_SORT_GRAN" .int 26 0 0, fd "INSERTIONSORT_THRESHOLD" .int 26 1 0, fd "$assertionsDisabled" .boolean 4120 2 0]
  methods := #[k55m0, k55m1, k55m2]
  staticTypes := #[.int, .int, .boolean]
  resolved := Array.replicate 1029 none
  statics := none }

def pool56 : Array CpInfo := pool [(1, .class_ 2), (0, u "java/lang/Math"), (1, .class_ 6), (1, u "java/lang/Object"), (0, u "<init>"), (0, u "()V"), (89, .class_ 100), (1, u "java/lang/Math$RandomNumberGeneratorHolder"), (71, u "negativeZeroFloatBits"), (0, u "J"), (2, u "negativeZeroDoubleBits"), (24, u "min"), (43, u "$assertionsDisabled"), (0, u "Z"), (88, u "(II)I"), (2, u "twoToTheDoubleScaleDown"), (0, u "D"), (4, u "twoToTheDoubleScaleUp"), (9, u "E"), (3, u "PI"), (2, u "TAU"), (2, u "DEGREES_TO_RADIANS"), (0, u "RADIANS_TO_DEGREES")] 94

def k56m0 : Method := mt "<init>" "()V" [] none 2 none
def k56c1 : Code := cd 2 2 jdk_29_method_69_code
def k56m1 : Method := mt "min" "(II)I" [.int, .int] (some .int) 9 (some k56c1)
def k56 : Class := { plain "java/lang/Math" (some 0) with
  accessFlags := 49
  cf := some (fileOf pool56 1 #[.nestMembers #[98]] #[⟨2, 7, 8, #[]⟩, ⟨9, 201, 335, #[]⟩] 49 4 #[] #[⟨25, 354, 339, #[]⟩, ⟨25, 358, 339, #[]⟩, ⟨25, 361, 339, #[]⟩, ⟨26, 364, 339, #[]⟩, ⟨26, 365, 339, #[]⟩, ⟨26, 172, 173, #[]⟩, ⟨26, 176, 173, #[]⟩, ⟨8, 344, 339, #[]⟩, ⟨8, 338, 339, #[]⟩, ⟨4120, 245, 246, #[]⟩])
  fields := #[fd "E" .double 25 0 0, fd "PI" .double 25 1 0, fd "TAU" .double 25 2 0, fd "DEGREES_TO_RADIANS" .double 26 3 0, fd "RADIANS_TO_DEGREES" .double 26 4 0, fd "negativeZeroFloatBits" .long 26 5 0, fd "negativeZeroDoubleBits" .long 26 6 0, fd "twoToTheDoubleScaleUp" .double 8 7 0, fd "twoToTheDoubleScaleDown" .double 8 8 0, fd "$assertionsDisabled" .boolean 4120 9 0]
  methods := #[k56m0, k56m1]
  staticTypes := #[.double, .double, .double, .double, .double, .long, .long, .double, .double, .boolean]
  resolved := Array.replicate 460 none
  statics := none }

def pool57 : Array CpInfo := pool [(2, .class_ 4), (1, u "java/lang/Object"), (0, u "<init>"), (0, u "()V"), (1, .class_ 10), (1, u "java/lang/System"), (0, u "allowSecurityManager"), (0, u "I"), (16, u "cons"), (0, u "Ljava/io/Console;"), (77, .class_ 110), (1, u "java/lang/System$CallersHolder"), (43, u "initialErrStream"), (0, u "Ljava/io/PrintStream;"), (19, u "security"), (0, u "Ljava/lang/SecurityManager;"), (31, .class_ 209), (0, u "java/lang/System$1"), (7, u "props"), (0, u "Ljava/util/Properties;"), (2, u "lineSeparator"), (0, u "Ljava/lang/String;"), (96, .class_ 321), (1, u "java/lang/System$LoggerFinder"), (5, .class_ 328), (0, u "java/lang/System$Logger"), (67, u "err"), (2, u "out"), (91, u "notSupportedJnuEncoding"), (15, u "in"), (17, u "initialIn"), (0, u "Ljava/io/InputStream;"), (35, u "bootLayer"), (0, u "Ljava/lang/ModuleLayer;"), (99, .class_ 664), (0, u "java/lang/System$2"), (9, u "NEVER"), (2, u "MAYBE"), (49, u "arraycopy"), (0, u "(Ljava/lang/Object;ILjava/lang/Object;II)V"), (72, .class_ 802), (0, u "java/lang/System$Logger$Level")] 31

def k57m0 : Method := mt "<init>" "()V" [] none 2 none
def k57m1 : Method := mt "arraycopy" "(Ljava/lang/Object;ILjava/lang/Object;II)V" [(.object "java/lang/Object"), .int, (.object "java/lang/Object"), .int, .int] none 265 none
def k57 : Class := { plain "java/lang/System" (some 0) with
  accessFlags := 49
  cf := some (fileOf pool57 8 #[.nestMembers #[319, 327, 801, 108, 663, 208]] #[⟨2, 5, 6, #[]⟩, ⟨265, 727, 728, #[]⟩] 49 2 #[] #[⟨25, 507, 526, #[]⟩, ⟨25, 399, 155, #[]⟩, ⟨25, 396, 155, #[]⟩, ⟨10, 525, 526, #[]⟩, ⟨26, 674, 12, #[]⟩, ⟨26, 677, 12, #[]⟩, ⟨10, 11, 12, #[]⟩, ⟨74, 175, 176, #[]⟩, ⟨10, 491, 222, #[]⟩, ⟨74, 29, 30, #[]⟩, ⟨74, 154, 155, #[]⟩, ⟨10, 217, 218, #[]⟩, ⟨10, 221, 222, #[]⟩, ⟨8, 562, 563, #[]⟩])
  fields := #[fd "in" (.object "java/io/InputStream") 25 0 0, fd "out" (.object "java/io/PrintStream") 25 1 0, fd "err" (.object "java/io/PrintStream") 25 2 0, fd "initialIn" (.object "java/io/InputStream") 10 3 0, fd "NEVER" .int 26 4 0, fd "MAYBE" .int 26 5 0, fd "allowSecurityManager" .int 10 6 0, fd "security" (.object "java/lang/SecurityManager") 74 7 0, fd "notSupportedJnuEncoding" (.object "java/lang/String") 10 8 0, fd "cons" (.object "java/io/Console") 74 9 0, fd "initialErrStream" (.object "java/io/PrintStream") 74 10 0, fd "props" (.object "java/util/Properties") 10 11 0, fd "lineSeparator" (.object "java/lang/String") 10 12 0, fd "bootLayer" (.object "java/lang/ModuleLayer") 8 13 0]
  methods := #[k57m0, k57m1]
  staticTypes := #[(.object "java/io/InputStream"), (.object "java/io/PrintStream"), (.object "java/io/PrintStream"), (.object "java/io/InputStream"), .int, .int, .int, (.object "java/lang/SecurityManager"), (.object "java/lang/String"), (.object "java/io/Console"), (.object "java/io/PrintStream"), (.object "java/util/Properties"), (.object "java/lang/String"), (.object "java/lang/ModuleLayer")]
  resolved := Array.replicate 834 none
  statics := none }

def pool58 : Array CpInfo := pool [(2, .class_ 4), (1, u "java/util/AbstractCollection"), (0, u "<init>"), (0, u "()V"), (1, .class_ 10), (1, u "java/util/ImmutableCollections"), (2, .class_ 14), (0, u "java/util/ImmutableCollections$AbstractImmutableCollection")] 41

def k58m0 : Method := mt "<init>" "()V" [] none 0 none
def k58 : Class := { plain "java/util/ImmutableCollections$AbstractImmutableCollection" (some 45) with
  accessFlags := 1056
  cf := some (fileOf pool58 13 #[.nestHost 8] #[⟨0, 5, 6, #[]⟩] 1056 2 #[] #[])
  methods := #[k58m0]
  resolved := Array.replicate 56 none
  statics := none }

def pool59 : Array CpInfo := pool [(2, .class_ 4), (1, u "java/util/ImmutableCollections$AbstractImmutableCollection"), (0, u "<init>"), (0, u "()V"), (1, .class_ 10), (1, u "java/util/ImmutableCollections"), (3, .class_ 16), (1, u "java/util/ImmutableCollections$AbstractImmutableList"), (60, .class_ 78), (0, u "java/util/List"), (45, .class_ 125), (0, u "java/util/RandomAccess")] 70

def k59m0 : Method := mt "<init>" "()V" [] none 0 none
def k59 : Class := { plain "java/util/ImmutableCollections$AbstractImmutableList" (some 58) with
  accessFlags := 1056
  interfaces := #[43, 47]
  cf := some (fileOf pool59 14 #[.nestHost 8] #[⟨0, 5, 6, #[]⟩] 1056 2 #[77, 124] #[])
  methods := #[k59m0]
  resolved := Array.replicate 196 none
  statics := none }

def pool60 : Array CpInfo := pool [(2, .class_ 4), (1, u "java/util/ImmutableCollections$AbstractImmutableList"), (2, .fieldref 8 9), (0, .class_ 10), (0, .nameAndType 11 12), (0, u "java/util/ImmutableCollections$ListN"), (0, u "elements"), (0, u "[Ljava/lang/Object;"), (2, u "allowNulls"), (0, u "Z"), (12, .methodref 30 31), (0, .class_ 32), (0, .nameAndType 33 34), (0, u "java/util/Arrays"), (0, u "copyOf"), (0, u "([Ljava/lang/Object;I)[Ljava/lang/Object;"), (24, .class_ 60), (0, u "java/io/Serializable"), (34, u "toArray"), (0, u "()[Ljava/lang/Object;"), (17, .class_ 115), (0, u "java/util/ImmutableCollections")] 3

def k60c0 : Code := cd 2 1 jdk_45_method_7_code
def k60m0 : Method := mt "toArray" "()[Ljava/lang/Object;" [] (some (.array (.object "java/lang/Object"))) 1 (some k60c0)
def k60 : Class := { plain "java/util/ImmutableCollections$ListN" (some 59) with
  accessFlags := 48
  interfaces := #[9]
  cf := some (fileOf pool60 8 #[.nestHost 114] #[⟨1, 95, 96, #[]⟩] 48 2 #[59] #[⟨18, 11, 12, #[]⟩, ⟨18, 15, 16, #[]⟩])
  fields := #[fd "elements" (.array (.object "java/lang/Object")) 18 0 0, fd "allowNulls" .boolean 18 1 0]
  methods := #[k60m0]
  instanceTypes := #[(.array (.object "java/lang/Object")), .boolean]
  resolved := Array.replicate 119 none
  statics := none }

def pool61 : Array CpInfo := pool [(9, u "<init>"), (6, .class_ 18), (1, u "java/lang/Object"), (0, u "()V"), (1, .class_ 23), (1, u "jdk/internal/util/ArraysSupport"), (0, u "LOG2_ARRAY_LONG_INDEX_SCALE"), (0, u "I"), (2, u "U"), (0, u "Ljdk/internal/misc/Unsafe;"), (8, u "BIG_ENDIAN"), (0, u "Z"), (8, u "LOG2_BYTE_BIT_SIZE"), (4, u "LOG2_ARRAY_INT_INDEX_SCALE"), (54, u "JLA"), (0, u "Ljdk/internal/access/JavaLangAccess;"), (11, u "LOG2_ARRAY_BOOLEAN_INDEX_SCALE"), (9, u "LOG2_ARRAY_BYTE_INDEX_SCALE"), (5, u "LOG2_ARRAY_CHAR_INDEX_SCALE"), (5, u "LOG2_ARRAY_SHORT_INDEX_SCALE"), (18, u "LOG2_ARRAY_FLOAT_INDEX_SCALE"), (24, u "LOG2_ARRAY_DOUBLE_INDEX_SCALE"), (89, u "T_BOOLEAN"), (2, u "T_CHAR"), (1, u "T_FLOAT"), (1, u "T_DOUBLE"), (1, u "T_BYTE"), (1, u "T_SHORT"), (1, u "T_INT"), (1, u "T_LONG"), (1, u "SOFT_MAX_ARRAY_LENGTH")] 83

def k61m0 : Method := mt "<init>" "()V" [] none 2 none
def k61 : Class := { plain "jdk/internal/util/ArraysSupport" (some 0) with
  accessFlags := 33
  cf := some (fileOf pool61 21 #[] #[⟨2, 9, 19, #[]⟩] 33 16 #[] #[⟨24, 28, 29, #[]⟩, ⟨26, 38, 39, #[]⟩, ⟨25, 121, 25, #[]⟩, ⟨25, 131, 25, #[]⟩, ⟨25, 137, 25, #[]⟩, ⟨25, 143, 25, #[]⟩, ⟨25, 53, 25, #[]⟩, ⟨25, 24, 25, #[]⟩, ⟨25, 162, 25, #[]⟩, ⟨25, 187, 25, #[]⟩, ⟨26, 48, 25, #[]⟩, ⟨25, 277, 25, #[]⟩, ⟨25, 280, 25, #[]⟩, ⟨25, 282, 25, #[]⟩, ⟨25, 284, 25, #[]⟩, ⟨25, 286, 25, #[]⟩, ⟨25, 288, 25, #[]⟩, ⟨25, 290, 25, #[]⟩, ⟨25, 292, 25, #[]⟩, ⟨26, 108, 109, #[]⟩, ⟨25, 294, 25, #[]⟩])
  fields := #[fd "U" (.object "jdk/internal/misc/Unsafe") 24 0 0, fd "BIG_ENDIAN" .boolean 26 1 0, fd "LOG2_ARRAY_BOOLEAN_INDEX_SCALE" .int 25 2 0, fd "LOG2_ARRAY_BYTE_INDEX_SCALE" .int 25 3 0, fd "LOG2_ARRAY_CHAR_INDEX_SCALE" .int 25 4 0, fd "LOG2_ARRAY_SHORT_INDEX_SCALE" .int 25 5 0, fd "LOG2_ARRAY_INT_INDEX_SCALE" .int 25 6 0, fd "LOG2_ARRAY_LONG_INDEX_SCALE" .int 25 7 0, fd "LOG2_ARRAY_FLOAT_INDEX_SCALE" .int 25 8 0, fd "LOG2_ARRAY_DOUBLE_INDEX_SCALE" .int 25 9 0, fd "LOG2_BYTE_BIT_SIZE" .int 26 10 0, fd "T_BOOLEAN" .int 25 11 0, fd "T_CHAR" .int 25 12 0, fd "T_FLOAT" .int 25 13 0, fd "T_DOUBLE" .int 25 14 0, fd "T_BYTE" .int 25 15 0, fd "T_SHORT" .int 25 16 0, fd "T_INT" .int 25 17 0, fd "T_LONG" .int 25 18 0, fd "JLA" (.object "jdk/internal/access/JavaLangAccess") 26 19 0, fd "SOFT_MAX_ARRAY_LENGTH" .int 25 20 0]
  methods := #[k61m0]
  staticTypes := #[(.object "jdk/internal/misc/Unsafe"), .boolean, .int, .int, .int, .int, .int, .int, .int, .int, .int, .int, .int, .int, .int, .int, .int, .int, .int, (.object "jdk/internal/access/JavaLangAccess"), .int]
  resolved := Array.replicate 378 none
  statics := none }

def pool62 : Array CpInfo := pool [(1, u "java/lang/Class"), (0, .class_ 1), (0, u "java/lang/Object"), (0, .class_ 3)] 0

def k62 : Class := { plain "java/lang/Class" (some 0) with
  accessFlags := 49
  cf := some (fileOf pool62 2 #[] #[] 49 4 #[] #[])
  resolved := Array.replicate 5 none
  statics := none }

/-- the primitive boolean -/
def k63 : Class := { plain "boolean" none with kind := .primitive 'Z', accessFlags := 0x411 }
/-- [Z -/
def k64 : Class := { plain "[Z" (some 0) with kind := .array 63 .boolean, interfaces := #[8, 9], accessFlags := 1041 }

/-- the primitive byte -/
def k65 : Class := { plain "byte" none with kind := .primitive 'B', accessFlags := 0x411 }
/-- [B -/
def k66 : Class := { plain "[B" (some 0) with kind := .array 65 .byte, interfaces := #[8, 9], accessFlags := 1041 }

/-- the primitive int -/
def k67 : Class := { plain "int" none with kind := .primitive 'I', accessFlags := 0x411 }
/-- [I -/
def k68 : Class := { plain "[I" (some 0) with kind := .array 67 .int, interfaces := #[8, 9], accessFlags := 1041 }

/-- [Lconvoke/model/Value; -/
def k69 : Class := { plain "[Lconvoke/model/Value;" (some 0) with kind := .array 27 (.object "convoke/model/Value"), interfaces := #[8, 9], accessFlags := 1041 }

/-- [Lconvoke/protocol/Bracha; -/
def k70 : Class := { plain "[Lconvoke/protocol/Bracha;" (some 0) with kind := .array 13 (.object "convoke/protocol/Bracha"), interfaces := #[8, 9], accessFlags := 1041 }

/-- [Lconvoke/protocol/BrachaKind; -/
def k71 : Class := { plain "[Lconvoke/protocol/BrachaKind;" (some 0) with kind := .array 25 (.object "convoke/protocol/BrachaKind"), interfaces := #[8, 9], accessFlags := 1041 }

/-- [Ljava/lang/Integer; -/
def k72 : Class := { plain "[Ljava/lang/Integer;" (some 0) with kind := .array 51 (.object "java/lang/Integer"), interfaces := #[8, 9], accessFlags := 1041 }

/-- [Ljava/lang/Object; -/
def k73 : Class := { plain "[Ljava/lang/Object;" (some 0) with kind := .array 0 (.object "java/lang/Object"), interfaces := #[8, 9], accessFlags := 1041, mirror := some 11 }

def heap : Heap := #[ce 18 #[.long 0, .int 1, .null, .int 0, .null, .int 0, .int 0] (.statics 18),
  ce 25 #[.ref 16, .ref 17, .ref 18, .ref 19, .ref 20, .null] (.statics 25),
  ce 29 #[.int 0, .int 0, .ref 21] (.statics 29),
  ce 31 #[.null, .null, .null] (.statics 31),
  ce 32 #[.null, .ref 279, .null, .null, .null, .null] (.statics 32),
  ce 36 #[.ref 280, .null] (.statics 36),
  ce 37 #[.ref 279] (.statics 37),
  ce 44 #[.long 0, .int 0, .null, .null, .ref 278, .null, .null, .null, .int 0, .int 0] (.statics 44),
  ce 48 #[.long 0, .int 0, .ref 281, .ref 282] (.statics 48),
  ce 49 #[.ref 283] (.statics 49),
  ce 52 #[.int 0, .int 127, .ref 14, .null, .int 0] (.statics 52),
  ce 62 #[] (.mirror 73),
  ce 62 #[] (.mirror 48),
  ce 71 #[.ref 16, .ref 17, .ref 18, .ref 19] .none,
  ce 72 #[.ref 22, .ref 23, .ref 24, .ref 25, .ref 26, .ref 27, .ref 28, .ref 29, .ref 30, .ref 31, .ref 32, .ref 33, .ref 34, .ref 35, .ref 36, .ref 37, .ref 38, .ref 39, .ref 40, .ref 41, .ref 42, .ref 43, .ref 44, .ref 45, .ref 46, .ref 47, .ref 48, .ref 49, .ref 50, .ref 51, .ref 52, .ref 53, .ref 54, .ref 55, .ref 56, .ref 57, .ref 58, .ref 59, .ref 60, .ref 61, .ref 62, .ref 63, .ref 64, .ref 65, .ref 66, .ref 67, .ref 68, .ref 69, .ref 70, .ref 71, .ref 72, .ref 73, .ref 74, .ref 75, .ref 76, .ref 77, .ref 78, .ref 79, .ref 80, .ref 81, .ref 82, .ref 83, .ref 84, .ref 85, .ref 86, .ref 87, .ref 88, .ref 89, .ref 90, .ref 91, .ref 92, .ref 93, .ref 94, .ref 95, .ref 96, .ref 97, .ref 98, .ref 99, .ref 100, .ref 101, .ref 102, .ref 103, .ref 104, .ref 105, .ref 106, .ref 107, .ref 108, .ref 109, .ref 110, .ref 111, .ref 112, .ref 113, .ref 114, .ref 115, .ref 116, .ref 117, .ref 118, .ref 119, .ref 120, .ref 121, .ref 122, .ref 123, .ref 124, .ref 125, .ref 126, .ref 127, .ref 128, .ref 129, .ref 130, .ref 131, .ref 132, .ref 133, .ref 134, .ref 135, .ref 136, .ref 137, .ref 138, .ref 139, .ref 140, .ref 141, .ref 142, .ref 143, .ref 144, .ref 145, .ref 146, .ref 147, .ref 148, .ref 149, .ref 150, .ref 151, .ref 152, .ref 153, .ref 154, .ref 155, .ref 156, .ref 157, .ref 158, .ref 159, .ref 160, .ref 161, .ref 162, .ref 163, .ref 164, .ref 165, .ref 166, .ref 167, .ref 168, .ref 169, .ref 170, .ref 171, .ref 172, .ref 173, .ref 174, .ref 175, .ref 176, .ref 177, .ref 178, .ref 179, .ref 180, .ref 181, .ref 182, .ref 183, .ref 184, .ref 185, .ref 186, .ref 187, .ref 188, .ref 189, .ref 190, .ref 191, .ref 192, .ref 193, .ref 194, .ref 195, .ref 196, .ref 197, .ref 198, .ref 199, .ref 200, .ref 201, .ref 202, .ref 203, .ref 204, .ref 205, .ref 206, .ref 207, .ref 208, .ref 209, .ref 210, .ref 211, .ref 212, .ref 213, .ref 214, .ref 215, .ref 216, .ref 217, .ref 218, .ref 219, .ref 220, .ref 221, .ref 222, .ref 223, .ref 224, .ref 225, .ref 226, .ref 227, .ref 228, .ref 229, .ref 230, .ref 231, .ref 232, .ref 233, .ref 234, .ref 235, .ref 236, .ref 237, .ref 238, .ref 239, .ref 240, .ref 241, .ref 242, .ref 243, .ref 244, .ref 245, .ref 246, .ref 247, .ref 248, .ref 249, .ref 250, .ref 251, .ref 252, .ref 253, .ref 254, .ref 255, .ref 256, .ref 257, .ref 258, .ref 259, .ref 260, .ref 261, .ref 262, .ref 263, .ref 264, .ref 265, .ref 266, .ref 267, .ref 268, .ref 269, .ref 270, .ref 271, .ref 272, .ref 273, .ref 274, .ref 275, .ref 276, .ref 277] .none,
  ce 73 #[] .none,
  ce 25 #[.null, .int 0, .int 0, .int 1] .none,
  ce 25 #[.null, .int 1, .int 0, .int 1] .none,
  ce 25 #[.null, .int 2, .int 0, .int 1] .none,
  ce 25 #[.null, .int 3, .int 0, .int 0] .none,
  ce 39 #[.ref 13] .none,
  ce 64 #[.int 0, .int 0, .int 0, .int 0, .int 0, .int 0, .int 0, .int 0, .int 0, .int 0, .int 0, .int 0, .int 0, .int 0, .int 0, .int 0, .int 0, .int 0, .int 0, .int 0, .int 0, .int 0, .int 0, .int 0, .int 0, .int 0, .int 0, .int 0, .int 0, .int 0, .int 0, .int 0, .int 0, .int 0, .int 0, .int 0, .int 0, .int 0, .int 0, .int 0, .int 0, .int 0, .int 0, .int 0, .int 0, .int 1, .int 1, .int 0, .int 1, .int 1, .int 1, .int 1, .int 1, .int 1, .int 1, .int 1, .int 1, .int 1, .int 0, .int 0, .int 0, .int 0, .int 0, .int 0, .int 0, .int 1, .int 1, .int 1, .int 1, .int 1, .int 1, .int 1, .int 1, .int 1, .int 1, .int 1, .int 1, .int 1, .int 1, .int 1, .int 1, .int 1, .int 1, .int 1, .int 1, .int 1, .int 1, .int 1, .int 1, .int 1, .int 1, .int 0, .int 0, .int 0, .int 0, .int 1, .int 0, .int 1, .int 1, .int 1, .int 1, .int 1, .int 1, .int 1, .int 1, .int 1, .int 1, .int 1, .int 1, .int 1, .int 1, .int 1, .int 1, .int 1, .int 1, .int 1, .int 1, .int 1, .int 1, .int 1, .int 1, .int 1, .int 1, .int 0, .int 0, .int 0, .int 0, .int 0] .none,
  ce 51 #[.int (-128)] .none,
  ce 51 #[.int (-127)] .none,
  ce 51 #[.int (-126)] .none,
  ce 51 #[.int (-125)] .none,
  ce 51 #[.int (-124)] .none,
  ce 51 #[.int (-123)] .none,
  ce 51 #[.int (-122)] .none,
  ce 51 #[.int (-121)] .none,
  ce 51 #[.int (-120)] .none,
  ce 51 #[.int (-119)] .none,
  ce 51 #[.int (-118)] .none,
  ce 51 #[.int (-117)] .none,
  ce 51 #[.int (-116)] .none,
  ce 51 #[.int (-115)] .none,
  ce 51 #[.int (-114)] .none,
  ce 51 #[.int (-113)] .none,
  ce 51 #[.int (-112)] .none,
  ce 51 #[.int (-111)] .none,
  ce 51 #[.int (-110)] .none,
  ce 51 #[.int (-109)] .none,
  ce 51 #[.int (-108)] .none,
  ce 51 #[.int (-107)] .none,
  ce 51 #[.int (-106)] .none,
  ce 51 #[.int (-105)] .none,
  ce 51 #[.int (-104)] .none,
  ce 51 #[.int (-103)] .none,
  ce 51 #[.int (-102)] .none,
  ce 51 #[.int (-101)] .none,
  ce 51 #[.int (-100)] .none,
  ce 51 #[.int (-99)] .none,
  ce 51 #[.int (-98)] .none,
  ce 51 #[.int (-97)] .none,
  ce 51 #[.int (-96)] .none,
  ce 51 #[.int (-95)] .none,
  ce 51 #[.int (-94)] .none,
  ce 51 #[.int (-93)] .none,
  ce 51 #[.int (-92)] .none,
  ce 51 #[.int (-91)] .none,
  ce 51 #[.int (-90)] .none,
  ce 51 #[.int (-89)] .none,
  ce 51 #[.int (-88)] .none,
  ce 51 #[.int (-87)] .none,
  ce 51 #[.int (-86)] .none,
  ce 51 #[.int (-85)] .none,
  ce 51 #[.int (-84)] .none,
  ce 51 #[.int (-83)] .none,
  ce 51 #[.int (-82)] .none,
  ce 51 #[.int (-81)] .none,
  ce 51 #[.int (-80)] .none,
  ce 51 #[.int (-79)] .none,
  ce 51 #[.int (-78)] .none,
  ce 51 #[.int (-77)] .none,
  ce 51 #[.int (-76)] .none,
  ce 51 #[.int (-75)] .none,
  ce 51 #[.int (-74)] .none,
  ce 51 #[.int (-73)] .none,
  ce 51 #[.int (-72)] .none,
  ce 51 #[.int (-71)] .none,
  ce 51 #[.int (-70)] .none,
  ce 51 #[.int (-69)] .none,
  ce 51 #[.int (-68)] .none,
  ce 51 #[.int (-67)] .none,
  ce 51 #[.int (-66)] .none,
  ce 51 #[.int (-65)] .none,
  ce 51 #[.int (-64)] .none,
  ce 51 #[.int (-63)] .none,
  ce 51 #[.int (-62)] .none,
  ce 51 #[.int (-61)] .none,
  ce 51 #[.int (-60)] .none,
  ce 51 #[.int (-59)] .none,
  ce 51 #[.int (-58)] .none,
  ce 51 #[.int (-57)] .none,
  ce 51 #[.int (-56)] .none,
  ce 51 #[.int (-55)] .none,
  ce 51 #[.int (-54)] .none,
  ce 51 #[.int (-53)] .none,
  ce 51 #[.int (-52)] .none,
  ce 51 #[.int (-51)] .none,
  ce 51 #[.int (-50)] .none,
  ce 51 #[.int (-49)] .none,
  ce 51 #[.int (-48)] .none,
  ce 51 #[.int (-47)] .none,
  ce 51 #[.int (-46)] .none,
  ce 51 #[.int (-45)] .none,
  ce 51 #[.int (-44)] .none,
  ce 51 #[.int (-43)] .none,
  ce 51 #[.int (-42)] .none,
  ce 51 #[.int (-41)] .none,
  ce 51 #[.int (-40)] .none,
  ce 51 #[.int (-39)] .none,
  ce 51 #[.int (-38)] .none,
  ce 51 #[.int (-37)] .none,
  ce 51 #[.int (-36)] .none,
  ce 51 #[.int (-35)] .none,
  ce 51 #[.int (-34)] .none,
  ce 51 #[.int (-33)] .none,
  ce 51 #[.int (-32)] .none,
  ce 51 #[.int (-31)] .none,
  ce 51 #[.int (-30)] .none,
  ce 51 #[.int (-29)] .none,
  ce 51 #[.int (-28)] .none,
  ce 51 #[.int (-27)] .none,
  ce 51 #[.int (-26)] .none,
  ce 51 #[.int (-25)] .none,
  ce 51 #[.int (-24)] .none,
  ce 51 #[.int (-23)] .none,
  ce 51 #[.int (-22)] .none,
  ce 51 #[.int (-21)] .none,
  ce 51 #[.int (-20)] .none,
  ce 51 #[.int (-19)] .none,
  ce 51 #[.int (-18)] .none,
  ce 51 #[.int (-17)] .none,
  ce 51 #[.int (-16)] .none,
  ce 51 #[.int (-15)] .none,
  ce 51 #[.int (-14)] .none,
  ce 51 #[.int (-13)] .none,
  ce 51 #[.int (-12)] .none,
  ce 51 #[.int (-11)] .none,
  ce 51 #[.int (-10)] .none,
  ce 51 #[.int (-9)] .none,
  ce 51 #[.int (-8)] .none,
  ce 51 #[.int (-7)] .none,
  ce 51 #[.int (-6)] .none,
  ce 51 #[.int (-5)] .none,
  ce 51 #[.int (-4)] .none,
  ce 51 #[.int (-3)] .none,
  ce 51 #[.int (-2)] .none,
  ce 51 #[.int (-1)] .none,
  ce 51 #[.int (0)] .none,
  ce 51 #[.int (1)] .none,
  ce 51 #[.int (2)] .none,
  ce 51 #[.int (3)] .none,
  ce 51 #[.int (4)] .none,
  ce 51 #[.int (5)] .none,
  ce 51 #[.int (6)] .none,
  ce 51 #[.int (7)] .none,
  ce 51 #[.int (8)] .none,
  ce 51 #[.int (9)] .none,
  ce 51 #[.int (10)] .none,
  ce 51 #[.int (11)] .none,
  ce 51 #[.int (12)] .none,
  ce 51 #[.int (13)] .none,
  ce 51 #[.int (14)] .none,
  ce 51 #[.int (15)] .none,
  ce 51 #[.int (16)] .none,
  ce 51 #[.int (17)] .none,
  ce 51 #[.int (18)] .none,
  ce 51 #[.int (19)] .none,
  ce 51 #[.int (20)] .none,
  ce 51 #[.int (21)] .none,
  ce 51 #[.int (22)] .none,
  ce 51 #[.int (23)] .none,
  ce 51 #[.int (24)] .none,
  ce 51 #[.int (25)] .none,
  ce 51 #[.int (26)] .none,
  ce 51 #[.int (27)] .none,
  ce 51 #[.int (28)] .none,
  ce 51 #[.int (29)] .none,
  ce 51 #[.int (30)] .none,
  ce 51 #[.int (31)] .none,
  ce 51 #[.int (32)] .none,
  ce 51 #[.int (33)] .none,
  ce 51 #[.int (34)] .none,
  ce 51 #[.int (35)] .none,
  ce 51 #[.int (36)] .none,
  ce 51 #[.int (37)] .none,
  ce 51 #[.int (38)] .none,
  ce 51 #[.int (39)] .none,
  ce 51 #[.int (40)] .none,
  ce 51 #[.int (41)] .none,
  ce 51 #[.int (42)] .none,
  ce 51 #[.int (43)] .none,
  ce 51 #[.int (44)] .none,
  ce 51 #[.int (45)] .none,
  ce 51 #[.int (46)] .none,
  ce 51 #[.int (47)] .none,
  ce 51 #[.int (48)] .none,
  ce 51 #[.int (49)] .none,
  ce 51 #[.int (50)] .none,
  ce 51 #[.int (51)] .none,
  ce 51 #[.int (52)] .none,
  ce 51 #[.int (53)] .none,
  ce 51 #[.int (54)] .none,
  ce 51 #[.int (55)] .none,
  ce 51 #[.int (56)] .none,
  ce 51 #[.int (57)] .none,
  ce 51 #[.int (58)] .none,
  ce 51 #[.int (59)] .none,
  ce 51 #[.int (60)] .none,
  ce 51 #[.int (61)] .none,
  ce 51 #[.int (62)] .none,
  ce 51 #[.int (63)] .none,
  ce 51 #[.int (64)] .none,
  ce 51 #[.int (65)] .none,
  ce 51 #[.int (66)] .none,
  ce 51 #[.int (67)] .none,
  ce 51 #[.int (68)] .none,
  ce 51 #[.int (69)] .none,
  ce 51 #[.int (70)] .none,
  ce 51 #[.int (71)] .none,
  ce 51 #[.int (72)] .none,
  ce 51 #[.int (73)] .none,
  ce 51 #[.int (74)] .none,
  ce 51 #[.int (75)] .none,
  ce 51 #[.int (76)] .none,
  ce 51 #[.int (77)] .none,
  ce 51 #[.int (78)] .none,
  ce 51 #[.int (79)] .none,
  ce 51 #[.int (80)] .none,
  ce 51 #[.int (81)] .none,
  ce 51 #[.int (82)] .none,
  ce 51 #[.int (83)] .none,
  ce 51 #[.int (84)] .none,
  ce 51 #[.int (85)] .none,
  ce 51 #[.int (86)] .none,
  ce 51 #[.int (87)] .none,
  ce 51 #[.int (88)] .none,
  ce 51 #[.int (89)] .none,
  ce 51 #[.int (90)] .none,
  ce 51 #[.int (91)] .none,
  ce 51 #[.int (92)] .none,
  ce 51 #[.int (93)] .none,
  ce 51 #[.int (94)] .none,
  ce 51 #[.int (95)] .none,
  ce 51 #[.int (96)] .none,
  ce 51 #[.int (97)] .none,
  ce 51 #[.int (98)] .none,
  ce 51 #[.int (99)] .none,
  ce 51 #[.int (100)] .none,
  ce 51 #[.int (101)] .none,
  ce 51 #[.int (102)] .none,
  ce 51 #[.int (103)] .none,
  ce 51 #[.int (104)] .none,
  ce 51 #[.int (105)] .none,
  ce 51 #[.int (106)] .none,
  ce 51 #[.int (107)] .none,
  ce 51 #[.int (108)] .none,
  ce 51 #[.int (109)] .none,
  ce 51 #[.int (110)] .none,
  ce 51 #[.int (111)] .none,
  ce 51 #[.int (112)] .none,
  ce 51 #[.int (113)] .none,
  ce 51 #[.int (114)] .none,
  ce 51 #[.int (115)] .none,
  ce 51 #[.int (116)] .none,
  ce 51 #[.int (117)] .none,
  ce 51 #[.int (118)] .none,
  ce 51 #[.int (119)] .none,
  ce 51 #[.int (120)] .none,
  ce 51 #[.int (121)] .none,
  ce 51 #[.int (122)] .none,
  ce 51 #[.int (123)] .none,
  ce 51 #[.int (124)] .none,
  ce 51 #[.int (125)] .none,
  ce 51 #[.int (126)] .none,
  ce 51 #[.int (127)] .none,
  ce 60 #[.ref 15, .int 0] .none,
  ce 37 #[.null, .null, .null] .none,
  ce 36 #[.null, .null, .null] .none,
  ce 73 #[] .none,
  ce 73 #[] .none,
  ce 49 #[.null] .none]
def classes : Array Class := #[k0, k1, k2, k3, k4, k5, k6, k7, k8, k9, k10, k11, k12, k13, k14, k15, k16, k17, k18, k19, k20, k21, k22, k23, k24, k25, k26, k27, k28, k29, k30, k31, k32, k33, k34, k35, k36, k37, k38, k39, k40, k41, k42, k43, k44, k45, k46, k47, k48, k49, k50, k51, k52, k53, k54, k55, k56, k57, k58, k59, k60, k61, k62, k63, k64, k65, k66, k67, k68, k69, k70, k71, k72, k73]
def interned : List (Array UInt16 × Addr) := []
def slotsUsed : Nat := 718
def theMethod : MethodId := ⟨1, 1⟩
def args0 : Array Value := #[.int 5, .int 6, .int 7, .int 8, .int 9, .int 3]
def aboutOver (below : List Frame) : State where
  vm := { classes := classes, interned := interned.toArray }
  heap := heap
  slotsUsed := slotsUsed
  threads := #[{ frames := .invoking theMethod args0 :: below }]
def below0 : List Frame := [.native { method := ⟨0, 0⟩, args := #[] }]
def about1 : State := aboutOver below0
def p0 : Program := .bare "" "" ""
def e0 : Env := launch0.env 0 0 0
theorem w_frames : about1.frames = Frame.invoking theMethod args0 :: below0 := rfl
theorem w_args : argsFit about1.vm theMethod args0 = true := by decide +kernel
theorem w_heap : heapFits about1 = true := by decide +kernel
theorem w_runnable : about1.curStatus? = some .runnable := by decide +kernel
theorem w_alone : about1.alone = true := by decide +kernel
theorem w_named : about1.methodNamed? x = some theMethod := by decide +kernel
theorem w_hears : about1.hears theMethod below0 = true := by decide +kernel
theorem w_ripe : about1.ripe theMethod args0 below0 = true := by decide +kernel
theorem w_running : about1.status = .running := rfl
theorem w_room : about1.hasRoom e0.platform room_1 = true :=
  launch0.hasRoom_least _ room_1 (by decide +kernel) (by decide +kernel) (by decide +kernel) (by decide +kernel) (by decide +kernel) (by decide +kernel)
theorem allAtoms_all (ts : List Jvm.Cond) (a : Array Jvm.Value) (st : Jvm.State) : (allAtoms ts).before a st = ts.all (fun c => c.before a st) := by
  induction ts with
  | nil => rfl
  | cons c t ih =>
    show (Jvm.Cond.and c (allAtoms t)).before a st = _
    rw [Jvm.Cond.before_and, ih, List.all_cons]
def words1 : List Jvm.Cond := Jvm.Cond.code x code maxLocals ret :: tables_1
/-- a 'code' word, met by the world's own term for the bytes: nothing is compared byte by byte -/
theorem code_word {y : MethodName} {bytes : ByteArray} {mx : Nat} {rt : Option FieldType} {a : Array Value} {s : State} {m : MethodId} {meth : Method} {c : Code} (h1 : s.methodNamed? y = some m) (h2 : s.vm.method? m = some meth) (h3 : meth.code = some c) (h4 : c.code = bytes)
    (h5 : (c.maxLocals == mx && c.exceptionTable.isEmpty && decide (c.maxStack <= mostOperands) && decide (meth.sig.returnType = rt) && !meth.locks && decide (parseMethodDescriptor y.desc = some meth.sig)) = true) : (Jvm.Cond.code y bytes mx rt).before a s = true := by
  simp only [Bool.and_eq_true, beq_iff_eq, Bool.not_eq_true', decide_eq_true_eq] at h5
  obtain ⟨⟨⟨⟨⟨g1, g2⟩, g3⟩, g4⟩, g5⟩, g6⟩ := h5
  simp [Cond.before, Cond.holds, Cond.value, h1, h2, h3, h4, g1, g2, g3, g4, g5, g6]
def isCode : Jvm.Cond -> Bool
  | .code _ _ _ _ => true
  | _ => false
theorem all_split {L : List Jvm.Cond} {P : Jvm.Cond -> Bool} (h1 : L.all (fun c => isCode c || P c) = true) (h2 : ∀ c ∈ L.filter isCode, P c = true) : L.all P = true := by
  refine List.all_eq_true.mpr fun c hc => ?_
  have h := List.all_eq_true.mp h1 c hc
  rcases Bool.eq_false_or_eq_true (isCode c) with hi | hi
  · exact h2 c (List.mem_filter.mpr ⟨hc, hi⟩)
  · simpa [hi] using h
def PC (i : Nat) : Prop := (tw i).before args0 about1 = true
theorem w_c0 : (Jvm.Cond.code x code maxLocals ret).before args0 about1 = true := code_word (m := ⟨1, 1⟩) (meth := k1m1) (c := k1c1) (by decide +kernel) rfl rfl rfl (by decide +kernel)
theorem w_c1 : PC 7 := code_word (m := ⟨2, 0⟩) (meth := k2m0) (c := k2c0) (by decide +kernel) rfl rfl rfl (by decide +kernel)
theorem w_c2 : PC 10 := code_word (m := ⟨2, 1⟩) (meth := k2m1) (c := k2c1) (by decide +kernel) rfl rfl rfl (by decide +kernel)
theorem w_c3 : PC 13 := code_word (m := ⟨0, 0⟩) (meth := k0m0) (c := k0c0) (by decide +kernel) rfl rfl rfl (by decide +kernel)
theorem w_c4 : PC 19 := code_word (m := ⟨10, 0⟩) (meth := k10m0) (c := k10c0) (by decide +kernel) rfl rfl rfl (by decide +kernel)
theorem w_c5 : PC 25 := code_word (m := ⟨4, 0⟩) (meth := k4m0) (c := k4c0) (by decide +kernel) rfl rfl rfl (by decide +kernel)
theorem w_c6 : PC 38 := code_word (m := ⟨13, 2⟩) (meth := k13m2) (c := k13c2) (by decide +kernel) rfl rfl rfl (by decide +kernel)
theorem w_c7 : PC 50 := code_word (m := ⟨19, 2⟩) (meth := k19m2) (c := k19c2) (by decide +kernel) rfl rfl rfl (by decide +kernel)
theorem w_c8 : PC 53 := code_word (m := ⟨19, 1⟩) (meth := k19m1) (c := k19c1) (by decide +kernel) rfl rfl rfl (by decide +kernel)
theorem w_c9 : PC 59 := code_word (m := ⟨20, 1⟩) (meth := k20m1) (c := k20c1) (by decide +kernel) rfl rfl rfl (by decide +kernel)
theorem w_c10 : PC 73 := code_word (m := ⟨13, 0⟩) (meth := k13m0) (c := k13c0) (by decide +kernel) rfl rfl rfl (by decide +kernel)
theorem w_c11 : PC 76 := code_word (m := ⟨13, 1⟩) (meth := k13m1) (c := k13c1) (by decide +kernel) rfl rfl rfl (by decide +kernel)
theorem w_c12 : PC 83 := code_word (m := ⟨22, 0⟩) (meth := k22m0) (c := k22c0) (by decide +kernel) rfl rfl rfl (by decide +kernel)
theorem w_c13 : PC 88 := code_word (m := ⟨21, 0⟩) (meth := k21m0) (c := k21c0) (by decide +kernel) rfl rfl rfl (by decide +kernel)
theorem w_c14 : PC 110 := code_word (m := ⟨12, 0⟩) (meth := k12m0) (c := k12c0) (by decide +kernel) rfl rfl rfl (by decide +kernel)
theorem w_c15 : PC 136 := code_word (m := ⟨26, 0⟩) (meth := k26m0) (c := k26c0) (by decide +kernel) rfl rfl rfl (by decide +kernel)
theorem w_c16 : PC 161 := code_word (m := ⟨27, 0⟩) (meth := k27m0) (c := k27c0) (by decide +kernel) rfl rfl rfl (by decide +kernel)
theorem w_c17 : PC 166 := code_word (m := ⟨28, 2⟩) (meth := k28m2) (c := k28c2) (by decide +kernel) rfl rfl rfl (by decide +kernel)
theorem w_c18 : PC 171 := code_word (m := ⟨27, 2⟩) (meth := k27m2) (c := k27c2) (by decide +kernel) rfl rfl rfl (by decide +kernel)
theorem w_c19 : PC 175 := code_word (m := ⟨29, 1⟩) (meth := k29m1) (c := k29c1) (by decide +kernel) rfl rfl rfl (by decide +kernel)
theorem w_c20 : PC 180 := code_word (m := ⟨18, 5⟩) (meth := k18m5) (c := k18c5) (by decide +kernel) rfl rfl rfl (by decide +kernel)
theorem w_c21 : PC 186 := code_word (m := ⟨18, 4⟩) (meth := k18m4) (c := k18c4) (by decide +kernel) rfl rfl rfl (by decide +kernel)
theorem w_c22 : PC 191 := code_word (m := ⟨18, 8⟩) (meth := k18m8) (c := k18c8) (by decide +kernel) rfl rfl rfl (by decide +kernel)
theorem w_c23 : PC 198 := code_word (m := ⟨18, 6⟩) (meth := k18m6) (c := k18c6) (by decide +kernel) rfl rfl rfl (by decide +kernel)
theorem w_c24 : PC 203 := code_word (m := ⟨18, 9⟩) (meth := k18m9) (c := k18c9) (by decide +kernel) rfl rfl rfl (by decide +kernel)
theorem w_c25 : PC 207 := code_word (m := ⟨30, 1⟩) (meth := k30m1) (c := k30c1) (by decide +kernel) rfl rfl rfl (by decide +kernel)
theorem w_c26 : PC 210 := code_word (m := ⟨18, 10⟩) (meth := k18m10) (c := k18c10) (by decide +kernel) rfl rfl rfl (by decide +kernel)
theorem w_c27 : PC 215 := code_word (m := ⟨31, 1⟩) (meth := k31m1) (c := k31c1) (by decide +kernel) rfl rfl rfl (by decide +kernel)
theorem w_c28 : PC 224 := code_word (m := ⟨18, 7⟩) (meth := k18m7) (c := k18c7) (by decide +kernel) rfl rfl rfl (by decide +kernel)
theorem w_c29 : PC 227 := code_word (m := ⟨18, 1⟩) (meth := k18m1) (c := k18c1) (by decide +kernel) rfl rfl rfl (by decide +kernel)
theorem w_c30 : PC 234 := code_word (m := ⟨18, 2⟩) (meth := k18m2) (c := k18c2) (by decide +kernel) rfl rfl rfl (by decide +kernel)
theorem w_c31 : PC 237 := code_word (m := ⟨18, 3⟩) (meth := k18m3) (c := k18c3) (by decide +kernel) rfl rfl rfl (by decide +kernel)
theorem w_c32 : PC 249 := code_word (m := ⟨27, 1⟩) (meth := k27m1) (c := k27c1) (by decide +kernel) rfl rfl rfl (by decide +kernel)
theorem w_c33 : PC 262 := code_word (m := ⟨38, 0⟩) (meth := k38m0) (c := k38c0) (by decide +kernel) rfl rfl rfl (by decide +kernel)
theorem w_c34 : PC 274 := code_word (m := ⟨25, 1⟩) (meth := k25m1) (c := k25c1) (by decide +kernel) rfl rfl rfl (by decide +kernel)
theorem w_c35 : PC 292 := code_word (m := ⟨2, 5⟩) (meth := k2m5) (c := k2c5) (by decide +kernel) rfl rfl rfl (by decide +kernel)
theorem w_c36 : PC 297 := code_word (m := ⟨2, 2⟩) (meth := k2m2) (c := k2c2) (by decide +kernel) rfl rfl rfl (by decide +kernel)
theorem w_c37 : PC 300 := code_word (m := ⟨22, 1⟩) (meth := k22m1) (c := k22c1) (by decide +kernel) rfl rfl rfl (by decide +kernel)
theorem w_c38 : PC 305 := code_word (m := ⟨38, 2⟩) (meth := k38m2) (c := k38c2) (by decide +kernel) rfl rfl rfl (by decide +kernel)
theorem w_c39 : PC 311 := code_word (m := ⟨38, 1⟩) (meth := k38m1) (c := k38c1) (by decide +kernel) rfl rfl rfl (by decide +kernel)
theorem w_c40 : PC 317 := code_word (m := ⟨38, 3⟩) (meth := k38m3) (c := k38c3) (by decide +kernel) rfl rfl rfl (by decide +kernel)
theorem w_c41 : PC 322 := code_word (m := ⟨38, 4⟩) (meth := k38m4) (c := k38c4) (by decide +kernel) rfl rfl rfl (by decide +kernel)
theorem w_c42 : PC 325 := code_word (m := ⟨25, 0⟩) (meth := k25m0) (c := k25c0) (by decide +kernel) rfl rfl rfl (by decide +kernel)
theorem w_c43 : PC 332 := code_word (m := ⟨39, 0⟩) (meth := k39m0) (c := k39c0) (by decide +kernel) rfl rfl rfl (by decide +kernel)
theorem w_c44 : PC 342 := code_word (m := ⟨12, 1⟩) (meth := k12m1) (c := k12c1) (by decide +kernel) rfl rfl rfl (by decide +kernel)
theorem w_c45 : PC 346 := code_word (m := ⟨12, 11⟩) (meth := k12m11) (c := k12c11) (by decide +kernel) rfl rfl rfl (by decide +kernel)
theorem w_c46 : PC 360 := code_word (m := ⟨23, 0⟩) (meth := k23m0) (c := k23c0) (by decide +kernel) rfl rfl rfl (by decide +kernel)
theorem w_c47 : PC 366 := code_word (m := ⟨38, 5⟩) (meth := k38m5) (c := k38c5) (by decide +kernel) rfl rfl rfl (by decide +kernel)
theorem w_c48 : PC 371 := code_word (m := ⟨13, 3⟩) (meth := k13m3) (c := k13c3) (by decide +kernel) rfl rfl rfl (by decide +kernel)
theorem w_c49 : PC 376 := code_word (m := ⟨13, 5⟩) (meth := k13m5) (c := k13c5) (by decide +kernel) rfl rfl rfl (by decide +kernel)
theorem w_c50 : PC 381 := code_word (m := ⟨26, 1⟩) (meth := k26m1) (c := k26c1) (by decide +kernel) rfl rfl rfl (by decide +kernel)
theorem w_c51 : PC 386 := code_word (m := ⟨26, 2⟩) (meth := k26m2) (c := k26c2) (by decide +kernel) rfl rfl rfl (by decide +kernel)
theorem w_c52 : PC 392 := code_word (m := ⟨26, 4⟩) (meth := k26m4) (c := k26c4) (by decide +kernel) rfl rfl rfl (by decide +kernel)
theorem w_c53 : PC 399 := code_word (m := ⟨43, 2⟩) (meth := k43m2) (c := k43c2) (by decide +kernel) rfl rfl rfl (by decide +kernel)
theorem w_c54 : PC 408 := code_word (m := ⟨26, 3⟩) (meth := k26m3) (c := k26c3) (by decide +kernel) rfl rfl rfl (by decide +kernel)
theorem w_c55 : PC 414 := code_word (m := ⟨12, 5⟩) (meth := k12m5) (c := k12c5) (by decide +kernel) rfl rfl rfl (by decide +kernel)
theorem w_c56 : PC 419 := code_word (m := ⟨22, 2⟩) (meth := k22m2) (c := k22c2) (by decide +kernel) rfl rfl rfl (by decide +kernel)
theorem w_c57 : PC 422 := code_word (m := ⟨22, 3⟩) (meth := k22m3) (c := k22c3) (by decide +kernel) rfl rfl rfl (by decide +kernel)
theorem w_c58 : PC 428 := code_word (m := ⟨48, 0⟩) (meth := k48m0) (c := k48c0) (by decide +kernel) rfl rfl rfl (by decide +kernel)
theorem w_c59 : PC 434 := code_word (m := ⟨46, 0⟩) (meth := k46m0) (c := k46c0) (by decide +kernel) rfl rfl rfl (by decide +kernel)
theorem w_c60 : PC 440 := code_word (m := ⟨45, 0⟩) (meth := k45m0) (c := k45c0) (by decide +kernel) rfl rfl rfl (by decide +kernel)
theorem w_c61 : PC 458 := code_word (m := ⟨48, 5⟩) (meth := k48m5) (c := k48c5) (by decide +kernel) rfl rfl rfl (by decide +kernel)
theorem w_c62 : PC 467 := code_word (m := ⟨48, 4⟩) (meth := k48m4) (c := k48c4) (by decide +kernel) rfl rfl rfl (by decide +kernel)
theorem w_c63 : PC 474 := code_word (m := ⟨12, 6⟩) (meth := k12m6) (c := k12c6) (by decide +kernel) rfl rfl rfl (by decide +kernel)
theorem w_c64 : PC 480 := code_word (m := ⟨13, 6⟩) (meth := k13m6) (c := k13c6) (by decide +kernel) rfl rfl rfl (by decide +kernel)
theorem w_c65 : PC 485 := code_word (m := ⟨13, 8⟩) (meth := k13m8) (c := k13c8) (by decide +kernel) rfl rfl rfl (by decide +kernel)
theorem w_c66 : PC 490 := code_word (m := ⟨12, 4⟩) (meth := k12m4) (c := k12c4) (by decide +kernel) rfl rfl rfl (by decide +kernel)
theorem w_c67 : PC 494 := code_word (m := ⟨49, 1⟩) (meth := k49m1) (c := k49c1) (by decide +kernel) rfl rfl rfl (by decide +kernel)
theorem w_c68 : PC 500 := code_word (m := ⟨49, 0⟩) (meth := k49m0) (c := k49c0) (by decide +kernel) rfl rfl rfl (by decide +kernel)
theorem w_c69 : PC 508 := code_word (m := ⟨49, 3⟩) (meth := k49m3) (c := k49c3) (by decide +kernel) rfl rfl rfl (by decide +kernel)
theorem w_c70 : PC 513 := code_word (m := ⟨49, 2⟩) (meth := k49m2) (c := k49c2) (by decide +kernel) rfl rfl rfl (by decide +kernel)
theorem w_c71 : PC 520 := code_word (m := ⟨12, 7⟩) (meth := k12m7) (c := k12c7) (by decide +kernel) rfl rfl rfl (by decide +kernel)
theorem w_c72 : PC 525 := code_word (m := ⟨13, 7⟩) (meth := k13m7) (c := k13c7) (by decide +kernel) rfl rfl rfl (by decide +kernel)
theorem w_c73 : PC 530 := code_word (m := ⟨13, 9⟩) (meth := k13m9) (c := k13c9) (by decide +kernel) rfl rfl rfl (by decide +kernel)
theorem w_c74 : PC 534 := code_word (m := ⟨12, 3⟩) (meth := k12m3) (c := k12c3) (by decide +kernel) rfl rfl rfl (by decide +kernel)
theorem w_c75 : PC 538 := code_word (m := ⟨51, 0⟩) (meth := k51m0) (c := k51c0) (by decide +kernel) rfl rfl rfl (by decide +kernel)
theorem w_c76 : PC 547 := code_word (m := ⟨49, 4⟩) (meth := k49m4) (c := k49c4) (by decide +kernel) rfl rfl rfl (by decide +kernel)
theorem w_c77 : PC 557 := code_word (m := ⟨10, 2⟩) (meth := k10m2) (c := k10c2) (by decide +kernel) rfl rfl rfl (by decide +kernel)
theorem w_c78 : PC 562 := code_word (m := ⟨10, 5⟩) (meth := k10m5) (c := k10c5) (by decide +kernel) rfl rfl rfl (by decide +kernel)
theorem w_c79 : PC 569 := code_word (m := ⟨10, 4⟩) (meth := k10m4) (c := k10c4) (by decide +kernel) rfl rfl rfl (by decide +kernel)
theorem w_c80 : PC 574 := code_word (m := ⟨10, 6⟩) (meth := k10m6) (c := k10c6) (by decide +kernel) rfl rfl rfl (by decide +kernel)
theorem w_c81 : PC 584 := code_word (m := ⟨51, 3⟩) (meth := k51m3) (c := k51c3) (by decide +kernel) rfl rfl rfl (by decide +kernel)
theorem w_c82 : PC 591 := code_word (m := ⟨51, 1⟩) (meth := k51m1) (c := k51c1) (by decide +kernel) rfl rfl rfl (by decide +kernel)
theorem w_c83 : PC 596 := code_word (m := ⟨51, 2⟩) (meth := k51m2) (c := k51c2) (by decide +kernel) rfl rfl rfl (by decide +kernel)
theorem w_c84 : PC 603 := code_word (m := ⟨54, 0⟩) (meth := k54m0) (c := k54c0) (by decide +kernel) rfl rfl rfl (by decide +kernel)
theorem w_c85 : PC 617 := code_word (m := ⟨2, 4⟩) (meth := k2m4) (c := k2c4) (by decide +kernel) rfl rfl rfl (by decide +kernel)
theorem w_c86 : PC 625 := code_word (m := ⟨10, 1⟩) (meth := k10m1) (c := k10c1) (by decide +kernel) rfl rfl rfl (by decide +kernel)
theorem w_c87 : PC 629 := code_word (m := ⟨48, 2⟩) (meth := k48m2) (c := k48c2) (by decide +kernel) rfl rfl rfl (by decide +kernel)
theorem w_c88 : PC 638 := code_word (m := ⟨48, 3⟩) (meth := k48m3) (c := k48c3) (by decide +kernel) rfl rfl rfl (by decide +kernel)
theorem w_c89 : PC 642 := code_word (m := ⟨55, 1⟩) (meth := k55m1) (c := k55c1) (by decide +kernel) rfl rfl rfl (by decide +kernel)
theorem w_c90 : PC 651 := code_word (m := ⟨55, 2⟩) (meth := k55m2) (c := k55c2) (by decide +kernel) rfl rfl rfl (by decide +kernel)
theorem w_c91 : PC 657 := code_word (m := ⟨56, 1⟩) (meth := k56m1) (c := k56c1) (by decide +kernel) rfl rfl rfl (by decide +kernel)
theorem w_c92 : PC 673 := code_word (m := ⟨2, 3⟩) (meth := k2m3) (c := k2c3) (by decide +kernel) rfl rfl rfl (by decide +kernel)
theorem w_c93 : PC 676 := code_word (m := ⟨48, 1⟩) (meth := k48m1) (c := k48c1) (by decide +kernel) rfl rfl rfl (by decide +kernel)
theorem w_c94 : PC 685 := code_word (m := ⟨48, 6⟩) (meth := k48m6) (c := k48c6) (by decide +kernel) rfl rfl rfl (by decide +kernel)
theorem w_c95 : PC 690 := code_word (m := ⟨28, 1⟩) (meth := k28m1) (c := k28c1) (by decide +kernel) rfl rfl rfl (by decide +kernel)
theorem w_c96 : PC 698 := code_word (m := ⟨10, 3⟩) (meth := k10m3) (c := k10c3) (by decide +kernel) rfl rfl rfl (by decide +kernel)
theorem w_c97 : PC 703 := code_word (m := ⟨10, 7⟩) (meth := k10m7) (c := k10c7) (by decide +kernel) rfl rfl rfl (by decide +kernel)
theorem w_c98 : PC 710 := code_word (m := ⟨13, 10⟩) (meth := k13m10) (c := k13c10) (by decide +kernel) rfl rfl rfl (by decide +kernel)
theorem w_c99 : PC 714 := code_word (m := ⟨12, 2⟩) (meth := k12m2) (c := k12c2) (by decide +kernel) rfl rfl rfl (by decide +kernel)
theorem w_c100 : PC 719 := code_word (m := ⟨13, 4⟩) (meth := k13m4) (c := k13c4) (by decide +kernel) rfl rfl rfl (by decide +kernel)
theorem w_c101 : PC 726 := code_word (m := ⟨60, 0⟩) (meth := k60m0) (c := k60c0) (by decide +kernel) rfl rfl rfl (by decide +kernel)
theorem fc {a : Nat} {l : List Nat} (h : PC a) (t : ∀ i ∈ l, PC i) : ∀ i ∈ a :: l, PC i := by
  intro i hi
  rcases List.mem_cons.mp hi with rfl | hi
  · exact h
  · exact t i hi
def cix : List Jvm.Cond -> Nat -> List Nat
  | [], _ => []
  | c :: t, n => bif isCode c then n :: cix t (n + 1) else cix t (n + 1)
theorem cix_mem : ∀ (L : List Jvm.Cond) (n j : Nat) (c : Jvm.Cond), L[j]? = some c -> isCode c = true -> n + j ∈ cix L n
  | [], _, _, _, h, _ => by simp at h
  | d :: t, n, 0, c, h, hc => by
    simp only [List.getElem?_cons_zero, Option.some.injEq] at h
    subst h
    simp [cix, hc]
  | d :: t, n, j + 1, c, h, hc => by
    simp only [List.getElem?_cons_succ] at h
    have g := cix_mem t (n + 1) j c h hc
    rw [Nat.add_right_comm, Nat.add_assoc] at g
    unfold cix
    cases isCode d
    · exact g
    · exact List.mem_cons_of_mem _ g
def ixs : List Nat := [7, 10, 13, 19, 25, 38, 50, 53, 59, 73, 76, 83, 88, 110, 136, 161, 166, 171, 175, 180, 186, 191, 198, 203, 207, 210, 215, 224, 227, 234, 237, 249, 262, 274, 292, 297, 300, 305, 311, 317, 322, 325, 332, 342, 346, 360, 366, 371, 376, 381, 386, 392, 399, 408, 414, 419, 422, 428, 434, 440, 458, 467, 474, 480, 485, 490, 494, 500, 508, 513, 520, 525, 530, 534, 538, 547, 557, 562, 569, 574, 584, 591, 596, 603, 617, 625, 629, 638, 642, 651, 657, 673, 676, 685, 690, 698, 703, 710, 714, 719, 726]
theorem cix_eq : cix tables_1 0 = ixs := by decide +kernel
theorem w_ix : ∀ i ∈ ixs, PC i := fc w_c1 <| fc w_c2 <| fc w_c3 <| fc w_c4 <| fc w_c5 <| fc w_c6 <| fc w_c7 <| fc w_c8 <| fc w_c9 <| fc w_c10 <| fc w_c11 <| fc w_c12 <| fc w_c13 <| fc w_c14 <| fc w_c15 <| fc w_c16 <| fc w_c17 <| fc w_c18 <| fc w_c19 <| fc w_c20 <| fc w_c21 <| fc w_c22 <| fc w_c23 <| fc w_c24 <| fc w_c25 <| fc w_c26 <| fc w_c27 <| fc w_c28 <| fc w_c29 <| fc w_c30 <| fc w_c31 <| fc w_c32 <| fc w_c33 <| fc w_c34 <| fc w_c35 <| fc w_c36 <| fc w_c37 <| fc w_c38 <| fc w_c39 <| fc w_c40 <| fc w_c41 <| fc w_c42 <| fc w_c43 <| fc w_c44 <| fc w_c45 <| fc w_c46 <| fc w_c47 <| fc w_c48 <| fc w_c49 <| fc w_c50 <| fc w_c51 <| fc w_c52 <| fc w_c53 <| fc w_c54 <| fc w_c55 <| fc w_c56 <| fc w_c57 <| fc w_c58 <| fc w_c59 <| fc w_c60 <| fc w_c61 <| fc w_c62 <| fc w_c63 <| fc w_c64 <| fc w_c65 <| fc w_c66 <| fc w_c67 <| fc w_c68 <| fc w_c69 <| fc w_c70 <| fc w_c71 <| fc w_c72 <| fc w_c73 <| fc w_c74 <| fc w_c75 <| fc w_c76 <| fc w_c77 <| fc w_c78 <| fc w_c79 <| fc w_c80 <| fc w_c81 <| fc w_c82 <| fc w_c83 <| fc w_c84 <| fc w_c85 <| fc w_c86 <| fc w_c87 <| fc w_c88 <| fc w_c89 <| fc w_c90 <| fc w_c91 <| fc w_c92 <| fc w_c93 <| fc w_c94 <| fc w_c95 <| fc w_c96 <| fc w_c97 <| fc w_c98 <| fc w_c99 <| fc w_c100 <| fc w_c101 <| fun _ h => nomatch h
theorem w_codes : ∀ c ∈ words1.filter isCode, c.before args0 about1 = true := by
  intro c hc
  obtain ⟨hm, hi⟩ := List.mem_filter.mp hc
  rcases List.mem_cons.mp hm with rfl | hm
  · exact w_c0
  · obtain ⟨j, hj⟩ := List.getElem?_of_mem hm
    have g := cix_mem tables_1 0 j c hj hi
    rw [cix_eq, Nat.zero_add] at g
    have h := w_ix j g
    unfold PC tw at h
    rwa [List.getD_eq_getElem?_getD, hj] at h
def tf (c : Jvm.Cond) : Bool := isCode c || c.before args0 about1
def tb (k : Nat) : Bool := ((words1.drop (24 * k)).take 24).all tf
theorem tcut (k : Nat) (h : tb k = true) (t : (words1.drop (24 * (k + 1))).all tf = true) : (words1.drop (24 * k)).all tf = true := by
  rw [← List.take_append_drop 24 (words1.drop (24 * k)), List.all_append, List.drop_drop]
  unfold tb at h
  rw [h, Bool.true_and]
  exact t
theorem w_t0 : tb 0 = true := by decide +kernel
theorem w_t1 : tb 1 = true := by decide +kernel
theorem w_t2 : tb 2 = true := by decide +kernel
theorem w_t3 : tb 3 = true := by decide +kernel
theorem w_t4 : tb 4 = true := by decide +kernel
theorem w_t5 : tb 5 = true := by decide +kernel
theorem w_t6 : tb 6 = true := by decide +kernel
theorem w_t7 : tb 7 = true := by decide +kernel
theorem w_t8 : tb 8 = true := by decide +kernel
theorem w_t9 : tb 9 = true := by decide +kernel
theorem w_t10 : tb 10 = true := by decide +kernel
theorem w_t11 : tb 11 = true := by decide +kernel
theorem w_t12 : tb 12 = true := by decide +kernel
theorem w_t13 : tb 13 = true := by decide +kernel
theorem w_t14 : tb 14 = true := by decide +kernel
theorem w_t15 : tb 15 = true := by decide +kernel
theorem w_t16 : tb 16 = true := by decide +kernel
theorem w_t17 : tb 17 = true := by decide +kernel
theorem w_t18 : tb 18 = true := by decide +kernel
theorem w_t19 : tb 19 = true := by decide +kernel
theorem w_t20 : tb 20 = true := by decide +kernel
theorem w_t21 : tb 21 = true := by decide +kernel
theorem w_t22 : tb 22 = true := by decide +kernel
theorem w_t23 : tb 23 = true := by decide +kernel
theorem w_t24 : tb 24 = true := by decide +kernel
theorem w_t25 : tb 25 = true := by decide +kernel
theorem w_t26 : tb 26 = true := by decide +kernel
theorem w_t27 : tb 27 = true := by decide +kernel
theorem w_t28 : tb 28 = true := by decide +kernel
theorem w_t29 : tb 29 = true := by decide +kernel
theorem w_t30 : tb 30 = true := by decide +kernel
theorem w_tables : (allAtoms (Jvm.Cond.code x code maxLocals ret :: tables_1)).before args0 about1 = true := by
  rw [allAtoms_all]
  show words1.all (fun c => c.before args0 about1) = true
  refine all_split ?_ w_codes
  have h : (words1.drop (24 * 0)).all tf = true := tcut 0 w_t0 <| tcut 1 w_t1 <| tcut 2 w_t2 <| tcut 3 w_t3 <| tcut 4 w_t4 <| tcut 5 w_t5 <| tcut 6 w_t6 <| tcut 7 w_t7 <| tcut 8 w_t8 <| tcut 9 w_t9 <| tcut 10 w_t10 <| tcut 11 w_t11 <| tcut 12 w_t12 <| tcut 13 w_t13 <| tcut 14 w_t14 <| tcut 15 w_t15 <| tcut 16 w_t16 <| tcut 17 w_t17 <| tcut 18 w_t18 <| tcut 19 w_t19 <| tcut 20 w_t20 <| tcut 21 w_t21 <| tcut 22 w_t22 <| tcut 23 w_t23 <| tcut 24 w_t24 <| tcut 25 w_t25 <| tcut 26 w_t26 <| tcut 27 w_t27 <| tcut 28 w_t28 <| tcut 29 w_t29 <| tcut 30 w_t30 <| (by decide +kernel)
  rw [Nat.mul_zero, List.drop_zero] at h
  exact h
theorem w_rest : rest_1_c.before args0 about1 = true := by decide +kernel
theorem w_case : (Jvm.Cond.and given_1 narrow_1).before args0 about1 = true := by decide +kernel
theorem w_consts : constsHeld consts_1 about1 := Jvm.Lit.constsHeldB_iff.mp (by decide +kernel)
theorem w_applies : (headSpec (Jvm.Cond.code x code maxLocals ret :: tables_1) room_1).applies x e0.platform about1 = true :=
  (Spec.applies_iff w_frames).mpr ⟨w_running, w_runnable, w_alone, w_named, w_hears, w_ripe, w_room, w_tables⟩
theorem atStart : AtStart classFile x code maxLocals ret World_1 tables_1 room_1 Calls_1 rest_1 Pre_1 launch0 p0 e0 about1 theMethod args0 below0 :=
  ⟨lists_1, trivial, launch0.admits_env _ _ _, launch0.least_env, fairChoices_fair.cas, fairChoices_fair.clock, w_frames, w_args, w_heap, w_applies, ⟨⟨73, k73, 11, by decide +kernel, rfl, rfl, _, rfl, rfl⟩, ⟨⟨48, k48, 12, by decide +kernel, rfl, rfl, _, rfl, rfl⟩, ⟨w_consts, trivial⟩⟩⟩, w_rest, w_case⟩
end start1
theorem witness_1 : WitnessClaimed_1 := ⟨start1.p0, start1.e0, start1.about1, start1.theMethod, start1.args0, start1.below0, start1.atStart⟩
end Jvm.Pilot.@@N@@
