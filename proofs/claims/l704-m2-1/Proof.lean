import JvmDerived
import JvmDerived.Pilot.@@N@@Statement
import JvmDerived.Pilot.@@N@@Code
set_option linter.unusedVariables false
set_option linter.unusedSimpArgs false
namespace Jvm.RoadKit
open Sem ClassFile Op Lib Bundle Jvm.Stand Jvm.Free Jvm.LawKit Jvm.Free.SB Jvm.Free.SBG
section New
variable {p : Program} {l : Launch} {e : Env} {R : Room} {s : State} {m : MethodId} {args : Array Value} {below : List Frame} {meth : Method} {c : Code} {T : State} {locs : List Loc} {cells slots : Nat}
theorem retI (X : Stand p l e R s m args below meth c T locs cells slots) (hx : p.tables.exec = Jvm.exec) {pc : Nat} {Ls : Array Slot} {z : Int32} {rest : List Value} (hret : meth.sig.returnType = some .int) (hd : decode c.code pc = .ok (.ireturn, 1)) {fs : List Frame}
    (hl : ∀ (f : JFrame) (acts : List Action), f.method = m → f.locked = none → f.entered = [] → (doReturn e (T.setTop f) acts (some (.int z))).1 = T.setFrames fs) : Steps p.tables e below (T.setTop (mkF m pc Ls (.int z :: rest))) (T.setFrames fs) := by
  have hm' : T.vm.method? m = some meth := X.method'
  have hn : narrow .int (.int z) = .int z := rfl
  show Steps p.tables e below (T.setTop { method := m, pc := pc, locals := Ls, stack := _ :: rest, locked := none }) _
  jvm_step X.here [X.here.top, hx, hd, hm', hret, hn]
  first | (intro acts; rw [hl _ acts rfl rfl rfl]) | rw [hl _ _ rfl rfl rfl]
  exact Steps.refl _
/-- from the state A the body comes to its end, and Q holds there -/
def own_G (tb : Tables) (e : Env) (below : List Frame) (Q : Outcome → State → Prop) (A : State) : Prop := ∃ s₂ o, Steps tb e below A s₂ ∧ s₂.status = .running ∧ Ended s₂ below o ∧ Q o s₂
theorem own_fs {tb : Tables} {Q : Outcome → State → Prop} {A B : State} (h : Steps tb e below A B) (g : own_G tb e below Q B) : own_G tb e below Q A := by
  obtain ⟨s₂, o, h1, r⟩ := g
  exact ⟨s₂, o, h.trans h1, r⟩
/-- what a body's contract says of its end -/
def own_P (s : State) (QQ : Option Value → Heap → List Loc → Prop) (rc rs : Nat) (o : Outcome) (U : State) : Prop := ∃ v L, o = .returned v ∧ QQ v U.heap L ∧ FrameEnd s o U L rc rs
variable {QQ : Option Value → Heap → List Loc → Prop} {rc rs : Nat} {h : Heap}
theorem own_start {tb : Tables} {g g' : JFrame} (q : g = g') (k : own_G tb e below (own_P s QQ rc rs) (T.setTop g')) : ∃ s₂ o, Steps tb e below (T.setTop g) s₂ ∧ s₂.status = .running ∧ Ended s₂ below o ∧ ∃ v L, o = .returned v ∧ QQ v s₂.heap L ∧ FrameEnd s o s₂ L rc rs := q ▸ k
theorem own_retI (X : Stand p l e R s m args below meth c T locs cells slots) (hx : p.tables.exec = Jvm.exec) {pc : Nat} {Ls : Array Slot} {z : Int32} {rest : List Value} (hret : meth.sig.returnType = some .int) (hlk : meth.locks = false) (hd : decode c.code pc = .ok (.ireturn, 1)) (hc : cells ≤ rc) (hs : slots ≤ rs) (eT : T.heap = h) (hQ : QQ (some (.int z)) h locs) :
    own_G p.tables e below (own_P s QQ rc rs) (T.setTop (mkF m pc Ls (.int z :: rest))) := by
  obtain ⟨fs, hr, hrun, hended, hW, hsame⟩ := X.leave (v := some (.int z)) (fun h => by rw [hret] at h; cases h) hlk
  exact ⟨_, _, retI X hx hret hd hr, hrun, hended, _, _, rfl, (by show QQ _ T.heap _; rw [eT]; exact hQ), ⟨_, rfl⟩, hW, hsame.mono hc hs⟩
theorem own_retN (X : Stand p l e R s m args below meth c T locs cells slots) (hx : p.tables.exec = Jvm.exec) {pc : Nat} {Ls : Array Slot} {z : Int32} {t : FieldType} {rest : List Value} (hret : meth.sig.returnType = some t) (hlk : meth.locks = false) (ht : t = .boolean ∨ t = .byte ∨ t = .char ∨ t = .short) (hd : decode c.code pc = .ok (.ireturn, 1)) (hc : cells ≤ rc) (hs : slots ≤ rs) (eT : T.heap = h) (hQ : QQ (some (.int (nar t z))) h locs) :
    own_G p.tables e below (own_P s QQ rc rs) (T.setTop (mkF m pc Ls (.int z :: rest))) := by
  obtain ⟨fs, hr, hrun, hended, hW, hsame⟩ := X.leave (v := some (.int (nar t z))) (fun h => by rw [hret] at h; cases h) hlk
  exact ⟨_, _, retN X hx hret ht hd hr, hrun, hended, _, _, rfl, (by show QQ _ T.heap _; rw [eT]; exact hQ), ⟨_, rfl⟩, hW, hsame.mono hc hs⟩
theorem own_retJ (X : Stand p l e R s m args below meth c T locs cells slots) (hx : p.tables.exec = Jvm.exec) {pc : Nat} {Ls : Array Slot} {z : Int64} {rest : List Value} (hret : meth.sig.returnType = some .long) (hlk : meth.locks = false) (hd : decode c.code pc = .ok (.lreturn, 1)) (hc : cells ≤ rc) (hs : slots ≤ rs) (eT : T.heap = h) (hQ : QQ (some (.long z)) h locs) :
    own_G p.tables e below (own_P s QQ rc rs) (T.setTop (mkF m pc Ls (.long z :: rest))) := by
  obtain ⟨fs, hr, hrun, hended, hW, hsame⟩ := X.leave (v := some (.long z)) (fun h => by rw [hret] at h; cases h) hlk
  exact ⟨_, _, retOut X hx hret rfl (Or.inr (Or.inl ⟨rfl, rfl, z, rfl⟩)) hd hr, hrun, hended, _, _, rfl, (by show QQ _ T.heap _; rw [eT]; exact hQ), ⟨_, rfl⟩, hW, hsame.mono hc hs⟩
theorem own_narR {t : FieldType} {w : Value} (hw : w.isRef = true) : narrow t w = w := by rcases ref_cases hw with rfl | ⟨a, rfl⟩ <;> cases t <;> rfl
theorem own_fitR {t : FieldType} {w : Value} (hw : w.isRef = true) (ht : t.isReference = true := by rfl) : fits t w = true := by rcases ref_cases hw with rfl | ⟨a, rfl⟩ <;> cases t <;> first | rfl | cases ht
theorem own_retA (X : Stand p l e R s m args below meth c T locs cells slots) (hx : p.tables.exec = Jvm.exec) {pc : Nat} {Ls : Array Slot} {w : Value} {t : FieldType} {rest : List Value} (hret : meth.sig.returnType = some t) (hlk : meth.locks = false) (ht : t.isReference = true) (hw : w.isRef = true) (hd : decode c.code pc = .ok (.areturn, 1)) (hc : cells ≤ rc) (hs : slots ≤ rs) (eT : T.heap = h) (hQ : QQ (some w) h locs) :
    own_G p.tables e below (own_P s QQ rc rs) (T.setTop (mkF m pc Ls (w :: rest))) := by
  obtain ⟨fs, hr, hrun, hended, hW, hsame⟩ := X.leave (v := some w) (fun h => by rw [hret] at h; cases h) hlk
  exact ⟨_, _, retOut X hx hret (own_narR hw) (Or.inr (Or.inr (Or.inr (Or.inr ⟨rfl, ht, hw⟩)))) hd hr, hrun, hended, _, _, rfl, (by show QQ _ T.heap _; rw [eT]; exact hQ), ⟨_, rfl⟩, hW, hsame.mono hc hs⟩
theorem own_retV (X : Stand p l e R s m args below meth c T locs cells slots) (hx : p.tables.exec = Jvm.exec) {pc : Nat} {Ls : Array Slot} (hret : meth.sig.returnType = none) (hlk : meth.locks = false) (hd : decode c.code pc = .ok (.return_, 1)) (hc : cells ≤ rc) (hs : slots ≤ rs) (eT : T.heap = h) (hQ : QQ none h locs) :
    own_G p.tables e below (own_P s QQ rc rs) (T.setTop (mkF m pc Ls [])) := by
  obtain ⟨fs, hr, hrun, hended, hW, hsame⟩ := X.leave (v := none) (fun _ => rfl) hlk
  exact ⟨_, _, X.returnOut hx hret hd hr, hrun, hended, _, _, rfl, (by show QQ _ T.heap _; rw [eT]; exact hQ), ⟨_, rfl⟩, hW, hsame.mono hc hs⟩
/-- the same for a body that may load String constants -/
def own_PW (Z : State) (EL : List (String × Nat)) (s : State) (QQ : Option Value → Heap → List Loc → Prop) (rc rs : Nat) (o : Outcome) (U : State) : Prop := ∃ v L, o = .returned v ∧ QQ v U.heap L ∧ CHr Z EL s.vm s.heap U.vm U.heap ∧ ReturnedEndW s o U L rc rs
variable {Z : State} {EL : List (String × Nat)} {vm0 : Vm} {h0 : Heap}
theorem own_startW {tb : Tables} {g g' : JFrame} (hh : s.heap = h0) (q : g = g') (k : own_G tb e below (own_PW Z EL s QQ rc rs) (T.setTop g')) : ∃ s₂ o, Steps tb e below (T.setTop g) s₂ ∧ s₂.status = .running ∧ Ended s₂ below o ∧ ∃ v L, o = .returned v ∧ QQ v s₂.heap L ∧ CHr Z EL s.vm s.heap s₂.vm s₂.heap ∧ ReturnedEndW s o s₂ L rc rs := q ▸ k
theorem own_monoW {o : Outcome} {U : State} {L : List Loc} {k n k' n' : Nat} (h : ReturnedEndW s o U L k n) (hk : k ≤ k') (hn : n ≤ n') : ReturnedEndW s o U L k' n' := ⟨h.1, h.2.1, h.2.2.1, h.2.2.2.mono hk hn⟩
theorem own_retVW (X : Stand p l e R (s.setVm vm0) m args below meth c T locs cells slots) (hx : p.tables.exec = Jvm.exec) {pc : Nat} {Ls : Array Slot} (hret : meth.sig.returnType = none) (hlk : meth.locks = false) (hd : decode c.code pc = .ok (.return_, 1)) (hc : cells ≤ rc) (hs : slots ≤ rs) (eT : T.heap = h) {n : Nat} (hS : s.Since vm0 n) (hn : n ≤ h.size) (hR : CHr Z EL s.vm s.heap T.vm h) (hQ : QQ none h locs) :
    own_G p.tables e below (own_PW Z EL s QQ rc rs) (T.setTop (mkF m pc Ls [])) := by
  obtain ⟨fs, hr, hrun, hended, hW⟩ := X.leaveW hS (by rw [eT]; exact hn) (v := none) (fun _ => rfl) hlk
  exact ⟨_, _, X.returnOut hx hret hd hr, hrun, hended, _, _, rfl, (by show QQ _ T.heap _; rw [eT]; exact hQ), (by show CHr Z EL s.vm s.heap T.vm T.heap; rw [eT]; exact hR), own_monoW hW hc hs⟩
theorem own_retNW (X : Stand p l e R (s.setVm vm0) m args below meth c T locs cells slots) (hx : p.tables.exec = Jvm.exec) {pc : Nat} {Ls : Array Slot} {z : Int32} {t : FieldType} {rest : List Value} (hret : meth.sig.returnType = some t) (hlk : meth.locks = false) (ht : t = .boolean ∨ t = .byte ∨ t = .char ∨ t = .short) (hd : decode c.code pc = .ok (.ireturn, 1)) (hc : cells ≤ rc) (hs : slots ≤ rs) (eT : T.heap = h) {n : Nat} (hS : s.Since vm0 n) (hn : n ≤ h.size) (hR : CHr Z EL s.vm s.heap T.vm h) (hQ : QQ (some (.int (nar t z))) h locs) :
    own_G p.tables e below (own_PW Z EL s QQ rc rs) (T.setTop (mkF m pc Ls (.int z :: rest))) := by
  obtain ⟨fs, hr, hrun, hended, hW⟩ := X.leaveW hS (by rw [eT]; exact hn) (v := some (.int (nar t z))) (fun h => by rw [hret] at h; cases h) hlk
  exact ⟨_, _, retN X hx hret ht hd hr, hrun, hended, _, _, rfl, (by show QQ _ T.heap _; rw [eT]; exact hQ), (by show CHr Z EL s.vm s.heap T.vm T.heap; rw [eT]; exact hR), own_monoW hW hc hs⟩
theorem own_retAW (X : Stand p l e R (s.setVm vm0) m args below meth c T locs cells slots) (hx : p.tables.exec = Jvm.exec) {pc : Nat} {Ls : Array Slot} {w : Value} {t : FieldType} {rest : List Value} (hret : meth.sig.returnType = some t) (hlk : meth.locks = false) (ht : t.isReference = true) (hw : w.isRef = true) (hd : decode c.code pc = .ok (.areturn, 1)) (hc : cells ≤ rc) (hs : slots ≤ rs) (eT : T.heap = h) {n : Nat} (hS : s.Since vm0 n) (hn : n ≤ h.size) (hR : CHr Z EL s.vm s.heap T.vm h) (hQ : QQ (some w) h locs) :
    own_G p.tables e below (own_PW Z EL s QQ rc rs) (T.setTop (mkF m pc Ls (w :: rest))) := by
  obtain ⟨fs, hr, hrun, hended, hW⟩ := X.leaveW hS (by rw [eT]; exact hn) (v := some w) (fun h => by rw [hret] at h; cases h) hlk
  exact ⟨_, _, retOut X hx hret (own_narR hw) (Or.inr (Or.inr (Or.inr (Or.inr ⟨rfl, ht, hw⟩)))) hd hr, hrun, hended, _, _, rfl, (by show QQ _ T.heap _; rw [eT]; exact hQ), (by show CHr Z EL s.vm s.heap T.vm T.heap; rw [eT]; exact hR), own_monoW hW hc hs⟩
theorem own_safe0 {Z : State} {EL : List (String × Nat)} {vm : Vm} {h : Heap} {x : Addr} (hal : Z.vm.Alike vm) (E : Exa Z h x "java/lang/String") (F0 : Fld Z h x "java/lang/String" "value" "[B" .null) : Safe Z EL vm h x := fun B => by
  obtain ⟨p, hp, u, a, hb, q, hqa, F, rfl | rfl⟩ := B
  · obtain ⟨cS, ⟨⟨s1, s2, s3, ⟨cv, kv, iv, s4, s4'⟩, -, s6, -, s8, -⟩, -, -⟩, -⟩ := F
    obtain ⟨kv', z4⟩ := ff_back (U := Wst Z vm h) hal s4
    have G : Fld Z h q.sa "java/lang/String" "value" "[B" (.ref q.sd) := ⟨q.sC, cv, kv', iv, q.fSV, s1, z4, s6, s2, s3, by rw [← hal.assignable]; exact s4', s8⟩
    exact Fld.ne F0 G nofun rfl
  · obtain ⟨cell, k, e1, e2, e3, -, -⟩ := E
    have e4 : h[q.sd]? = some q.SA := F.hd
    cases e4.symm.trans e1
    obtain ⟨cS, -, -, f, -⟩ := F
    have f : vm.findClass "[B" = some q.SA.cls := f
    rw [hal.findClass] at f
    obtain ⟨k1, q1, q2⟩ := Vm.findClass_spec f
    obtain ⟨k2, q3, q4⟩ := Vm.findClass_spec e2
    cases q1.symm.trans q3
    have := q2.symm.trans q4
    exact absurd this (by decide)
theorem own_nar0 : nar .boolean (0 : Int32) = (0 : Int32) := rfl
theorem own_nar1 : nar .boolean (1 : Int32) = (1 : Int32) := rfl
theorem own_nar1s : some (Value.int (nar .boolean (1 : Int32))) = some (Value.int (1 : Int32)) := rfl
end New
end Jvm.RoadKit
/- laws to paste: Road.backV, Road.eqW (cut by pick.py; bodies as the Statement names them) -/
namespace Jvm.Pilot.@@N@@
namespace StrChars
open Jvm Sem ClassFile Op Lib Jvm.Stand Jvm.Free.XT Jvm.Free.ALB Jvm.Free.JM Jvm.Free
open Jvm.Lib.Cold (StaticIs)
/-- a char array whose places are chars -/
def Ch (a : Addr) (A : Cell) (U : State) : Prop := Arr .char a A U ∧ Typed .char A
theorem Ch.mv {a : Addr} {A : Cell} {U U' : State} (h : Ch a A U) (hal : U.vm.Alike U'.vm) (hh : U'.heap = U.heap) : Ch a A U' := ⟨h.1.mv hal hh, h.2⟩
theorem Ch.keep {a : Addr} {A : Cell} {U U' : State} (h : Ch a A U) (hal : U.vm.Alike U'.vm) (hk : U'.heap[a]? = some A) : Ch a A U' := ⟨h.1.keep hal hk, h.2⟩
/-- what place i of a char[]'s cell holds -/
def cv (A : Cell) (i : Nat) : Int32 := match A.slots[i]? with | some (.int x) => x | _ => 0
theorem Ch.get {a : Addr} {A : Cell} {U : State} (h : Ch a A U) {i : Nat} (hi : i < A.slots.size) : A.slots[i]? = some (.int (cv A i)) := by
  have e := Array.getElem?_eq_getElem hi
  have f := h.2 i _ e
  unfold cv; rw [e]
  generalize A.slots[i] = v at f
  cases v <;> simp [fits] at f ⊢
/-- the byte that i2b leaves of a char -/
def lo8 (x : Int32) : Int32 := x.toInt8.toInt32
theorem fits_lo8 (y : Int32) : fits .byte (.int (lo8 y)) = true := by
  have h1 := y.toInt8.le_toInt
  have h2 := y.toInt8.toInt_lt
  simp only [lo8, fits, Bool.and_eq_true, decide_eq_true_eq, Int32.le_iff_toInt_le, Int8.toInt_toInt32, show (-128 : Int32).toInt = -128 from by decide, show (127 : Int32).toInt = 127 from by decide]
  omega
/-- A' is A but that each place j of lo .. hi - 1 holds f j -/
def Laid (A A' : Cell) (lo hi : Nat) (f : Nat → Value) : Prop := A'.cls = A.cls ∧ A'.vm = A.vm ∧ A'.slots.size = A.slots.size ∧ ∀ i, A'.slots[i]? = if lo ≤ i ∧ i < hi then some (f i) else A.slots[i]?
theorem Laid.zero (A : Cell) (lo : Nat) (f : Nat → Value) : Laid A A lo (lo + 0) f := ⟨rfl, rfl, rfl, fun i => by rw [if_neg (by omega)]⟩
theorem Laid.step {A Ak : Cell} {lo k : Nat} {f : Nat → Value} {v : Value} (h : Laid A Ak lo k f) (hlo : lo ≤ k) (hk : k < Ak.slots.size) (hv : v = f k) : Laid A (Ak.setSlot k v) lo (k + 1) f := by
  refine ⟨h.1, h.2.1, by simpa [Cell.setSlot] using h.2.2.1, fun i => ?_⟩
  by_cases e : k = i
  · subst e; rw [Cell.slots_setSlot_self v hk, if_pos (by omega), hv]
  · rw [Cell.slots_setSlot_ne v e, h.2.2.2 i]
    by_cases q : lo ≤ i ∧ i < k
    · rw [if_pos q, if_pos (by omega)]
    · rw [if_neg q, if_neg (by omega)]
def U16 : String := "java/lang/StringUTF16"
namespace Cmp5
def yN : MethodName := ⟨"java/lang/StringUTF16", "compress", "([CI[BII)I"⟩
abbrev yB : ByteArray := jdk_52_method_21_code
theorem d0 : decode yB 0 = .ok (.iconst 0, 1) := by decide +kernel
theorem d1 : decode yB 1 = .ok (.istore 5, 2) := by decide +kernel
theorem d3 : decode yB 3 = .ok (.iload 5, 2) := by decide +kernel
theorem d5 : decode yB 5 = .ok (.iload 4, 2) := by decide +kernel
theorem d7 : decode yB 7 = .ok (.if_icmp (.ge) 37, 3) := by decide +kernel
theorem d10 : decode yB 10 = .ok (.aload_n 0, 1) := by decide +kernel
theorem d11 : decode yB 11 = .ok (.iload_n 1, 1) := by decide +kernel
theorem d12 : decode yB 12 = .ok (.caload, 1) := by decide +kernel
theorem d13 : decode yB 13 = .ok (.istore 6, 2) := by decide +kernel
theorem d15 : decode yB 15 = .ok (.iload 6, 2) := by decide +kernel
theorem d17 : decode yB 17 = .ok (.sipush 255, 3) := by decide +kernel
theorem d20 : decode yB 20 = .ok (.if_icmp (.le) 6, 3) := by decide +kernel
theorem d26 : decode yB 26 = .ok (.aload_n 2, 1) := by decide +kernel
theorem d27 : decode yB 27 = .ok (.iload_n 3, 1) := by decide +kernel
theorem d28 : decode yB 28 = .ok (.iload 6, 2) := by decide +kernel
theorem d30 : decode yB 30 = .ok (.i2b, 1) := by decide +kernel
theorem d31 : decode yB 31 = .ok (.bastore, 1) := by decide +kernel
theorem d32 : decode yB 32 = .ok (.iinc 1 1, 3) := by decide +kernel
theorem d35 : decode yB 35 = .ok (.iinc 3 1, 3) := by decide +kernel
theorem d38 : decode yB 38 = .ok (.iinc 5 1, 3) := by decide +kernel
theorem d41 : decode yB 41 = .ok (.goto (-38), 3) := by decide +kernel
theorem d44 : decode yB 44 = .ok (.iload 4, 2) := by decide +kernel
theorem d46 : decode yB 46 = .ok (.ireturn, 1) := by decide +kernel
def site : List Cond := []
def tab : Cond := tabOf yN yB 7 (some .int) site
def P (b : Addr) (A : Cell) (d : Addr) (B : Cell) (o q len : Nat) (args : Array Value) (s : State) : Prop := args = #[.ref b, .int (Int32.ofNat o), .ref d, .int (Int32.ofNat q), .int (Int32.ofNat len)] ∧ Ch b A s ∧ Arr .byte d B s ∧ b ≠ d ∧ o + len ≤ A.slots.size ∧ q + len ≤ B.slots.size ∧ ∀ i, i < len → ¬ 255 < cv A (o + i)
def E (b : Addr) (A : Cell) (d : Addr) (B : Cell) (o q len : Nat) (r : Option Value) (s u : State) : Prop := r = some (.int (Int32.ofNat len)) ∧ ∃ B', Put d B' s u ∧ Laid B B' q (q + len) (fun j => Value.int (lo8 (cv A (o + (j - q)))))
/-- no char of the range above 255: len; the places written hold each char's low byte -/
theorem law (l : Launch) (b : Addr) (A : Cell) (d : Addr) (B : Cell) (o q len : Nat) : Law l yN 5 5 0 0 yB 7 (some .int) site (P b A d B o q len) (E b A d B o q len) (copyLocs d q len) 0 0 := by
  refine Law.of_walk (plainFor_of_name (by decide +kernel)) (by decide +kernel) (by decide +kernel) (by decide) (fun _ _ h => by rw [h.1]; rfl) (fun _ U U' hal hh h => ⟨h.1, h.2.1.mv hal hh, h.2.2.1.mv hal hh, h.2.2.2⟩) (fun r U U' V V' h1 hal h2 h => ⟨h.1, h.2.elim fun B' q => ⟨B', q.1.mv h1 h2, q.2⟩⟩) ?_
  intro p e s m args below meth c s₁ X0 hexec hbytes hml hret hlk hnm hown hh0 W hP
  obtain ⟨rfl, hA, hB, hne, l1, l2, hp⟩ := hP
  have c1 : Steps p.tables e below (s₁.setTop (entryFrame m #[.ref b, .int (Int32.ofNat o), .ref d, .int (Int32.ofNat q), .int (Int32.ofNat len)] 7)) (s₁.setTop (mkF m 0 #[.val (.ref b), .val (.int (Int32.ofNat o)), .val (.ref d), .val (.int (Int32.ofNat q)), .val (.int (Int32.ofNat len)), .unset, .unset] [])) := entry rfl
  have hA0 := hA.1.mv X0.warmed.alike hh0
  have hB0 := hB.mv X0.warmed.alike hh0
  have a31 := hA.1.2.2.2
  have c2 : Steps p.tables e below (s₁.setTop (entryFrame m #[.ref b, .int (Int32.ofNat o), .ref d, .int (Int32.ofNat q), .int (Int32.ofNat len)] 7)) (s₁.setTop (mkF m 3 #[.val (.ref b), .val (.int (Int32.ofNat o)), .val (.ref d), .val (.int (Int32.ofNat q)), .val (.int (Int32.ofNat len)), .val (.int 0), .unset] [])) := c1.trans (by
    refine iconstV X0.here hexec rfl 0 (hb hbytes d0) (by decide) ?_
    refine XS.istore X0.here hexec rfl (hb hbytes d1) rfl rfl ?_
    exact Steps.refl _)
  have loop : ∀ (r i : Nat), i + r = len → ∀ (z : Slot), (z = .unset ∨ ∃ w, z = .val w ∧ w.category = 1) → ∀ (Tl : State) (Bk : Cell), Stand p l e { frames := 0, locals := 0, cells := 0, slots := 0 } s m #[.ref b, .int (Int32.ofNat o), .ref d, .int (Int32.ofNat q), .int (Int32.ofNat len)] below meth c Tl ([] ++ copyLocs d q i) 0 0 → Put d Bk s₁ Tl → Laid B Bk q (q + i) (fun j => Value.int (lo8 (cv A (o + (j - q))))) →
      Steps p.tables e below (s₁.setTop (entryFrame m #[.ref b, .int (Int32.ofNat o), .ref d, .int (Int32.ofNat q), .int (Int32.ofNat len)] 7)) (Tl.setTop (mkF m 3 #[.val (.ref b), .val (.int (Int32.ofNat (o + i))), .val (.ref d), .val (.int (Int32.ofNat (q + i))), .val (.int (Int32.ofNat len)), .val (.int (Int32.ofNat i)), z] [])) → ∃ (T' : State) (B' : Cell) (z' : Slot), Stand p l e { frames := 0, locals := 0, cells := 0, slots := 0 } s m #[.ref b, .int (Int32.ofNat o), .ref d, .int (Int32.ofNat q), .int (Int32.ofNat len)] below meth c T' ([] ++ copyLocs d q len) 0 0 ∧ Put d B' s₁ T' ∧ Laid B B' q (q + len) (fun j => Value.int (lo8 (cv A (o + (j - q))))) ∧
      Steps p.tables e below (s₁.setTop (entryFrame m #[.ref b, .int (Int32.ofNat o), .ref d, .int (Int32.ofNat q), .int (Int32.ofNat len)] 7)) (T'.setTop (mkF m 3 #[.val (.ref b), .val (.int (Int32.ofNat (o + len))), .val (.ref d), .val (.int (Int32.ofNat (q + len))), .val (.int (Int32.ofNat len)), .val (.int (Int32.ofNat len)), z'] [])) := by
    intro r
    induction r with
    | zero =>
      intro i hi z hz Tl Bk Xl pl fl cl
      have hil : i = len := by omega
      rw [hil] at Xl fl cl
      exact ⟨Tl, Bk, z, Xl, pl, fl, cl⟩
    | succ r ih =>
      intro i hi z hz Tl Bk Xl pl fl cl
      have all := X0.warmed.alike.symm.trans Xl.warmed.alike
      have hAl := hA0.keep all (pl.other hne hA0.1)
      have hBk := hB0.like all pl.1 fl.1 fl.2.1 fl.2.2.1
      have hlt : q + i < Bk.slots.size := by rw [fl.2.2.1]; omega
      have c3 : Steps p.tables e below (s₁.setTop (entryFrame m #[.ref b, .int (Int32.ofNat o), .ref d, .int (Int32.ofNat q), .int (Int32.ofNat len)] 7)) (Tl.setTop (mkF m 12 #[.val (.ref b), .val (.int (Int32.ofNat (o + i))), .val (.ref d), .val (.int (Int32.ofNat (q + i))), .val (.int (Int32.ofNat len)), .val (.int (Int32.ofNat i)), z] [.int (Int32.ofNat (o + i)), .ref b])) := cl.trans (by
        refine XS.iload Xl.here hexec rfl (hb hbytes d3) rfl ?_
        refine XS.iload Xl.here hexec rfl (hb hbytes d5) rfl ?_
        refine XS.icmpNo Xl.here hexec rfl (hb hbytes d7) rfl (ii_ge_f (lt32 (by omega) (by omega))) ?_
        refine XS.aloadN Xl.here hexec rfl (hb hbytes d10) rfl rfl ?_
        refine XS.iloadN Xl.here hexec rfl (hb hbytes d11) rfl ?_
        exact Steps.refl _)
      have c4 : Steps p.tables e below (s₁.setTop (entryFrame m #[.ref b, .int (Int32.ofNat o), .ref d, .int (Int32.ofNat q), .int (Int32.ofNat len)] 7)) (Tl.setTop (mkF m 13 #[.val (.ref b), .val (.int (Int32.ofNat (o + i))), .val (.ref d), .val (.int (Int32.ofNat (q + i))), .val (.int (Int32.ofNat len)), .val (.int (Int32.ofNat i)), z] [.int (cv A (o + i))])) := c3.trans (by
        refine Xl.aget hexec hAl rfl (hA.get (i := o + i) (by omega)) rfl rfl (hb hbytes d12) ?_
        exact Steps.refl _)
      have c5 : Steps p.tables e below (s₁.setTop (entryFrame m #[.ref b, .int (Int32.ofNat o), .ref d, .int (Int32.ofNat q), .int (Int32.ofNat len)] 7)) (Tl.setTop (mkF m 15 #[.val (.ref b), .val (.int (Int32.ofNat (o + i))), .val (.ref d), .val (.int (Int32.ofNat (q + i))), .val (.int (Int32.ofNat len)), .val (.int (Int32.ofNat i)), .val (.int (cv A (o + i)))] [])) := c4.trans (by
        refine XS.istoreS Xl.here hexec rfl (hb hbytes d13) rfl rfl hz ?_
        exact Steps.refl _)
      have c6 : Steps p.tables e below (s₁.setTop (entryFrame m #[.ref b, .int (Int32.ofNat o), .ref d, .int (Int32.ofNat q), .int (Int32.ofNat len)] 7)) (Tl.setTop (mkF m 31 #[.val (.ref b), .val (.int (Int32.ofNat (o + i))), .val (.ref d), .val (.int (Int32.ofNat (q + i))), .val (.int (Int32.ofNat len)), .val (.int (Int32.ofNat i)), .val (.int (cv A (o + i)))] [.int (lo8 (cv A (o + i))), .int (Int32.ofNat (q + i)), .ref d])) := c5.trans (by
        refine XS.iload Xl.here hexec rfl (hb hbytes d15) rfl ?_
        refine sipushV Xl.here hexec rfl 255 (hb hbytes d17) (by decide) ?_
        refine XS.icmpYes Xl.here hexec rfl (pc0 := 20) rfl (hb hbytes d20) rfl (ii_le_t (hp i (by omega))) (by decide) rfl ?_
        refine XS.aloadN Xl.here hexec rfl (hb hbytes d26) rfl rfl ?_
        refine XS.iloadN Xl.here hexec rfl (hb hbytes d27) rfl ?_
        refine XS.iload Xl.here hexec rfl (hb hbytes d28) rfl ?_
        refine i2b Xl.here hexec rfl (hb hbytes d30) rfl ?_
        exact Steps.refl _)
      obtain ⟨T7, X7, p7, st7⟩ := Xl.aput hexec hBk rfl hlt rfl (fits_lo8 (cv A (o + i))) (g := (mkF m 31 #[.val (.ref b), .val (.int (Int32.ofNat (o + i))), .val (.ref d), .val (.int (Int32.ofNat (q + i))), .val (.int (Int32.ofNat len)), .val (.int (Int32.ofNat i)), .val (.int (cv A (o + i)))] [.int (lo8 (cv A (o + i))), .int (Int32.ofNat (q + i)), .ref d])) rfl (rest := []) rfl (hb hbytes d31)
      have c8 : Steps p.tables e below (s₁.setTop (entryFrame m #[.ref b, .int (Int32.ofNat o), .ref d, .int (Int32.ofNat q), .int (Int32.ofNat len)] 7)) (T7.setTop (mkF m 32 #[.val (.ref b), .val (.int (Int32.ofNat (o + i))), .val (.ref d), .val (.int (Int32.ofNat (q + i))), .val (.int (Int32.ofNat len)), .val (.int (Int32.ofNat i)), .val (.int (cv A (o + i)))] [])) := c6.trans (st7 _ (Steps.refl _))
      have c9 : Steps p.tables e below (s₁.setTop (entryFrame m #[.ref b, .int (Int32.ofNat o), .ref d, .int (Int32.ofNat q), .int (Int32.ofNat len)] 7)) (T7.setTop (mkF m 3 #[.val (.ref b), .val (.int (Int32.ofNat (o + i) + 1)), .val (.ref d), .val (.int (Int32.ofNat (q + i) + 1)), .val (.int (Int32.ofNat len)), .val (.int (Int32.ofNat i + 1)), .val (.int (cv A (o + i)))] [])) := c8.trans (by
        refine iincV X7.here hexec rfl 1 (hb hbytes d32) (by decide) rfl rfl ?_
        refine iincV X7.here hexec rfl 1 (hb hbytes d35) (by decide) rfl rfl ?_
        refine iincV X7.here hexec rfl 1 (hb hbytes d38) (by decide) rfl rfl ?_
        refine XS.goto X7.here hexec rfl (pc0 := 41) rfl (hb hbytes d41) (by decide) rfl ?_
        exact Steps.refl _)
      have c10 : Steps p.tables e below (s₁.setTop (entryFrame m #[.ref b, .int (Int32.ofNat o), .ref d, .int (Int32.ofNat q), .int (Int32.ofNat len)] 7)) (T7.setTop (mkF m 3 #[.val (.ref b), .val (.int (Int32.ofNat (o + (i + 1)))), .val (.ref d), .val (.int (Int32.ofNat (q + (i + 1)))), .val (.int (Int32.ofNat len)), .val (.int (Int32.ofNat (i + 1))), .val (.int (cv A (o + i)))] [])) := by
        have := c9
        rw [succ32, succ32, succ32] at this
        exact this
      exact ih (i + 1) (by omega) _ (Or.inr ⟨_, rfl, rfl⟩) T7 _ (by rw [copyLocs_step, ← List.append_assoc]; exact X7) (pl.trans p7) (fl.step (by omega) hlt (by simp)) c10
  obtain ⟨T9, B9, z9, X9, p9, f9, g9⟩ := loop len 0 (by omega) .unset (Or.inl rfl) s₁ B (by simpa [copyLocs] using X0) ⟨hB0.1, fun _ _ => rfl, rfl⟩ (Laid.zero _ _ _) c2
  have c11 : Steps p.tables e below (s₁.setTop (entryFrame m #[.ref b, .int (Int32.ofNat o), .ref d, .int (Int32.ofNat q), .int (Int32.ofNat len)] 7)) (T9.setTop (mkF m 46 #[.val (.ref b), .val (.int (Int32.ofNat (o + len))), .val (.ref d), .val (.int (Int32.ofNat (q + len))), .val (.int (Int32.ofNat len)), .val (.int (Int32.ofNat len)), z9] [.int (Int32.ofNat len)])) := g9.trans (by
    refine XS.iload X9.here hexec rfl (hb hbytes d3) rfl ?_
    refine XS.iload X9.here hexec rfl (hb hbytes d5) rfl ?_
    refine XS.icmpYes X9.here hexec rfl (pc0 := 7) rfl (hb hbytes d7) rfl (ii_ge_t (nlt32 (by omega) (Nat.le_refl _))) (by decide) rfl ?_
    refine XS.iload X9.here hexec rfl (hb hbytes d44) rfl ?_
    exact Steps.refl _)
  exact ⟨T9, some (.int (Int32.ofNat len)), _, _, _, X9, by simp, rfl, rfl, (fun h => by cases h), ⟨rfl, B9, p9.from hh0, f9⟩, fun fs hl => c11.trans (X9.ireturnOut hexec hret rfl (Or.inl rfl) (hb hbytes d46) hl)⟩
end Cmp5
namespace Cmp3
def yN : MethodName := ⟨"java/lang/StringUTF16", "compress", "([CII)[B"⟩
abbrev yB : ByteArray := jdk_52_method_16_code
theorem d0 : decode yB 0 = .ok (.iload_n 2, 1) := by decide +kernel
theorem d1 : decode yB 1 = .ok (.newarray .byte, 2) := by decide +kernel
theorem d3 : decode yB 3 = .ok (.astore_n 3, 1) := by decide +kernel
theorem d4 : decode yB 4 = .ok (.aload_n 0, 1) := by decide +kernel
theorem d5 : decode yB 5 = .ok (.iload_n 1, 1) := by decide +kernel
theorem d6 : decode yB 6 = .ok (.aload_n 3, 1) := by decide +kernel
theorem d7 : decode yB 7 = .ok (.iconst 0, 1) := by decide +kernel
theorem d8 : decode yB 8 = .ok (.iload_n 2, 1) := by decide +kernel
theorem d9 : decode yB 9 = .ok (.invokestatic 115, 3) := by decide +kernel
theorem d12 : decode yB 12 = .ok (.istore 4, 2) := by decide +kernel
theorem d14 : decode yB 14 = .ok (.iload 4, 2) := by decide +kernel
theorem d16 : decode yB 16 = .ok (.iload_n 2, 1) := by decide +kernel
theorem d17 : decode yB 17 = .ok (.if_icmp (.eq) 40, 3) := by decide +kernel
theorem d57 : decode yB 57 = .ok (.aload_n 3, 1) := by decide +kernel
theorem d58 : decode yB 58 = .ok (.areturn, 1) := by decide +kernel
def site : List Cond := [.arrayClass .byte, Cmp5.tab] ++ staticW U16 115 Cmp5.yN
def tab : Cond := tabOf yN yB 6 (some (.array .byte)) site
def P (b : Addr) (A : Cell) (o len : Nat) (args : Array Value) (s : State) : Prop := args = #[.ref b, .int (Int32.ofNat o), .int (Int32.ofNat len)] ∧ Ch b A s ∧ o + len ≤ A.slots.size ∧ len ≤ 536870912 ∧ ∀ i, i < len → ¬ 255 < cv A (o + i)
def E (b : Addr) (A : Cell) (o len : Nat) (r : Option Value) (s u : State) : Prop := NewArr .byte "[B" len (fun j => .int (lo8 (cv A (o + j)))) r s u ∧ u.heap.size = s.heap.size + 1
/-- no char of the range above 255: a new byte[] of their low bytes -/
theorem law (l : Launch) (b : Addr) (A : Cell) (o len : Nat) : Law l yN 3 3 1 18 yB 6 (some (.array .byte)) site (P b A o len) (E b A o len) [] 1 len := by
  refine Law.of_walk (plainFor_of_name (by decide +kernel)) (by decide +kernel) (by decide +kernel) (by decide) (fun _ _ h => by rw [h.1]; rfl) (fun _ U U' hal hh h => ⟨h.1, h.2.1.mv hal hh, h.2.2⟩) (fun r U U' V V' h1 hal h2 h => ⟨NewArr.mv r U U' V V' h1 hal h2 h.1, by rw [h1, h2]; exact h.2⟩) ?_
  intro p e s m args below meth c s₁ X0 hexec hbytes hml hret hlk hnm hown hh0 W hP
  obtain ⟨rfl, hA, l1, l2, hp⟩ := hP
  have a31 := hA.1.2.2.2
  have c1 : Steps p.tables e below (s₁.setTop (entryFrame m #[.ref b, .int (Int32.ofNat o), .int (Int32.ofNat len)] 6)) (s₁.setTop (mkF m 0 #[.val (.ref b), .val (.int (Int32.ofNat o)), .val (.int (Int32.ofNat len)), .unset, .unset, .unset] [])) := entry rfl
  have c2 : Steps p.tables e below (s₁.setTop (entryFrame m #[.ref b, .int (Int32.ofNat o), .int (Int32.ofNat len)] 6)) (s₁.setTop (mkF m 1 #[.val (.ref b), .val (.int (Int32.ofNat o)), .val (.int (Int32.ofNat len)), .unset, .unset, .unset] [.int (Int32.ofNat len)])) := c1.trans (by
    refine XS.iloadN X0.here hexec rfl (hb hbytes d0) rfl ?_
    exact Steps.refl _)
  obtain ⟨T3, B3, X3, ba3, bs3, bv3, bh3, bf3, st3⟩ := X0.anew hexec (atype := .byte) (wk W (.arrayClass .byte)) rfl (by show len * 1 ≤ _; omega) (by omega) (g := (mkF m 1 #[.val (.ref b), .val (.int (Int32.ofNat o)), .val (.int (Int32.ofNat len)), .unset, .unset, .unset] [.int (Int32.ofNat len)])) rfl (hb hbytes d1) (rest := []) rfl (Nat.le_refl _) (by show 0 + len ≤ len; omega)
  rw [hh0] at ba3 st3
  have kp3 : XT.Kept s T3 := (XT.Kept.of_eq hh0).push bh3
  have hA3 := hA.keep X3.warmed.alike (kp3 _ _ hA.1.1)
  have hne : b ≠ s.heap.size := hA.1.ne
  have c4 : Steps p.tables e below (s₁.setTop (entryFrame m #[.ref b, .int (Int32.ofNat o), .int (Int32.ofNat len)] 6)) (T3.setTop (mkF m 3 #[.val (.ref b), .val (.int (Int32.ofNat o)), .val (.int (Int32.ofNat len)), .unset, .unset, .unset] [.ref s.heap.size])) := c2.trans (st3 _ (Steps.refl _))
  have c5 : Steps p.tables e below (s₁.setTop (entryFrame m #[.ref b, .int (Int32.ofNat o), .int (Int32.ofNat len)] 6)) (T3.setTop (mkF m 9 #[.val (.ref b), .val (.int (Int32.ofNat o)), .val (.int (Int32.ofNat len)), .val (.ref s.heap.size), .unset, .unset] [.int (Int32.ofNat len), .int 0, .ref s.heap.size, .int (Int32.ofNat o), .ref b])) := c4.trans (by
    refine XS.astoreN X3.here hexec rfl (hb hbytes d3) rfl rfl rfl ?_
    refine XS.aloadN X3.here hexec rfl (hb hbytes d4) rfl rfl ?_
    refine XS.iloadN X3.here hexec rfl (hb hbytes d5) rfl ?_
    refine XS.aloadN X3.here hexec rfl (hb hbytes d6) rfl rfl ?_
    refine iconstV X3.here hexec rfl 0 (hb hbytes d7) (by decide) ?_
    refine XS.iloadN X3.here hexec rfl (hb hbytes d8) rfl ?_
    exact Steps.refl _)
  obtain ⟨v6, T6, X6, E6, g6⟩ := X3.callS hexec (Cmp5.law l b A s.heap.size B3 o 0 len) hown (wks W (staticW U16 115 Cmp5.yN)) (wk W Cmp5.tab) (W := 0) (Nat.le_of_ble_eq_true rfl) (Nat.le_of_ble_eq_true rfl) (Nat.le_refl _) (by show 0 + len + 0 ≤ len; omega) (g := (mkF m 9 #[.val (.ref b), .val (.int (Int32.ofNat o)), .val (.int (Int32.ofNat len)), .val (.ref s.heap.size), .unset, .unset] [.int (Int32.ofNat len), .int (Int32.ofNat 0), .ref s.heap.size, .int (Int32.ofNat o), .ref b])) rfl (by rw [hml]; rfl) c5 (argsL := [.ref b, .int (Int32.ofNat o), .ref s.heap.size, .int (Int32.ofNat 0), .int (Int32.ofNat len)]) (rest := []) rfl rfl (by show 2 * 0 + 0 ≤ _; decide) (hb hbytes d9) (⟨rfl, hA3, ba3, hne, l1, by rw [bs3]; simp, hp⟩)
  obtain ⟨rfl, B6, p6, f6⟩ := E6
  have c7 : Steps p.tables e below (s₁.setTop (entryFrame m #[.ref b, .int (Int32.ofNat o), .int (Int32.ofNat len)] 6)) (T6.setTop (mkF m 12 #[.val (.ref b), .val (.int (Int32.ofNat o)), .val (.int (Int32.ofNat len)), .val (.ref s.heap.size), .unset, .unset] [.int (Int32.ofNat len)])) := g6
  have c8 : Steps p.tables e below (s₁.setTop (entryFrame m #[.ref b, .int (Int32.ofNat o), .int (Int32.ofNat len)] 6)) (T6.setTop (mkF m 58 #[.val (.ref b), .val (.int (Int32.ofNat o)), .val (.int (Int32.ofNat len)), .val (.ref s.heap.size), .val (.int (Int32.ofNat len)), .unset] [.ref s.heap.size])) := c7.trans (by
    refine XS.istore X6.here hexec rfl (hb hbytes d12) rfl rfl ?_
    refine XS.iload X6.here hexec rfl (hb hbytes d14) rfl ?_
    refine XS.iloadN X6.here hexec rfl (hb hbytes d16) rfl ?_
    refine XS.icmpYes X6.here hexec rfl (pc0 := 17) rfl (hb hbytes d17) rfl (ii_eq_t rfl) (by decide) rfl ?_
    refine XS.aloadN X6.here hexec rfl (hb hbytes d57) rfl rfl ?_
    exact Steps.refl _)
  have X8 := X6.wide (L' := []) (cells' := 1) (slots' := len) (fun x hx hlt => by
    simp only [List.nil_append, copyLocs, List.mem_map, List.mem_range] at hx
    obtain ⟨i, -, rfl⟩ := hx
    exact absurd hlt (Nat.lt_irrefl _)) (Nat.le_refl _) (by omega)
  exact ⟨T6, some (.ref s.heap.size), _, _, _, X8, rfl, rfl, rfl, (fun h => by cases h), ⟨⟨rfl, B6, ba3.like (X3.warmed.alike.symm.trans X6.warmed.alike) p6.1 f6.1 f6.2.1 f6.2.2.1, f6.2.1.trans bv3, by rw [X6.warmed.alike.findClass, f6.1]; exact bf3, by rw [f6.2.2.1, bs3]; simp, fun j hj => by rw [f6.2.2.2 j, if_pos (by omega)]; rfl, kp3.put p6 (Nat.le_refl _)⟩, by rw [p6.2.2, bh3, hh0]; simp⟩, fun fs hl => c8.trans (X8.areturnOut hexec rfl hret rfl (hb hbytes d58) hl)⟩
end Cmp3
namespace CodL
def yN : MethodName := ⟨"java/lang/StringUTF16", "coderFromArrayLen", "([BI)B"⟩
abbrev yB : ByteArray := jdk_52_method_15_code
theorem d0 : decode yB 0 = .ok (.iload_n 1, 1) := by decide +kernel
theorem d1 : decode yB 1 = .ok (.aload_n 0, 1) := by decide +kernel
theorem d2 : decode yB 2 = .ok (.arraylength, 1) := by decide +kernel
theorem d3 : decode yB 3 = .ok (.isub, 1) := by decide +kernel
theorem d4 : decode yB 4 = .ok (.bipush 31, 2) := by decide +kernel
theorem d6 : decode yB 6 = .ok (.iushr, 1) := by decide +kernel
theorem d7 : decode yB 7 = .ok (.i2b, 1) := by decide +kernel
theorem d8 : decode yB 8 = .ok (.ireturn, 1) := by decide +kernel
def site : List Cond := []
def tab : Cond := tabOf yN yB 2 (some .byte) site
def P (d : Addr) (B : Cell) (args : Array Value) (s : State) : Prop := args = #[.ref d, .int (Int32.ofNat B.slots.size)] ∧ Arr .byte d B s
def E (r : Option Value) (s u : State) : Prop := XT.PureE (some (.int 0)) r s u
/-- an array as long as the number of chars: LATIN1 -/
theorem law (l : Launch) (d : Addr) (B : Cell) : Law l yN 2 2 0 0 yB 2 (some .byte) site (P d B) E [] 0 0 := by
  refine Law.of_walk (plainFor_of_name (by decide +kernel)) (by decide +kernel) (by decide +kernel) (by decide) (fun _ _ h => by rw [h.1]; rfl) (fun _ U U' hal hh h => ⟨h.1, h.2.mv hal hh⟩) (fun r U U' V V' h1 hal h2 h => XT.PureE.mv r U U' V V' h1 hal h2 h) ?_
  intro p e s m args below meth c s₁ X0 hexec hbytes hml hret hlk hnm hown hh0 W hP
  obtain ⟨rfl, hB⟩ := hP
  have hB0 := hB.mv X0.warmed.alike hh0
  have c1 : Steps p.tables e below (s₁.setTop (entryFrame m #[.ref d, .int (Int32.ofNat B.slots.size)] 2)) (s₁.setTop (mkF m 0 #[.val (.ref d), .val (.int (Int32.ofNat B.slots.size))] [])) := entry rfl
  have c2 : Steps p.tables e below (s₁.setTop (entryFrame m #[.ref d, .int (Int32.ofNat B.slots.size)] 2)) (s₁.setTop (mkF m 2 #[.val (.ref d), .val (.int (Int32.ofNat B.slots.size))] [.ref d, .int (Int32.ofNat B.slots.size)])) := c1.trans (by
    refine XS.iloadN X0.here hexec rfl (hb hbytes d0) rfl ?_
    refine XS.aloadN X0.here hexec rfl (hb hbytes d1) rfl rfl ?_
    exact Steps.refl _)
  have c3 : Steps p.tables e below (s₁.setTop (entryFrame m #[.ref d, .int (Int32.ofNat B.slots.size)] 2)) (s₁.setTop (mkF m 8 #[.val (.ref d), .val (.int (Int32.ofNat B.slots.size))] [.int (lo8 (ushr (Int32.ofNat B.slots.size - Int32.ofNat B.slots.size) 31))])) := c2.trans (by
    refine X0.alen hexec hB0 rfl rfl (hb hbytes d2) ?_
    refine XS.isub X0.here hexec rfl (hb hbytes d3) rfl ?_
    refine bipushV X0.here hexec rfl 31 (hb hbytes d4) (by decide) ?_
    refine iushr X0.here hexec rfl (hb hbytes d6) rfl ?_
    refine i2b X0.here hexec rfl (hb hbytes d7) rfl ?_
    exact Steps.refl _)
  have e0 : lo8 (ushr (Int32.ofNat B.slots.size - Int32.ofNat B.slots.size) 31) = 0 := by rw [Int32.sub_self]; decide
  rw [e0] at c3
  exact ⟨s₁, some (.int 0), _, _, _, X0, rfl, rfl, rfl, (fun h => by cases h), ⟨rfl, hh0⟩, fun fs hl => c3.trans (X0.ireturnOut hexec hret rfl (Or.inr (Or.inr (Or.inl rfl))) (hb hbytes d8) hl)⟩
end CodL
/-- the String at a is Latin-1 over a new byte[] (the heap's one new cell): the low bytes of the len chars of A from o on; every cell but a is kept -/
def Got (a : Addr) (D : Cell) (fV fC : Field) (A : Cell) (o len : Nat) (r : Option Value) (s u : State) : Prop := r = none ∧ ∃ D' V : Cell, Blank "java/lang/String" a D' u ∧ Same D D' [fV.slot, fC.slot] ∧ D'.slots[fV.slot]? = some (.ref s.heap.size) ∧ D'.slots[fC.slot]? = some (.int 0) ∧ Arr .byte s.heap.size V u ∧ V.vm = .none ∧ u.vm.findClass "[B" = some V.cls ∧ V.slots.size = len ∧ (∀ j, j < len → V.slots[j]? = some (.int (lo8 (cv A (o + j))))) ∧ (∀ (y : Addr) (c : Cell), y ≠ a → s.heap[y]? = some c → u.heap[y]? = some c) ∧ u.heap.size = s.heap.size + 1
theorem Got.mv {a : Addr} {D A : Cell} {fV fC : Field} {o len : Nat} : ∀ r (U U' V V' : State), U'.heap = U.heap → V.vm.Alike V'.vm → V'.heap = V.heap → Got a D fV fC A o len r U V → Got a D fV fC A o len r U' V' :=
  fun r U U' V V' h1 hal h2 ⟨e0, D', X, a1, a2, a3, a4, a5, a6, a7, a8, a9, a10, a11⟩ => ⟨e0, D', X, a1.mv hal h2, a2, by rw [h1]; exact a3, a4, by rw [h1]; exact a5.mv hal h2, a6, by rw [hal.findClass]; exact a7, a8, a9, by rw [h1, h2]; exact a10, by rw [h1, h2]; exact a11⟩
namespace New4
def yN : MethodName := ⟨"java/lang/String", "<init>", "([CIILjava/lang/Void;)V"⟩
abbrev yB : ByteArray := jdk_42_method_149_code
theorem d0 : decode yB 0 = .ok (.aload_n 0, 1) := by decide +kernel
theorem d1 : decode yB 1 = .ok (.invokespecial 1, 3) := by decide +kernel
theorem d4 : decode yB 4 = .ok (.iload_n 3, 1) := by decide +kernel
theorem d5 : decode yB 5 = .ok (.ifCond (.ne) 22, 3) := by decide +kernel
theorem d27 : decode yB 27 = .ok (.getstatic 38, 3) := by decide +kernel
theorem d30 : decode yB 30 = .ok (.ifCond (.eq) 28, 3) := by decide +kernel
theorem d33 : decode yB 33 = .ok (.aload_n 1, 1) := by decide +kernel
theorem d34 : decode yB 34 = .ok (.iload_n 2, 1) := by decide +kernel
theorem d35 : decode yB 35 = .ok (.iload_n 3, 1) := by decide +kernel
theorem d36 : decode yB 36 = .ok (.invokestatic 177, 3) := by decide +kernel
theorem d39 : decode yB 39 = .ok (.astore 5, 2) := by decide +kernel
theorem d41 : decode yB 41 = .ok (.aload_n 0, 1) := by decide +kernel
theorem d42 : decode yB 42 = .ok (.aload 5, 2) := by decide +kernel
theorem d44 : decode yB 44 = .ok (.iload_n 3, 1) := by decide +kernel
theorem d45 : decode yB 45 = .ok (.invokestatic 47, 3) := by decide +kernel
theorem d48 : decode yB 48 = .ok (.putfield 15, 3) := by decide +kernel
theorem d51 : decode yB 51 = .ok (.aload_n 0, 1) := by decide +kernel
theorem d52 : decode yB 52 = .ok (.aload 5, 2) := by decide +kernel
theorem d54 : decode yB 54 = .ok (.putfield 9, 3) := by decide +kernel
theorem d57 : decode yB 57 = .ok (.return_, 1) := by decide +kernel
def site : List Cond := [.fieldLink "java/lang/String" 38 "java/lang/String" "COMPACT_STRINGS" "Z", Cmp3.tab, CodL.tab, .laysFinal "java/lang/String" "java/lang/String" "value" "[B", .fieldLink "java/lang/String" 9 "java/lang/String" "value" "[B", .laysFinal "java/lang/String" "java/lang/String" "coder" "B", .fieldLink "java/lang/String" 15 "java/lang/String" "coder" "B"] ++ objW "java/lang/String" 1 ++ staticW "java/lang/String" 177 Cmp3.yN ++ staticW "java/lang/String" 47 CodL.yN
def tab : Cond := tabOf yN yB 6 none site
def P (a : Addr) (D : Cell) (fV fC : Field) (b : Addr) (A : Cell) (z : Int32) (o len : Nat) (args : Array Value) (s : State) : Prop := args = #[.ref a, .ref b, .int (Int32.ofNat o), .int (Int32.ofNat len), .null] ∧ Blank "java/lang/String" a D s ∧ Found "java/lang/String" "value" "[B" fV s ∧ Found "java/lang/String" "coder" "B" fC s ∧ Ch b A s ∧ StaticIs s "java/lang/String" "COMPACT_STRINGS" "Z" (.int z) ∧ ¬ z = 0 ∧ 0 < len ∧ o + len ≤ A.slots.size ∧ len ≤ 536870912 ∧ ∀ i, i < len → ¬ 255 < cv A (o + i)
def E (a : Addr) (D : Cell) (fV fC : Field) (A : Cell) (o len : Nat) (r : Option Value) (s u : State) : Prop := Got a D fV fC A o len r s u
/-- len > 0, no char of the range above 255: a Latin-1 String of their low bytes -/
theorem law (l : Launch) (a : Addr) (D : Cell) (fV fC : Field) (b : Addr) (A : Cell) (z : Int32) (o len : Nat) : Law l yN 5 4 2 35 yB 6 none site (P a D fV fC b A z o len) (E a D fV fC A o len) [⟨a, fC.slot⟩, ⟨a, fV.slot⟩] 1 len := by
  refine Law.of_walk (plainFor_of_name (by decide +kernel)) (by decide +kernel) (by decide +kernel) (by decide) (fun _ _ h => by rw [h.1]; rfl) (fun _ U U' hal hh h => ⟨h.1, h.2.1.mv hal hh, h.2.2.1.al hal, h.2.2.2.1.al hal, h.2.2.2.2.1.mv hal hh, h.2.2.2.2.2.1.there hal hh, h.2.2.2.2.2.2⟩) (fun r U U' V V' h1 hal h2 h => Got.mv r U U' V V' h1 hal h2 h) ?_
  intro p e s m args below meth c s₁ X0 hexec hbytes hml hret hlk hnm hown hh0 W hP
  obtain ⟨rfl, hB, f1, f2, hA, s1, hz, l0, l1, l2, hp⟩ := hP
  have a31 := hA.1.2.2.2
  have c1 : Steps p.tables e below (s₁.setTop (entryFrame m #[.ref a, .ref b, .int (Int32.ofNat o), .int (Int32.ofNat len), .null] 6)) (s₁.setTop (mkF m 0 #[.val (.ref a), .val (.ref b), .val (.int (Int32.ofNat o)), .val (.int (Int32.ofNat len)), .val .null, .unset] [])) := entry rfl
  have c2 : Steps p.tables e below (s₁.setTop (entryFrame m #[.ref a, .ref b, .int (Int32.ofNat o), .int (Int32.ofNat len), .null] 6)) (s₁.setTop (mkF m 1 #[.val (.ref a), .val (.ref b), .val (.int (Int32.ofNat o)), .val (.int (Int32.ofNat len)), .val .null, .unset] [.ref a])) := c1.trans (by
    refine XS.aloadN X0.here hexec rfl (hb hbytes d0) rfl rfl ?_
    exact Steps.refl _)
  obtain ⟨T3, X3, q3, st3⟩ := X0.oinit hexec hown (wks W (objW "java/lang/String" 1)) (g := (mkF m 1 #[.val (.ref a), .val (.ref b), .val (.int (Int32.ofNat o)), .val (.int (Int32.ofNat len)), .val .null, .unset] [.ref a])) rfl (by rw [hml]; rfl) (rest := []) rfl (hb hbytes d1) (W := 0) (by show 2 * 0 + 0 ≤ _; decide) (Nat.le_of_ble_eq_true rfl) (Nat.le_of_ble_eq_true rfl)
  have hh3 := q3.trans hh0
  have c4 : Steps p.tables e below (s₁.setTop (entryFrame m #[.ref a, .ref b, .int (Int32.ofNat o), .int (Int32.ofNat len), .null] 6)) (T3.setTop (mkF m 27 #[.val (.ref a), .val (.ref b), .val (.int (Int32.ofNat o)), .val (.int (Int32.ofNat len)), .val .null, .unset] [])) := (c2.trans (st3 _ (Steps.refl _))).trans (by
    refine XS.iloadN X3.here hexec rfl (hb hbytes d4) rfl ?_
    refine XS.ifYes X3.here hexec rfl (pc0 := 5) rfl (hb hbytes d5) rfl (i0_ne_t (nz32 (by omega) l0)) (by decide) rfl ?_
    exact Steps.refl _)
  obtain ⟨T5, X5, q5, st5⟩ := X3.sget hexec hown (wk W (.fieldLink "java/lang/String" 38 "java/lang/String" "COMPACT_STRINGS" "Z")) s1 (fun _ _ h => by rw [hh3]; exact h) (g := (mkF m 27 #[.val (.ref a), .val (.ref b), .val (.int (Int32.ofNat o)), .val (.int (Int32.ofNat len)), .val .null, .unset] [])) rfl (hb hbytes d27)
  have hh5 := q5.trans hh3
  have c6 : Steps p.tables e below (s₁.setTop (entryFrame m #[.ref a, .ref b, .int (Int32.ofNat o), .int (Int32.ofNat len), .null] 6)) (T5.setTop (mkF m 30 #[.val (.ref a), .val (.ref b), .val (.int (Int32.ofNat o)), .val (.int (Int32.ofNat len)), .val .null, .unset] [.int z])) := c4.trans (st5 _ (Steps.refl _))
  have c7 : Steps p.tables e below (s₁.setTop (entryFrame m #[.ref a, .ref b, .int (Int32.ofNat o), .int (Int32.ofNat len), .null] 6)) (T5.setTop (mkF m 36 #[.val (.ref a), .val (.ref b), .val (.int (Int32.ofNat o)), .val (.int (Int32.ofNat len)), .val .null, .unset] [.int (Int32.ofNat len), .int (Int32.ofNat o), .ref b])) := c6.trans (by
    refine XS.ifNo X5.here hexec rfl (hb hbytes d30) rfl (i0_eq_f hz) ?_
    refine XS.aloadN X5.here hexec rfl (hb hbytes d33) rfl rfl ?_
    refine XS.iloadN X5.here hexec rfl (hb hbytes d34) rfl ?_
    refine XS.iloadN X5.here hexec rfl (hb hbytes d35) rfl ?_
    exact Steps.refl _)
  obtain ⟨v8, T8, X8, E8, g8⟩ := X5.callS hexec (Cmp3.law l b A o len) hown (wks W (staticW "java/lang/String" 177 Cmp3.yN)) (wk W Cmp3.tab) (W := 0) (Nat.le_of_ble_eq_true rfl) (Nat.le_of_ble_eq_true rfl) (Nat.le_refl _) (by show 0 + len ≤ len; omega) (g := (mkF m 36 #[.val (.ref a), .val (.ref b), .val (.int (Int32.ofNat o)), .val (.int (Int32.ofNat len)), .val .null, .unset] [.int (Int32.ofNat len), .int (Int32.ofNat o), .ref b])) rfl (by rw [hml]; rfl) c7 (argsL := [.ref b, .int (Int32.ofNat o), .int (Int32.ofNat len)]) (rest := []) rfl rfl (by show 2 * 0 + 0 ≤ _; decide) (hb hbytes d36) (⟨rfl, hA.mv X5.warmed.alike hh5, l1, l2, hp⟩)
  obtain ⟨e8, z8⟩ := E8
  obtain ⟨rfl, N, n1, n2, n3, n4, n5, n6⟩ := NewArr.mv _ T5 s _ _ hh5.symm (Vm.Alike.refl _) rfl e8
  rw [hh5] at z8
  have hB1 := hB.keep X8.warmed.alike (n6 _ _ hB.1)
  have hne : s.heap.size ≠ a := (Nat.ne_of_lt (Array.getElem?_eq_some_iff.mp hB.1).1).symm
  have c9 : Steps p.tables e below (s₁.setTop (entryFrame m #[.ref a, .ref b, .int (Int32.ofNat o), .int (Int32.ofNat len), .null] 6)) (T8.setTop (mkF m 39 #[.val (.ref a), .val (.ref b), .val (.int (Int32.ofNat o)), .val (.int (Int32.ofNat len)), .val .null, .unset] [.ref s.heap.size])) := g8
  have c10 : Steps p.tables e below (s₁.setTop (entryFrame m #[.ref a, .ref b, .int (Int32.ofNat o), .int (Int32.ofNat len), .null] 6)) (T8.setTop (mkF m 45 #[.val (.ref a), .val (.ref b), .val (.int (Int32.ofNat o)), .val (.int (Int32.ofNat len)), .val .null, .val (.ref s.heap.size)] [.int (Int32.ofNat N.slots.size), .ref s.heap.size, .ref a])) := by
    have hc : Steps p.tables e below (s₁.setTop (entryFrame m #[.ref a, .ref b, .int (Int32.ofNat o), .int (Int32.ofNat len), .null] 6)) (T8.setTop (mkF m 45 #[.val (.ref a), .val (.ref b), .val (.int (Int32.ofNat o)), .val (.int (Int32.ofNat len)), .val .null, .val (.ref s.heap.size)] [.int (Int32.ofNat len), .ref s.heap.size, .ref a])) := c9.trans (by
      refine XS.astore X8.here hexec rfl (hb hbytes d39) rfl rfl rfl ?_
      refine XS.aloadN X8.here hexec rfl (hb hbytes d41) rfl rfl ?_
      refine XS.aload X8.here hexec rfl (hb hbytes d42) rfl rfl ?_
      refine XS.iloadN X8.here hexec rfl (hb hbytes d44) rfl ?_
      exact Steps.refl _)
    rw [n4]; exact hc
  obtain ⟨v11, T11, X11, E11, g11⟩ := X8.callS hexec (CodL.law l s.heap.size N) hown (wks W (staticW "java/lang/String" 47 CodL.yN)) (wk W CodL.tab) (W := 1) (Nat.le_of_ble_eq_true rfl) (Nat.le_of_ble_eq_true rfl) (Nat.le_refl _) (by show 0 + len + 0 ≤ len; omega) (g := (mkF m 45 #[.val (.ref a), .val (.ref b), .val (.int (Int32.ofNat o)), .val (.int (Int32.ofNat len)), .val .null, .val (.ref s.heap.size)] [.int (Int32.ofNat N.slots.size), .ref s.heap.size, .ref a])) rfl (by rw [hml]; rfl) c10 (argsL := [.ref s.heap.size, .int (Int32.ofNat N.slots.size)]) (rest := [.ref a]) rfl rfl (by show 2 * 0 + (1 + 0) ≤ _; decide) (hb hbytes d45) (⟨rfl, n1⟩)
  obtain ⟨rfl, q11⟩ := E11
  have hB11 := hB1.mv (X8.warmed.alike.symm.trans X11.warmed.alike) q11
  have c12 : Steps p.tables e below (s₁.setTop (entryFrame m #[.ref a, .ref b, .int (Int32.ofNat o), .int (Int32.ofNat len), .null] 6)) (T11.setTop (mkF m 48 #[.val (.ref a), .val (.ref b), .val (.int (Int32.ofNat o)), .val (.int (Int32.ofNat len)), .val .null, .val (.ref s.heap.size)] [.int 0, .ref a])) := g11
  obtain ⟨T13, X13, p13, bl13, sl13, st13⟩ := X11.finit hexec hown (wk W (.fieldLink "java/lang/String" 15 "java/lang/String" "coder" "B")) (Or.inr ⟨_, (wk W (.laysFinal "java/lang/String" "java/lang/String" "coder" "B"))⟩) (Or.inl ⟨rfl, hnm⟩) f2 (Or.inl rfl) hB11 (t := .byte) (by decide +kernel) rfl (g := (mkF m 48 #[.val (.ref a), .val (.ref b), .val (.int (Int32.ofNat o)), .val (.int (Int32.ofNat len)), .val .null, .val (.ref s.heap.size)] [.int 0, .ref a])) rfl (rest := []) rfl (hb hbytes d48)
  have c14 : Steps p.tables e below (s₁.setTop (entryFrame m #[.ref a, .ref b, .int (Int32.ofNat o), .int (Int32.ofNat len), .null] 6)) (T13.setTop (mkF m 54 #[.val (.ref a), .val (.ref b), .val (.int (Int32.ofNat o)), .val (.int (Int32.ofNat len)), .val .null, .val (.ref s.heap.size)] [.ref s.heap.size, .ref a])) := (c12.trans (st13 _ (Steps.refl _))).trans (by
    refine XS.aloadN X13.here hexec rfl (hb hbytes d51) rfl rfl ?_
    refine XS.aload X13.here hexec rfl (hb hbytes d52) rfl rfl ?_
    exact Steps.refl _)
  obtain ⟨T15, X15, p15, bl15, sl15, st15⟩ := X13.finit hexec hown (wk W (.fieldLink "java/lang/String" 9 "java/lang/String" "value" "[B")) (Or.inr ⟨_, (wk W (.laysFinal "java/lang/String" "java/lang/String" "value" "[B"))⟩) (Or.inl ⟨rfl, hnm⟩) f1 (Or.inl rfl) bl13 (t := (.array .byte)) (by decide +kernel) rfl (g := (mkF m 54 #[.val (.ref a), .val (.ref b), .val (.int (Int32.ofNat o)), .val (.int (Int32.ofNat len)), .val .null, .val (.ref s.heap.size)] [.ref s.heap.size, .ref a])) rfl (rest := []) rfl (hb hbytes d54)
  have c16 : Steps p.tables e below (s₁.setTop (entryFrame m #[.ref a, .ref b, .int (Int32.ofNat o), .int (Int32.ofNat len), .null] 6)) (T15.setTop (mkF m 57 #[.val (.ref a), .val (.ref b), .val (.int (Int32.ofNat o)), .val (.int (Int32.ofNat len)), .val .null, .val (.ref s.heap.size)] [])) := c14.trans (st15 _ (Steps.refl _))
  have ap := apart (Or.inr ⟨_, (wk W (.laysFinal "java/lang/String" "java/lang/String" "value" "[B"))⟩) (Or.inr ⟨_, (wk W (.laysFinal "java/lang/String" "java/lang/String" "coder" "B"))⟩) f1 f2 (t₁ := .array .byte) (t₂ := .byte) (by decide +kernel) (by decide +kernel) (by decide)
  have al := X8.warmed.alike.symm.trans X15.warmed.alike
  have n7 : T11.heap[s.heap.size]? = some N := by rw [q11]; exact n1.1
  exact ⟨T15, none, _, _, _, X15, by simp, rfl, by omega, (fun _ => rfl), ⟨rfl, _, N, bl15, ((Same.refl D _).set _ (by simp)).set _ (by simp), sl15, (Cell.slots_setSlot_ne _ ap).trans sl13, n1.keep al (p15.other hne (p13.other hne n7)), n2, by rw [al.findClass]; exact n3, n4, n5, fun y c h1 h2 => p15.other h1 (p13.other h1 (by rw [q11]; exact n6 y c h2)), by rw [p15.2.2, p13.2.2, q11]; exact z8⟩, fun fs hl => c16.trans (X15.returnOut hexec hret (hb hbytes d57) hl)⟩
end New4
namespace New1
def yN : MethodName := ⟨"java/lang/String", "<init>", "([C)V"⟩
abbrev yB : ByteArray := jdk_42_method_3_code
theorem d0 : decode yB 0 = .ok (.aload_n 0, 1) := by decide +kernel
theorem d1 : decode yB 1 = .ok (.aload_n 1, 1) := by decide +kernel
theorem d2 : decode yB 2 = .ok (.iconst 0, 1) := by decide +kernel
theorem d3 : decode yB 3 = .ok (.aload_n 1, 1) := by decide +kernel
theorem d4 : decode yB 4 = .ok (.arraylength, 1) := by decide +kernel
theorem d5 : decode yB 5 = .ok (.aconst_null, 1) := by decide +kernel
theorem d6 : decode yB 6 = .ok (.invokespecial 27, 3) := by decide +kernel
theorem d9 : decode yB 9 = .ok (.return_, 1) := by decide +kernel
def site : List Cond := [New4.tab] ++ initW "java/lang/String" 27 New4.yN
def tab : Cond := tabOf yN yB 2 none site
def P (a : Addr) (D : Cell) (fV fC : Field) (b : Addr) (A : Cell) (z : Int32) (args : Array Value) (s : State) : Prop := args = #[.ref a, .ref b] ∧ Blank "java/lang/String" a D s ∧ Found "java/lang/String" "value" "[B" fV s ∧ Found "java/lang/String" "coder" "B" fC s ∧ Ch b A s ∧ StaticIs s "java/lang/String" "COMPACT_STRINGS" "Z" (.int z) ∧ ¬ z = 0 ∧ 0 < A.slots.size ∧ A.slots.size ≤ 536870912 ∧ ∀ i, i < A.slots.size → ¬ 255 < cv A i
def E (a : Addr) (D : Cell) (fV fC : Field) (A : Cell) (r : Option Value) (s u : State) : Prop := Got a D fV fC A 0 A.slots.size r s u
/-- new String(chars), not empty, no char above 255: a Latin-1 String of their low bytes -/
theorem law (l : Launch) (a : Addr) (D : Cell) (fV fC : Field) (b : Addr) (A : Cell) (z : Int32) : Law l yN 2 1 3 52 yB 2 none site (P a D fV fC b A z) (E a D fV fC A) [⟨a, fC.slot⟩, ⟨a, fV.slot⟩] 1 A.slots.size := by
  refine Law.of_walk (plainFor_of_name (by decide +kernel)) (by decide +kernel) (by decide +kernel) (by decide) (fun _ _ h => by rw [h.1]; rfl) (fun _ U U' hal hh h => ⟨h.1, h.2.1.mv hal hh, h.2.2.1.al hal, h.2.2.2.1.al hal, h.2.2.2.2.1.mv hal hh, h.2.2.2.2.2.1.there hal hh, h.2.2.2.2.2.2⟩) (fun r U U' V V' h1 hal h2 h => Got.mv r U U' V V' h1 hal h2 h) ?_
  intro p e s m args below meth c s₁ X0 hexec hbytes hml hret hlk hnm hown hh0 W hP
  obtain ⟨rfl, hB, f1, f2, hA, s1, hz, l0, l2, hp⟩ := hP
  have c1 : Steps p.tables e below (s₁.setTop (entryFrame m #[.ref a, .ref b] 2)) (s₁.setTop (mkF m 0 #[.val (.ref a), .val (.ref b)] [])) := entry rfl
  have c2 : Steps p.tables e below (s₁.setTop (entryFrame m #[.ref a, .ref b] 2)) (s₁.setTop (mkF m 6 #[.val (.ref a), .val (.ref b)] [.null, .int (Int32.ofNat A.slots.size), .int 0, .ref b, .ref a])) := c1.trans (by
    refine XS.aloadN X0.here hexec rfl (hb hbytes d0) rfl rfl ?_
    refine XS.aloadN X0.here hexec rfl (hb hbytes d1) rfl rfl ?_
    refine iconstV X0.here hexec rfl 0 (hb hbytes d2) (by decide) ?_
    refine XS.aloadN X0.here hexec rfl (hb hbytes d3) rfl rfl ?_
    refine X0.alen hexec (hA.1.mv X0.warmed.alike hh0) rfl rfl (hb hbytes d4) ?_
    refine XS.aconstNull X0.here hexec rfl (hb hbytes d5) ?_
    exact Steps.refl _)
  obtain ⟨v3, T3, X3, E3, g3⟩ := X0.callN hexec (New4.law l a D fV fC b A z 0 A.slots.size) rfl hown (wks W (initW "java/lang/String" 27 New4.yN)) (W New4.tab (by simp only [site, List.mem_cons, List.mem_append, true_or, or_true])) (W := 0) (Nat.le_of_ble_eq_true rfl) (Nat.le_of_ble_eq_true rfl) (Nat.le_refl _) (by show 0 + A.slots.size ≤ A.slots.size; omega) (g := (mkF m 6 #[.val (.ref a), .val (.ref b)] [.null, .int (Int32.ofNat A.slots.size), .int (Int32.ofNat 0), .ref b, .ref a])) rfl (by rw [hml]; rfl) c2 (argsL := [.ref b, .int (Int32.ofNat 0), .int (Int32.ofNat A.slots.size), .null]) (rest := []) rfl rfl (by show 2 * 0 + 0 ≤ _; decide) (hb hbytes d6) (⟨rfl, hB.mv X0.warmed.alike hh0, f1.al X0.warmed.alike, f2.al X0.warmed.alike, hA.mv X0.warmed.alike hh0, s1.there X0.warmed.alike hh0, hz, l0, by omega, l2, fun i hi => by rw [Nat.zero_add]; exact hp i hi⟩)
  have e0 := Got.mv _ s₁ s _ _ hh0.symm (Vm.Alike.refl _) rfl E3
  obtain rfl := e0.1
  have c4 : Steps p.tables e below (s₁.setTop (entryFrame m #[.ref a, .ref b] 2)) (T3.setTop (mkF m 9 #[.val (.ref a), .val (.ref b)] [])) := g3
  exact ⟨T3, none, _, _, _, X3, by simp, rfl, by omega, (fun _ => rfl), e0, fun fs hl => c4.trans (X3.returnOut hexec hret (hb hbytes d9) hl)⟩
theorem pays {l : Launch} {R : Room} {p : Program} {e : Env} {below : List Frame} {s : State} {sargs : Array Value} {len W : Nat} (a : Addr) (D : Cell) (fV fC : Field) (b : Addr) (A : Cell) (z : Int32) (htab : tab.before sargs s = true) (hfr : 4 ≤ R.frames) (hlo : W + 65 ≤ R.locals) :
    Back l R p e below s sargs yN len W (fun A₁ a₁ => A₁.cells + 1 ≤ R.cells ∧ A₁.slots + A.slots.size ≤ R.slots ∧ P a D fV fC b A z a₁ A₁.U) (fun A₁ _ v₁ B₁ => E a D fV fC A v₁ A₁.U B₁.U ∧ B₁.locs = A₁.locs ++ [⟨a, fC.slot⟩, ⟨a, fV.slot⟩] ∧ B₁.cells = A₁.cells + 1 ∧ B₁.slots = A₁.slots + A.slots.size) :=
  (law l a D fV fC b A z).pays htab hfr (by omega)
end New1
/-- the byte, read back as charAt reads it, is the char -/
theorem lo8_mask {x : Int32} (h0 : ¬ x < 0) (h1 : ¬ 255 < x) : lo8 x &&& 255 = x := by
  have t : ∀ k : Fin 256, lo8 (Int32.ofNat k.val) &&& 255 = Int32.ofNat k.val := by decide +kernel
  rw [Int32.lt_iff_toInt_lt] at h0 h1
  have e0 : (0 : Int32).toInt = 0 := rfl
  have e1 : (255 : Int32).toInt = 255 := rfl
  obtain ⟨k, hk⟩ : ∃ k : Nat, x.toInt = k := ⟨x.toInt.toNat, by omega⟩
  have hx : x = Int32.ofNat k := Int32.toInt_inj.mp (by rw [hk, Int32.toInt_ofNat_small (by omega)])
  rw [hx]
  exact t ⟨k, by omega⟩
end StrChars
namespace StrChars.Road
open Jvm Sem ClassFile Op Lib Jvm.Stand Jvm.Free Jvm.Free.XT
open Jvm.Lib.Cold (StaticIs)
abbrev ST : String := "java/lang/String"
/-- every table word that New1's law asks, flat -/
abbrev words : List Jvm.Cond := [.code New1.yN New1.yB 2 none, .initialized ST, .methodLink ST 27 New4.yN, .instanceMethod New4.yN,
  .code New4.yN New4.yB 6 none, .fieldLink ST 38 ST "COMPACT_STRINGS" "Z", .laysFinal ST ST "value" "[B", .fieldLink ST 9 ST "value" "[B", .laysFinal ST ST "coder" "B", .fieldLink ST 15 ST "coder" "B",
  .methodLink ST 1 Lib.objectInit, .instanceMethod Lib.objectInit, .code Lib.objectInit ⟨#[0xb1]⟩ 1 none, .methodLink ST 177 Cmp3.yN, .static Cmp3.yN, .methodLink ST 47 CodL.yN, .static CodL.yN,
  .code Cmp3.yN Cmp3.yB 6 (some (.array .byte)), .initialized U16, .arrayClass .byte, .methodLink U16 115 Cmp5.yN, .static Cmp5.yN, .code Cmp5.yN Cmp5.yB 7 (some .int), .code CodL.yN CodL.yB 2 (some .byte)]
theorem tab_of {a : Array Value} {s : State} (h : ∀ w ∈ words, w.before a s = true) : New1.tab.before a s = true := by
  have h5 : Cmp5.tab.before a s = true := unparts (wk h (.code Cmp5.yN Cmp5.yB 7 (some .int))) (wks h (.initialized Cmp5.yN.cls :: Cmp5.site))
  have hc : CodL.tab.before a s = true := unparts (wk h (.code CodL.yN CodL.yB 2 (some .byte))) (wks h (.initialized CodL.yN.cls :: CodL.site))
  have q5 : ∀ w ∈ Cmp5.tab :: words, w.before a s = true := fun w hw => (List.mem_cons.mp hw).elim (fun e => e ▸ h5) (h w)
  have h3 : Cmp3.tab.before a s = true := unparts (wk q5 (.code Cmp3.yN Cmp3.yB 6 (some (.array .byte)))) (wks q5 (.initialized Cmp3.yN.cls :: Cmp3.site))
  have q3 : ∀ w ∈ Cmp3.tab :: CodL.tab :: words, w.before a s = true := fun w hw => (List.mem_cons.mp hw).elim (fun e => e ▸ h3) fun hw => (List.mem_cons.mp hw).elim (fun e => e ▸ hc) (h w)
  have h4 : New4.tab.before a s = true := unparts (wk q3 (.code New4.yN New4.yB 6 none)) (wks q3 (.initialized New4.yN.cls :: New4.site))
  have q4 : ∀ w ∈ New4.tab :: words, w.before a s = true := fun w hw => (List.mem_cons.mp hw).elim (fun e => e ▸ h4) (h w)
  exact unparts (wk q4 (.code New1.yN New1.yB 2 none)) (wks q4 (.initialized New1.yN.cls :: New1.site))
/-- the words ride from the start Z to the walk's own state -/
theorem moved {Z s : State} {a0 args : Array Value} (hZ : Z.Warmed39 s.vm) (hw : ∀ d ∈ words, d.before a0 Z = true) : ∀ d ∈ words, d.before args s = true := fun d hd => by
  have q := hw d hd
  have t : ∀ d ∈ words, d = .arrayClass .byte ∨ (d.onTables && d.keepsFace) = true := by decide +kernel
  rcases t d hd with rfl | t
  · exact RoadKit.mvA hZ q
  · exact RoadKit.mv hZ q t
/-- WHAT COMES BACK, over the tables of the start Z: h the heap at the call, h' behind it -/
def Q (Z : State) (x : Addr) (A : Cell) (h : Heap) (v : Option Value) (h' : Heap) (L : List Loc) : Prop := v = none ∧ (∀ y ∈ L, y.base = x) ∧ RoadKit.Keep h h' [x] ∧ h'.size = h.size + 1 ∧ RoadKit.Exa Z h' x ST ∧ RoadKit.Fld Z h' x ST "value" "[B" (.ref h.size) ∧ RoadKit.Fld Z h' x ST "coder" "B" (.int 0) ∧
  (∃ V : Cell, RoadKit.Arr Z h' h.size V .byte ∧ V.vm = .none ∧ Z.vm.findClass "[B" = some V.cls ∧ V.slots.size = A.slots.size ∧ ∀ j, j < A.slots.size → V.slots[j]? = some (.int (lo8 (cv A j)))) ∧
  ∀ (O n d : String) (w : Value), RoadKit.Fld Z h x O n d w → RoadKit.slotOf Z O n d ≠ RoadKit.slotOf Z ST "value" "[B" → RoadKit.slotOf Z O n d ≠ RoadKit.slotOf Z ST "coder" "B" → RoadKit.Fld Z h' x O n d w
/-- **new String(chars) AT A CALL, IN THE ROAD'S FORM**: for specialBack behind newO: x the fresh String, b the char[] with the cell A -/
theorem back {p : Program} {l : Launch} {e : Env} {R : Room} {s : State} {args : Array Value} {below : List Frame} {len W : Nat} {Z : State} {a0 : Array Value} {h : Heap} (hZ : Z.Warmed39 s.vm) (hw : ∀ d ∈ words, d.before a0 Z = true) {kI : Nat} (wi : (Jvm.Cond.instantiable ST kI).before a0 Z = true)
    {x b : Addr} {A : Cell} {z : Int32} {v0 c0 : Value} (E : RoadKit.Exa Z h x ST) (V : RoadKit.Fld Z h x ST "value" "[B" v0) (C : RoadKit.Fld Z h x ST "coder" "B" c0) (K : RoadKit.Arr Z h b A .char) (hty : Typed .char A) (S : RoadKit.Sta Z h ST "COMPACT_STRINGS" "Z" (.int z)) (hz : ¬ z = 0)
    (l0 : 0 < A.slots.size) (l2 : A.slots.size ≤ 536870912) (hp : ∀ i, i < A.slots.size → ¬ 255 < cv A i) (hfr : 4 ≤ R.frames) (hlo : W + 65 ≤ R.locals) :
    Back l R p e below s args New1.yN len W (fun P a => a = #[.ref x, .ref b] ∧ P.U.heap = h ∧ P.cells + 1 ≤ R.cells ∧ P.slots + A.slots.size ≤ R.slots)
      (fun P _ v B => ∃ L, Q Z x A h v B.U.heap L ∧ B.locs = P.locs ++ L ∧ B.cells = P.cells + 1 ∧ B.slots = P.slots + A.slots.size) := by
  intro m meth c P g ig mk a X hg hsize hdg hW hn hp'
  obtain ⟨rfl, rfl, r1, r2⟩ := hp'
  have al : Z.vm.Alike P.U.vm := hZ.alike.trans X.warmed.alike
  obtain ⟨D, cfV, kV, iV, fV, hD, gV, stV, knV, obV, asV, slV⟩ := id V
  obtain ⟨D', cfC, kC, iC, fC, hD', gC, stC, -, -, asC, slC⟩ := id C
  cases hD.symm.trans hD'
  obtain ⟨D2, kD, e1, e2, e3, e4, e5⟩ := id E
  cases hD.symm.trans e1
  obtain ⟨c2, k2, i1, i2, i3, -⟩ := Cond.instantiable_spec wi
  cases e2.symm.trans i1
  cases e3.symm.trans i2
  obtain ⟨kU, u1, u2⟩ := al.2.2 _ _ e3
  have hB : Blank ST x D P.U := ⟨hD, ⟨knV, fun q hq => by rw [hq] at obV; cases obV⟩, by rw [al.findClass]; exact e2, kU, u1, by rw [u2]; exact i3, by rw [u2]; exact e5 i3⟩
  have F1 : Found ST "value" "[B" fV P.U := ⟨SBG.found_only al ⟨cfV, kV, iV, gV⟩, stV⟩
  have F2 : Found ST "coder" "B" fC P.U := ⟨SBG.found_only al ⟨cfC, kC, iC, gC⟩, stC⟩
  have hA : Ch b A P.U := ⟨⟨K.1, State.isArrayOf_alike al K.2.1, K.2.2, by omega⟩, hty⟩
  have hS : StaticIs P.U ST "COMPACT_STRINGS" "Z" (.int z) := by
    obtain ⟨cfS, iS, kS, fS, st, cS, t1, t2, t3, t4, t5, t6, t7⟩ := S
    exact StaticIs.there (s := { Z with heap := P.U.heap }) ⟨cfS, iS, kS, fS, st, cS, t1, t2, t3, t4, t5, (fun q => by rw [q] at t6; cases t6), t7⟩ al rfl
  obtain ⟨v, B, X', ⟨⟨hv, E', V', q1, q2, q3, q4, q5, q6, q7, q8, q9, q10, q11⟩, hl, hc, hs⟩, st⟩ := New1.pays x D fV fC b A z (tab_of (moved hZ hw)) hfr hlo m meth c P g ig mk _ X hg hsize hdg hW hn ⟨r1, r2, rfl, hB, F1, F2, hA, hS, hz, l0, l2, hp⟩
  have al' : Z.vm.Alike B.U.vm := hZ.alike.trans X'.warmed.alike
  have hsz : E'.slots.size = D.slots.size := by
    obtain ⟨-, -, -, kB, w1, w2, w3⟩ := q1
    obtain ⟨kB', y1, y2⟩ := al'.2.2 _ _ e3
    rw [q2.2.1] at w1
    cases w1.symm.trans y1
    rw [w3, e5 i3, y2]
  refine ⟨v, B, X', ⟨_, ⟨hv, ?_, ⟨by omega, fun y cy hy hn' => q10 y cy (by simpa using hn') hy, fun y cy hy => ?_⟩, q11, ⟨E', _, q1.1, by rw [q2.2.1]; exact e2, by rw [q2.2.1]; exact e3, by rw [q2.1]; exact obV, fun _ => by rw [hsz]; exact e5 i3⟩,
    ⟨E', cfV, kV, iV, fV, q1.1, gV, stV, by rw [q2.1]; exact knV, by rw [q2.1]; exact obV, by rw [q2.2.1]; exact asV, q3⟩, ⟨E', cfC, kC, iC, fC, q1.1, gC, stC, by rw [q2.1]; exact knV, by rw [q2.1]; exact obV, by rw [q2.2.1]; exact asC, q4⟩,
    ⟨V', ⟨q5.1, State.isArrayOf_alike al'.symm q5.2.1, q5.2.2.1⟩, q6, by rw [← al'.findClass]; exact q7, q8, fun j hj => by have := q9 j hj; rwa [Nat.zero_add] at this⟩, fun O n d w F n1 n2 => ?_⟩, hl, hc, hs⟩, st⟩
  · intro y hy
    simp only [List.mem_cons, List.not_mem_nil, or_false] at hy
    rcases hy with rfl | rfl <;> rfl
  · by_cases q : y = x
    · subst q
      cases hD.symm.trans hy
      exact ⟨E', q1.1, q2.2.1, q2.1, hsz⟩
    · exact ⟨cy, q10 y cy q hy, rfl, rfl, rfl⟩
  · obtain ⟨D3, cf, k, i, f, g1, g2, g3, g4, g5, g6, g7⟩ := F
    cases hD.symm.trans g1
    simp only [RoadKit.slotOf, g2, gV, gC, Option.map_some, Option.getD_some] at n1 n2
    exact ⟨E', cf, k, i, f, q1.1, g2, g3, by rw [q2.1]; exact g4, by rw [q2.1]; exact g5, by rw [q2.2.1]; exact g6, by rw [q2.2.2 f.slot (by simp [n1, n2])]; exact g7⟩
end StrChars.Road
namespace StrChars.Road
open Jvm Sem ClassFile Op Lib Jvm.Stand Jvm.Free Jvm.Free.XT
/-- WHAT COMES BACK, the byte[] as a list of values -/
def QA (Z : State) (x : Addr) (zn : Int32) (cs : List Int32) (h : Heap) (v : Option Value) (h' : Heap) (L : List Loc) : Prop := v = none ∧ (∀ y ∈ L, y.base = x) ∧ RoadKit.Keep h h' [x] ∧ h'.size = h.size + 1 ∧ RoadKit.Exa Z h' x ST ∧ RoadKit.Fld Z h' x ST "value" "[B" (.ref h.size) ∧ RoadKit.Fld Z h' x ST "coder" "B" (.int 0) ∧
  (∃ kb, Z.vm.findClass "[B" = some kb ∧ RoadKit.Arv Z h' h.size kb .byte zn (cs.map fun c => .int (lo8 c)) (.int 0)) ∧
  ∀ (O n d : String) (w : Value), RoadKit.Fld Z h x O n d w → RoadKit.slotOf Z O n d ≠ RoadKit.slotOf Z ST "value" "[B" → RoadKit.slotOf Z O n d ≠ RoadKit.slotOf Z ST "coder" "B" → RoadKit.Fld Z h' x O n d w
/-- **new String(chars) AT A CALL, THE ARRAYS AS LISTS**: the char[] at b holds cs, not empty, no char above 255 -/
theorem backArv {p : Program} {l : Launch} {e : Env} {R : Room} {s : State} {args : Array Value} {below : List Frame} {len W : Nat} {Z : State} {a0 : Array Value} {h : Heap} (hZ : Z.Warmed39 s.vm) (hw : ∀ d ∈ words, d.before a0 Z = true) {kI : Nat} (wi : (Jvm.Cond.instantiable ST kI).before a0 Z = true)
    {x b : Addr} {k : ClassId} {zn z : Int32} {cs : List Int32} {dv v0 c0 : Value} (E : RoadKit.Exa Z h x ST) (V : RoadKit.Fld Z h x ST "value" "[B" v0) (C : RoadKit.Fld Z h x ST "coder" "B" c0) (K : RoadKit.Arv Z h b k .char zn (cs.map Value.int) dv) (S : RoadKit.Sta Z h ST "COMPACT_STRINGS" "Z" (.int z)) (hz : ¬ z = 0)
    (hlen : zn.toNatClampNeg = cs.length) (h0 : 0 < cs.length) (hbig : cs.length ≤ 536870912) (hall : ∀ c ∈ cs, ¬ 255 < c) (hfr : 4 ≤ R.frames) (hlo : W + 65 ≤ R.locals) :
    Back l R p e below s args New1.yN len W (fun P a => a = #[.ref x, .ref b] ∧ P.U.heap = h ∧ P.cells + 1 ≤ R.cells ∧ P.slots + cs.length ≤ R.slots)
      (fun P _ v B => ∃ L, QA Z x zn cs h v B.U.heap L ∧ B.locs = P.locs ++ L ∧ B.cells = P.cells + 1 ∧ B.slots = P.slots + cs.length) := by
  obtain ⟨A, K1, K2, K3, K4, K5, K6⟩ := K
  have e : A.slots.size = cs.length := K3.trans hlen
  have hat : ∀ (i : Nat) (hi : i < cs.length), A.slots[i]? = some (.int cs[i]) := fun i hi => by rw [K5 i (by omega)]; simp [List.getD_eq_getElem?_getD, hi]
  have hcv : ∀ (i : Nat) (hi : i < cs.length), cv A i = cs[i] := fun i hi => by unfold cv; rw [hat i hi]
  have hty : Typed .char A := fun i v hv => by
    have hi : i < A.slots.size := (Array.getElem?_eq_some_iff.mp hv).1
    have q := K5 i hi
    rw [hv] at q
    rw [Option.some.inj q]
    exact K6 i hi
  refine Back.mono (back hZ hw wi E V C K1 hty S hz (by omega) (by omega) (fun i hi => by rw [hcv i (by omega)]; exact hall _ (List.getElem_mem _)) hfr hlo) (fun P a hp => ⟨hp.1, hp.2.1, hp.2.2.1, by rw [e]; exact hp.2.2.2⟩) (fun P a v B hp hq => ?_)
  obtain ⟨L, ⟨q1, q2, q3, q4, q5, q6, q7, ⟨V', v1, v2, v3, v4, v5⟩, q9⟩, hl, hc, hs⟩ := hq
  refine ⟨L, ⟨q1, q2, q3, q4, q5, q6, q7, ⟨V'.cls, v3, V', v1, rfl, by rw [v4, e, hlen], K4, fun i hi => ?_, fun i hi => ?_⟩, q9⟩, hl, hc, by rw [hs, e]⟩
  · have hi' : i < cs.length := by omega
    rw [v5 i (by omega), hcv i hi']; simp [List.getD_eq_getElem?_getD, hi']
  · have hi' : i < cs.length := by omega
    simp only [List.getD_eq_getElem?_getD, List.getElem?_map, List.getElem?_eq_getElem hi', Option.map_some, Option.getD_some]
    exact fits_lo8 _
end StrChars.Road
namespace StrChars.Road
open Jvm Sem ClassFile Op Lib Jvm.Stand Jvm.Free Jvm.Free.XT
/-- WHAT COMES BACK, in the writer's own shape -/
def QV (Z : State) (x : Addr) (N : Int32) (bs : List Int32) (h : Heap) (n0 : Nat) (v : Option Value) (h' : Heap) (L : List Loc) : Prop := v = none ∧ RoadKit.Fr n0 L ∧ RoadKit.Keep h h' [x] ∧ RoadKit.Exa Z h' x ST ∧ RoadKit.Fld Z h' x ST "coder" "B" (.int 0) ∧
  ∃ (t : Addr) (kb : ClassId), n0 ≤ t ∧ h.size ≤ t ∧ ¬ t = x ∧ RoadKit.Fld Z h' x ST "value" "[B" (.ref t) ∧ RoadKit.Arv Z h' t kb .byte N (bs.map Value.int) (.int 0)
/-- **new String(chars) AT A CALL, FOR THE WRITER**: a char[] of n known ints, each 0 to 255 -/
theorem backV {p : Program} {l : Launch} {e : Env} {R : Room} {s : State} {args : Array Value} {below : List Frame} {len W : Nat} {Z : State} {a0 : Array Value} {h : Heap} (hZ : Z.Warmed39 s.vm) (hw : ∀ d ∈ words, d.before a0 Z = true) {kI : Nat} (wi : (Jvm.Cond.instantiable ST kI).before a0 Z = true)
    {x b : Addr} {kC : ClassId} {cs bs : List Int32} {d v0 c0 : Value} {z N : Int32} {n n0 : Nat} (hx0 : n0 ≤ x) (hh0 : n0 ≤ h.size) (E : RoadKit.Exa Z h x ST) (V : RoadKit.Fld Z h x ST "value" "[B" v0) (C : RoadKit.Fld Z h x ST "coder" "B" c0) (K : RoadKit.Arv Z h b kC .char N (cs.map Value.int) d) (S : RoadKit.Sta Z h ST "COMPACT_STRINGS" "Z" (.int z)) (hz : ¬ z = 0)
    (hn : cs.length = n) (hN : N = Int32.ofNat n) (l0 : 0 < n) (l2 : n ≤ 4000) (hp : ∀ c ∈ cs, ¬ c < 0 ∧ ¬ (255 : Int32) < c) (hb : bs = cs.map (fun c => c.toInt8.toInt32)) (hfr : 4 ≤ R.frames) (hlo : W + 65 ≤ R.locals) :
    Back l R p e below s args (⟨"java/lang/String", "<init>", "([C)V"⟩ : MethodName) len W (fun P a => a = #[.ref x, .ref b] ∧ P.U.heap = h ∧ P.cells + 1 ≤ R.cells ∧ P.slots + n ≤ R.slots)
      (fun P _ v B => ∃ L, QV Z x N bs h n0 v B.U.heap L ∧ B.locs = P.locs ++ L ∧ B.cells = P.cells + 1 ∧ B.slots = P.slots + n) := by
  subst hn hN hb
  refine Back.mono (backArv hZ hw wi E V C K S hz (n32 (by omega)) l0 (by omega) (fun c hc => (hp c hc).2) hfr hlo) (fun P a hp => hp) (fun P a v B hp hq => ?_)
  obtain ⟨L, ⟨q1, q2, q3, q4, q5, q6, q7, ⟨kb, v1, v2⟩, q9⟩, hl, hc, hs⟩ := hq
  exact ⟨L, ⟨q1, fun y hy => by rw [q2 y hy]; exact hx0, q3, q5, q7, h.size, kb, hh0, Nat.le_refl _, Nat.ne_of_gt E.lt, q6, by rw [List.map_map]; exact v2⟩, hl, hc, hs⟩
end StrChars.Road
namespace StrChars
open Jvm Sem ClassFile Op Lib Jvm.Stand Jvm.Free.XT Jvm.Free.ALB Jvm.Free.JM Jvm.Free
open Jvm.Lib.Cold (StaticIs)
def hi8 (x : Int32) : Int32 := lo8 (x >>> ((8 : Int32) &&& 31))
/-- what StringUTF16.getChar makes of two bytes -/
def pairCh (u v : Int32) : Int32 := (((u &&& 255) <<< ((0 : Int32) &&& 31)) ||| ((v &&& 255) <<< ((8 : Int32) &&& 31))).toUInt32.toUInt16.toUInt32.toInt32
theorem lo8_and (x : Int32) : (lo8 x &&& 255).toBitVec.toNat = x.toBitVec.toNat % 256 := by
  have h : (lo8 x).toBitVec = (x.toBitVec.signExtend 8).signExtend 32 := by rw [lo8, Int8.toBitVec_toInt32, Int32.toBitVec_toInt8]
  rw [Int32.toBitVec_and, BitVec.toNat_and, h]
  have e : ((x.toBitVec.signExtend 8).signExtend 32).toNat % 256 = x.toBitVec.toNat % 256 := by
    rw [BitVec.toNat_signExtend]
    have hlt := x.toBitVec.isLt
    simp only [BitVec.toNat_setWidth, BitVec.toNat_signExtend]
    split <;> split <;> omega
  rw [← e]
  exact Nat.and_two_pow_sub_one_eq_mod _ 8
theorem pair_says {c : Int32} (h0 : ¬ c < 0) (h1 : ¬ 65535 < c) : pairCh (lo8 c) (hi8 c) = c := by
  rw [Int32.lt_iff_toInt_lt] at h0 h1
  have e0 : (0 : Int32).toInt = 0 := rfl
  have e1 : (65535 : Int32).toInt = 65535 := rfl
  have hc : c.toInt = c.toBitVec.toNat := by
    have := c.toBitVec.isLt
    have e : c.toInt = c.toBitVec.toInt := rfl
    rw [e] at h0 h1
    rw [e]
    rw [BitVec.toInt_eq_toNat_cond] at h0 h1 ⊢
    split at h0 <;> split <;> omega
  have hn : c.toBitVec.toNat < 65536 := by omega
  have a1 := lo8_and c
  have a2 : (hi8 c &&& 255).toBitVec.toNat = c.toBitVec.toNat / 256 := by
    rw [hi8, lo8_and]
    have e : ((8 : Int32) &&& 31) = 8 := by decide
    rw [e, Int32.toBitVec_shiftRight]
    have e2 : ((8 : Int32).toBitVec.smod 32) = 8#32 := by decide
    rw [e2, BitVec.sshiftRight_eq', BitVec.toNat_sshiftRight_of_msb_false (by rw [BitVec.msb_eq_false_iff_two_mul_lt]; omega)]
    show c.toBitVec.toNat >>> 8 % 256 = _
    rw [Nat.shiftRight_eq_div_pow]
    omega
  unfold pairCh
  apply Int32.toBitVec_inj.mp
  apply BitVec.eq_of_toNat_eq
  have f0 : ((0 : Int32) &&& 31) = 0 := by decide
  have f8 : ((8 : Int32) &&& 31) = 8 := by decide
  rw [f0, f8]
  have g : (((lo8 c &&& 255) <<< (0 : Int32)) ||| ((hi8 c &&& 255) <<< (8 : Int32))).toBitVec.toNat = c.toBitVec.toNat := by
    rw [Int32.toBitVec_or, Int32.toBitVec_shiftLeft, Int32.toBitVec_shiftLeft]
    have s0 : ((0 : Int32).toBitVec.smod 32) = 0#32 := by decide
    have s8 : ((8 : Int32).toBitVec.smod 32) = 8#32 := by decide
    rw [s0, s8, BitVec.toNat_or]
    simp only [BitVec.shiftLeft_eq', BitVec.toNat_shiftLeft, a1, a2]
    show (c.toBitVec.toNat % 256) <<< 0 % 2 ^ 32 ||| (c.toBitVec.toNat / 256) <<< 8 % 2 ^ 32 = _
    rw [Nat.shiftLeft_zero, Nat.mod_eq_of_lt (show c.toBitVec.toNat % 256 < 2 ^ 32 by omega), Nat.mod_eq_of_lt (show (c.toBitVec.toNat / 256) <<< 8 < 2 ^ 32 by rw [Nat.shiftLeft_eq]; omega), Nat.or_comm, ← Nat.shiftLeft_add_eq_or_of_lt (by omega), Nat.shiftLeft_eq]
    omega
  show BitVec.toNat (((((lo8 c &&& 255) <<< (0 : Int32)) ||| ((hi8 c &&& 255) <<< (8 : Int32))).toBitVec.setWidth 16).setWidth 32) = _
  rw [BitVec.toNat_setWidth, BitVec.toNat_setWidth, g]
  omega
end StrChars
namespace StrChars
open Jvm Sem ClassFile Op Lib Jvm.Stand Jvm.Free.XT Jvm.Free.ALB Jvm.Free.JM Jvm.Free
open Jvm.Lib.Cold (StaticIs)
/-- the array's cell V codes the n chars f 0 .. f (n - 1) by the coder cd, as the JDK does: coder 1 just where some char is above 255 -/
def Cod (cd : Int32) (n : Nat) (f : Nat → Int32) (V : Cell) : Prop := (cd = 0 ∧ V.slots.size = n ∧ ∀ j, j < n → V.slots[j]? = some (.int (lo8 (f j))) ∧ ¬ 255 < f j) ∨ (cd = 1 ∧ V.slots.size = 2 * n ∧ (∀ j, j < n → V.slots[2 * j]? = some (.int (lo8 (f j))) ∧ V.slots[2 * j + 1]? = some (.int (hi8 (f j)))) ∧ ∃ j, j < n ∧ 255 < f j)
/-- **x is a String of the n chars f 0 .. f (n - 1)**, Latin-1 or UTF-16; its array at t has the cell V -/
def Txt (x t : Addr) (V : Cell) (cd : Int32) (n : Nat) (f : Nat → Int32) (U : State) : Prop := Exact "java/lang/String" x U ∧ Has x "java/lang/String" "value" "[B" (.ref t) U ∧ Has x "java/lang/String" "coder" "B" (.int cd) U ∧ XT.Arr .byte t V U ∧ Cod cd n f V ∧ ∀ j, j < n → ¬ f j < 0 ∧ ¬ 65535 < f j
theorem Txt.mv {x t : Addr} {V : Cell} {cd : Int32} {n : Nat} {f : Nat → Int32} {U U' : State} (h : Txt x t V cd n f U) (hal : U.vm.Alike U'.vm) (hh : U'.heap = U.heap) : Txt x t V cd n f U' := ⟨h.1.mv hal hh, h.2.1.mv hal hh, h.2.2.1.mv hal hh, h.2.2.2.1.mv hal hh, h.2.2.2.2⟩
end StrChars
namespace StrChars.Road
open Jvm Sem ClassFile Op Lib Jvm.Stand Jvm.Free Jvm.Free.XT
open Jvm.Lib.Cold (StaticIs)
theorem consq {a : Array Value} {s : State} {c : Jvm.Cond} {L : List Jvm.Cond} (h0 : c.before a s = true) (h : ∀ w ∈ L, w.before a s = true) : ∀ w ∈ c :: L, w.before a s = true := fun w hw => (List.mem_cons.mp hw).elim (fun e => e ▸ h0) (h w)
/-- the bytes of the chars cs, low before high -/
def wideBytes : List Int32 → List Value
  | [] => []
  | c :: cs => .int (lo8 c) :: .int (hi8 c) :: wideBytes cs
theorem wide_lo (d : Value) : ∀ (cs : List Int32) (j : Nat), j < cs.length → (wideBytes cs).getD (2 * j) d = .int (lo8 (cs.getD j 0))
  | [], j, h => absurd h (Nat.not_lt_zero j)
  | c :: cs, 0, _ => rfl
  | c :: cs, j + 1, h => by
    have q := wide_lo d cs j (by simpa using h)
    rw [show 2 * (j + 1) = 2 * j + 1 + 1 from by omega]
    simpa [wideBytes] using q
theorem wide_hi (d : Value) : ∀ (cs : List Int32) (j : Nat), j < cs.length → (wideBytes cs).getD (2 * j + 1) d = .int (hi8 (cs.getD j 0))
  | [], j, h => absurd h (Nat.not_lt_zero j)
  | c :: cs, 0, _ => rfl
  | c :: cs, j + 1, h => by
    have q := wide_hi d cs j (by simpa using h)
    rw [show 2 * (j + 1) + 1 = 2 * j + 1 + 1 + 1 from by omega]
    simpa [wideBytes] using q
theorem low_at (d : Value) (cs : List Int32) (j : Nat) (h : j < cs.length) : (cs.map fun c => Value.int (lo8 c)).getD j d = .int (lo8 (cs.getD j 0)) := by
  simp [List.getD_eq_getElem?_getD, h]
/-- an array of N2 bytes vs codes the chars cs by the coder cd -/
def CodA (cs : List Int32) (cd N2 : Int32) (vs : List Value) : Prop := (cd = 0 ∧ N2 = Int32.ofNat cs.length ∧ vs = (cs.map fun c => Value.int (lo8 c)) ∧ ∀ c ∈ cs, ¬ 255 < c) ∨ (cd = 1 ∧ N2 = Int32.ofNat (2 * cs.length) ∧ vs = wideBytes cs ∧ ∃ c ∈ cs, 255 < c)
theorem CodA.cod {cs : List Int32} {cd N2 : Int32} {vs : List Value} {V : Cell} (h : CodA cs cd N2 vs) (hn : 2 * cs.length < 2 ^ 31) (hs : V.slots.size = N2.toNatClampNeg) (hv : RoadKit.Has V vs (.int 0)) : Cod cd cs.length (fun j => cs.getD j 0) V := by
  rcases h with ⟨rfl, rfl, rfl, h⟩ | ⟨rfl, rfl, rfl, c, hc, hw⟩
  · rw [n32 (by omega)] at hs
    exact Or.inl ⟨rfl, hs, fun j hj => ⟨by rw [hv j (by omega), low_at _ _ _ hj], by
      have e : cs.getD j 0 = cs[j] := by simp [List.getD_eq_getElem?_getD, hj]
      show ¬ 255 < cs.getD j 0
      rw [e]; exact h _ (List.getElem_mem _)⟩⟩
  · rw [n32 (by omega)] at hs
    obtain ⟨j, hj, rfl⟩ := List.getElem_of_mem hc
    exact Or.inr ⟨rfl, hs, fun j hj => ⟨by rw [hv _ (by omega), wide_lo _ _ _ hj], by rw [hv _ (by omega), wide_hi _ _ _ hj]⟩, j, hj, by
      have e : cs.getD j 0 = cs[j] := by simp [List.getD_eq_getElem?_getD, hj]
      show 255 < cs.getD j 0
      rw [e]; exact hw⟩
/-- an object of exactly java/lang/String, its two fields found: as the laws ask it -/
theorem strObj {Z U : State} {a0 : Array Value} {kI : Nat} (wi : (Jvm.Cond.instantiable ST kI).before a0 Z = true) (al : Z.vm.Alike U.vm) {x : Addr} {v0 c0 : Value} (E : RoadKit.Exa Z U.heap x ST) (V : RoadKit.Fld Z U.heap x ST "value" "[B" v0) (C : RoadKit.Fld Z U.heap x ST "coder" "B" c0) :
    ∃ (D : Cell) (fV fC : Field), Blank ST x D U ∧ Found ST "value" "[B" fV U ∧ Found ST "coder" "B" fC U ∧ D.slots[fV.slot]? = some v0 ∧ D.slots[fC.slot]? = some c0 ∧ RoadKit.slotOf Z ST "value" "[B" = fV.slot ∧ RoadKit.slotOf Z ST "coder" "B" = fC.slot := by
  obtain ⟨D, cfV, kV, iV, fV, hD, gV, stV, knV, obV, asV, slV⟩ := V
  obtain ⟨D', cfC, kC, iC, fC, hD', gC, stC, -, -, asC, slC⟩ := C
  cases hD.symm.trans hD'
  obtain ⟨D2, kD, e1, e2, e3, e4, e5⟩ := E
  cases hD.symm.trans e1
  obtain ⟨c2, k2, i1, i2, i3, -⟩ := Cond.instantiable_spec wi
  cases e2.symm.trans i1
  cases e3.symm.trans i2
  obtain ⟨kU, u1, u2⟩ := al.2.2 _ _ e3
  exact ⟨D, fV, fC, ⟨hD, ⟨knV, fun q hq => by rw [hq] at obV; cases obV⟩, by rw [al.findClass]; exact e2, kU, u1, by rw [u2]; exact i3, by rw [u2]; exact e5 i3⟩, ⟨SBG.found_only al ⟨cfV, kV, iV, gV⟩, stV⟩, ⟨SBG.found_only al ⟨cfC, kC, iC, gC⟩, stC⟩, slV, slC, by simp [RoadKit.slotOf, gV], by simp [RoadKit.slotOf, gC]⟩
theorem sta_is {Z U : State} (al : Z.vm.Alike U.vm) {C n d : String} {v : Value} (S : RoadKit.Sta Z U.heap C n d v) : StaticIs U C n d v := by
  obtain ⟨cfS, iS, kS, fS, st, cS, t1, t2, t3, t4, t5, t6, t7⟩ := S
  exact StaticIs.there (s := { Z with heap := U.heap }) ⟨cfS, iS, kS, fS, st, cS, t1, t2, t3, t4, t5, (fun q => by rw [q] at t6; cases t6), t7⟩ al rfl
end StrChars.Road
namespace StrChars
open Jvm Sem ClassFile Op Lib Jvm.Stand Jvm.Free.XT Jvm.Free.ALB Jvm.Free.JM Jvm.Free
open Jvm.Lib.Cold (StaticIs)
/-- what place i of a byte[]'s cell holds -/
def yv (A : Cell) (i : Nat) : Int32 := match A.slots[i]? with | some (.int x) => x | _ => 0
theorem yv_get {a : Addr} {A : Cell} {U : State} (h : XT.Arr .byte a A U) (ht : Typed .byte A) {i : Nat} (hi : i < A.slots.size) : A.slots[i]? = some (.int (yv A i)) := by
  have e := Array.getElem?_eq_getElem hi
  have f := ht i _ e
  unfold yv; rw [e]
  generalize A.slots[i] = v at f
  cases v <;> simp [fits] at f ⊢
/-- the two arrays are equal, place for place -/
def EqC (A B : Cell) : Prop := A.slots.size = B.slots.size ∧ ∀ i, i < A.slots.size → yv A i = yv B i
/-- a boolean that says whether p -/
def Says01 (q : Prop) (r : Option Value) (s u : State) : Prop := ∃ v : Int32, r = some (.int v) ∧ u.heap = s.heap ∧ ((v = 1 ∧ q) ∨ (v = 0 ∧ ¬ q))
theorem Says01.mv {q : Prop} : ∀ r (U U' V V' : State), U'.heap = U.heap → V.vm.Alike V'.vm → V'.heap = V.heap → Says01 q r U V → Says01 q r U' V' :=
  fun r U U' V V' h1 _ h2 ⟨v, a, b, c⟩ => ⟨v, a, by rw [h1, h2]; exact b, c⟩
namespace LEq
def yN : MethodName := ⟨"java/lang/StringLatin1", "equals", "([B[B)Z"⟩
abbrev yB : ByteArray := jdk_43_method_13_code
theorem d0 : decode yB 0 = .ok (.aload_n 0, 1) := by decide +kernel
theorem d1 : decode yB 1 = .ok (.arraylength, 1) := by decide +kernel
theorem d2 : decode yB 2 = .ok (.aload_n 1, 1) := by decide +kernel
theorem d3 : decode yB 3 = .ok (.arraylength, 1) := by decide +kernel
theorem d4 : decode yB 4 = .ok (.if_icmp (.ne) 30, 3) := by decide +kernel
theorem d7 : decode yB 7 = .ok (.iconst 0, 1) := by decide +kernel
theorem d8 : decode yB 8 = .ok (.istore_n 2, 1) := by decide +kernel
theorem d9 : decode yB 9 = .ok (.iload_n 2, 1) := by decide +kernel
theorem d10 : decode yB 10 = .ok (.aload_n 0, 1) := by decide +kernel
theorem d11 : decode yB 11 = .ok (.arraylength, 1) := by decide +kernel
theorem d12 : decode yB 12 = .ok (.if_icmp (.ge) 20, 3) := by decide +kernel
theorem d15 : decode yB 15 = .ok (.aload_n 0, 1) := by decide +kernel
theorem d16 : decode yB 16 = .ok (.iload_n 2, 1) := by decide +kernel
theorem d17 : decode yB 17 = .ok (.baload, 1) := by decide +kernel
theorem d18 : decode yB 18 = .ok (.aload_n 1, 1) := by decide +kernel
theorem d19 : decode yB 19 = .ok (.iload_n 2, 1) := by decide +kernel
theorem d20 : decode yB 20 = .ok (.baload, 1) := by decide +kernel
theorem d21 : decode yB 21 = .ok (.if_icmp (.eq) 5, 3) := by decide +kernel
theorem d24 : decode yB 24 = .ok (.iconst 0, 1) := by decide +kernel
theorem d25 : decode yB 25 = .ok (.ireturn, 1) := by decide +kernel
theorem d26 : decode yB 26 = .ok (.iinc 2 1, 3) := by decide +kernel
theorem d29 : decode yB 29 = .ok (.goto (-20), 3) := by decide +kernel
theorem d32 : decode yB 32 = .ok (.iconst 1, 1) := by decide +kernel
theorem d33 : decode yB 33 = .ok (.ireturn, 1) := by decide +kernel
theorem d34 : decode yB 34 = .ok (.iconst 0, 1) := by decide +kernel
theorem d35 : decode yB 35 = .ok (.ireturn, 1) := by decide +kernel
def site : List Cond := []
def tab : Cond := tabOf yN yB 3 (some .boolean) site
def P (a : Addr) (A : Cell) (b : Addr) (B : Cell) (args : Array Value) (s : State) : Prop := args = #[.ref a, .ref b] ∧ XT.Arr .byte a A s ∧ Typed .byte A ∧ XT.Arr .byte b B s ∧ Typed .byte B
/-- whether two byte[] are equal, place for place -/
theorem law (l : Launch) (a : Addr) (A : Cell) (b : Addr) (B : Cell) : Law l yN 2 2 0 0 yB 3 (some .boolean) site (P a A b B) (Says01 (EqC A B)) [] 0 0 := by
  refine Law.of_walk (plainFor_of_name (by decide +kernel)) (by decide +kernel) (by decide +kernel) (by decide) (fun _ _ h => by rw [h.1]; rfl) (fun _ U U' hal hh h => ⟨h.1, h.2.1.mv hal hh, h.2.2.1, h.2.2.2.1.mv hal hh, h.2.2.2.2⟩) (fun r U U' V V' h1 hal h2 h => Says01.mv r U U' V V' h1 hal h2 h) ?_
  intro p e s m args below meth c s₁ X0 hexec hbytes hml hret hlk hnm hown hh0 W hP
  obtain ⟨rfl, hA, tA, hB, tB⟩ := hP
  have a31 := hA.2.2.2
  have b31 := hB.2.2.2
  have hA0 := hA.mv X0.warmed.alike hh0
  have hB0 := hB.mv X0.warmed.alike hh0
  have c1 : Steps p.tables e below (s₁.setTop (entryFrame m #[.ref a, .ref b] 3)) (s₁.setTop (mkF m 0 #[.val (.ref a), .val (.ref b), .unset] [])) := entry rfl
  have c2 : Steps p.tables e below (s₁.setTop (entryFrame m #[.ref a, .ref b] 3)) (s₁.setTop (mkF m 4 #[.val (.ref a), .val (.ref b), .unset] [.int (Int32.ofNat B.slots.size), .int (Int32.ofNat A.slots.size)])) := c1.trans (by
    refine XS.aloadN X0.here hexec rfl (hb hbytes d0) rfl rfl ?_
    refine X0.alen hexec hA0 rfl rfl (hb hbytes d1) ?_
    refine XS.aloadN X0.here hexec rfl (hb hbytes d2) rfl rfl ?_
    refine X0.alen hexec hB0 rfl rfl (hb hbytes d3) ?_
    exact Steps.refl _)
  by_cases hs : A.slots.size = B.slots.size
  · have c3 : Steps p.tables e below (s₁.setTop (entryFrame m #[.ref a, .ref b] 3)) (s₁.setTop (mkF m 9 #[.val (.ref a), .val (.ref b), .val (.int 0)] [])) := c2.trans (by
      refine XS.icmpNo X0.here hexec rfl (hb hbytes d4) rfl (ii_ne_f (by rw [hs])) ?_
      refine iconstV X0.here hexec rfl 0 (hb hbytes d7) (by decide) ?_
      refine XS.istoreN X0.here hexec rfl (hb hbytes d8) rfl rfl ?_
      exact Steps.refl _)
    have loop : ∀ (r i : Nat), i + r = A.slots.size → (∀ j, j < i → yv A j = yv B j) → Steps p.tables e below (s₁.setTop (entryFrame m #[.ref a, .ref b] 3)) (s₁.setTop (mkF m 9 #[.val (.ref a), .val (.ref b), .val (.int (Int32.ofNat i))] [])) → ∃ (pc : Nat) (Ls : Array Slot) (v : Int32), (pc = 25 ∨ pc = 33) ∧ ((v = 1 ∧ EqC A B) ∨ (v = 0 ∧ ¬ EqC A B)) ∧ Steps p.tables e below (s₁.setTop (entryFrame m #[.ref a, .ref b] 3)) (s₁.setTop (mkF m pc Ls [.int v])) := by
      intro r
      induction r with
      | zero =>
        intro i hi he cl
        exact ⟨33, _, 1, Or.inr rfl, Or.inl ⟨rfl, hs, fun j hj => he j (by omega)⟩, cl.trans (by
          refine XS.iloadN X0.here hexec rfl (hb hbytes d9) rfl ?_
          refine XS.aloadN X0.here hexec rfl (hb hbytes d10) rfl rfl ?_
          refine X0.alen hexec hA0 rfl rfl (hb hbytes d11) ?_
          refine XS.icmpYes X0.here hexec rfl (pc0 := 12) rfl (hb hbytes d12) rfl (ii_ge_t (nlt32 (by omega) (by omega))) (by decide) rfl ?_
          refine iconstV X0.here hexec rfl 1 (hb hbytes d32) (by decide) ?_
          exact Steps.refl _)⟩
      | succ r ih =>
        intro i hi he cl
        have c4 : Steps p.tables e below (s₁.setTop (entryFrame m #[.ref a, .ref b] 3)) (s₁.setTop (mkF m 21 #[.val (.ref a), .val (.ref b), .val (.int (Int32.ofNat i))] [.int (yv B i), .int (yv A i)])) := cl.trans (by
          refine XS.iloadN X0.here hexec rfl (hb hbytes d9) rfl ?_
          refine XS.aloadN X0.here hexec rfl (hb hbytes d10) rfl rfl ?_
          refine X0.alen hexec hA0 rfl rfl (hb hbytes d11) ?_
          refine XS.icmpNo X0.here hexec rfl (hb hbytes d12) rfl (ii_ge_f (lt32 (by omega) (by omega))) ?_
          refine XS.aloadN X0.here hexec rfl (hb hbytes d15) rfl rfl ?_
          refine XS.iloadN X0.here hexec rfl (hb hbytes d16) rfl ?_
          refine X0.aget hexec hA0 rfl (yv_get hA tA (i := i) (by omega)) rfl rfl (hb hbytes d17) ?_
          refine XS.aloadN X0.here hexec rfl (hb hbytes d18) rfl rfl ?_
          refine XS.iloadN X0.here hexec rfl (hb hbytes d19) rfl ?_
          refine X0.aget hexec hB0 rfl (yv_get hB tB (i := i) (by omega)) rfl rfl (hb hbytes d20) ?_
          exact Steps.refl _)
        by_cases hv : yv A i = yv B i
        · have c5 : Steps p.tables e below (s₁.setTop (entryFrame m #[.ref a, .ref b] 3)) (s₁.setTop (mkF m 9 #[.val (.ref a), .val (.ref b), .val (.int (Int32.ofNat i + 1))] [])) := c4.trans (by
            refine XS.icmpYes X0.here hexec rfl (pc0 := 21) rfl (hb hbytes d21) rfl (ii_eq_t hv) (by decide) rfl ?_
            refine iincV X0.here hexec rfl 1 (hb hbytes d26) (by decide) rfl rfl ?_
            refine XS.goto X0.here hexec rfl (pc0 := 29) rfl (hb hbytes d29) (by decide) rfl ?_
            exact Steps.refl _)
          rw [succ32] at c5
          exact ih (i + 1) (by omega) (fun j hj => by
            by_cases e : j = i
            · rw [e]; exact hv
            · exact he j (by omega)) c5
        · exact ⟨25, _, 0, Or.inl rfl, Or.inr ⟨rfl, fun q => hv (q.2 i (by omega))⟩, c4.trans (by
            refine XS.icmpNo X0.here hexec rfl (hb hbytes d21) rfl (ii_eq_f hv) ?_
            refine iconstV X0.here hexec rfl 0 (hb hbytes d24) (by decide) ?_
            exact Steps.refl _)⟩
    obtain ⟨pc, Ls, v, hpc, hv, cz⟩ := loop A.slots.size 0 (by omega) (fun j hj => absurd hj (Nat.not_lt_zero j)) c3
    have nv : narrow .boolean (.int v) = .int v := by rcases hv with ⟨rfl, -⟩ | ⟨rfl, -⟩ <;> rfl
    rcases hpc with rfl | rfl
    · exact ⟨s₁, some (.int v), _, _, _, X0, rfl, rfl, rfl, (fun h => by cases h), ⟨v, rfl, hh0, hv⟩, fun fs hl => cz.trans (X0.ireturnOut hexec hret nv (Or.inr (Or.inl rfl)) (hb hbytes d25) hl)⟩
    · exact ⟨s₁, some (.int v), _, _, _, X0, rfl, rfl, rfl, (fun h => by cases h), ⟨v, rfl, hh0, hv⟩, fun fs hl => cz.trans (X0.ireturnOut hexec hret nv (Or.inr (Or.inl rfl)) (hb hbytes d33) hl)⟩
  · have c3 : Steps p.tables e below (s₁.setTop (entryFrame m #[.ref a, .ref b] 3)) (s₁.setTop (mkF m 35 #[.val (.ref a), .val (.ref b), .unset] [.int 0])) := c2.trans (by
      refine XS.icmpYes X0.here hexec rfl (pc0 := 4) rfl (hb hbytes d4) rfl (ii_ne_t (ne32 a31 b31 hs)) (by decide) rfl ?_
      refine iconstV X0.here hexec rfl 0 (hb hbytes d34) (by decide) ?_
      exact Steps.refl _)
    exact ⟨s₁, some (.int 0), _, _, _, X0, rfl, rfl, rfl, (fun h => by cases h), ⟨0, rfl, hh0, Or.inr ⟨rfl, fun q => hs q.1⟩⟩, fun fs hl => c3.trans (X0.ireturnOut hexec hret rfl (Or.inr (Or.inl rfl)) (hb hbytes d35) hl)⟩
end LEq
theorem Cod.ty {cd : Int32} {n : Nat} {f : Nat → Int32} {V : Cell} (h : Cod cd n f V) : Typed .byte V := fun i v hv => by
  have hi : i < V.slots.size := (Array.getElem?_eq_some_iff.mp hv).1
  rcases h with ⟨-, k1, k2⟩ | ⟨-, k1, k2, -⟩
  · rw [(k2 i (by omega)).1] at hv; cases hv; exact fits_lo8 _
  · rcases Nat.mod_two_eq_zero_or_one i with e | e
    · obtain ⟨j, rfl⟩ : ∃ j, i = 2 * j := ⟨i / 2, by omega⟩
      rw [(k2 j (by omega)).1] at hv; cases hv; exact fits_lo8 _
    · obtain ⟨j, rfl⟩ : ∃ j, i = 2 * j + 1 := ⟨i / 2, by omega⟩
      rw [(k2 j (by omega)).2] at hv; cases hv; exact fits_lo8 _
/-- the same text -/
def SameT (n : Nat) (f : Nat → Int32) (k : Nat) (g : Nat → Int32) : Prop := n = k ∧ ∀ j, j < n → f j = g j
theorem lo8_inj {x y : Int32} (h0 : ¬ x < 0) (h1 : ¬ 255 < x) (k0 : ¬ y < 0) (k1 : ¬ 255 < y) (h : lo8 x = lo8 y) : x = y := by
  rw [← lo8_mask h0 h1, ← lo8_mask k0 k1, h]
/-- arrays coded by one coder are equal just where the texts are -/
theorem Cod.eqv {cd : Int32} {n k : Nat} {f g : Nat → Int32} {V V' : Cell} (h : Cod cd n f V) (h' : Cod cd k g V') (hf : ∀ j, j < n → ¬ f j < 0 ∧ ¬ 65535 < f j) (hg : ∀ j, j < k → ¬ g j < 0 ∧ ¬ 65535 < g j) : EqC V V' ↔ SameT n f k g := by
  have yvv : ∀ {W : Cell} {i : Nat} {x : Int32}, W.slots[i]? = some (.int x) → yv W i = x := fun q => by unfold yv; rw [q]
  rcases h with ⟨rfl, k1, k2⟩ | ⟨rfl, k1, k2, -⟩
  · rcases h' with ⟨-, m1, m2⟩ | ⟨e, -⟩
    · constructor
      · rintro ⟨e1, e2⟩
        refine ⟨by omega, fun j hj => ?_⟩
        have q := e2 j (by omega)
        rw [yvv (k2 j hj).1, yvv (m2 j (by omega)).1] at q
        exact lo8_inj (hf j hj).1 (k2 j hj).2 (hg j (by omega)).1 (m2 j (by omega)).2 q
      · rintro ⟨rfl, e2⟩
        refine ⟨by omega, fun j hj => ?_⟩
        rw [yvv (k2 j (by omega)).1, yvv (m2 j (by omega)).1, e2 j (by omega)]
    · exact absurd e (by decide)
  · rcases h' with ⟨e, -⟩ | ⟨-, m1, m2, -⟩
    · exact absurd e (by decide)
    · constructor
      · rintro ⟨e1, e2⟩
        refine ⟨by omega, fun j hj => ?_⟩
        have q1 := e2 (2 * j) (by omega)
        have q2 := e2 (2 * j + 1) (by omega)
        rw [yvv (k2 j hj).1, yvv (m2 j (by omega)).1] at q1
        rw [yvv (k2 j hj).2, yvv (m2 j (by omega)).2] at q2
        rw [← pair_says (hf j hj).1 (hf j hj).2, ← pair_says (hg j (by omega)).1 (hg j (by omega)).2, q1, q2]
      · rintro ⟨rfl, e2⟩
        refine ⟨by omega, fun i hi => ?_⟩
        rcases Nat.mod_two_eq_zero_or_one i with e | e
        · obtain ⟨j, rfl⟩ : ∃ j, i = 2 * j := ⟨i / 2, by omega⟩
          rw [yvv (k2 j (by omega)).1, yvv (m2 j (by omega)).1, e2 j (by omega)]
        · obtain ⟨j, rfl⟩ : ∃ j, i = 2 * j + 1 := ⟨i / 2, by omega⟩
          rw [yvv (k2 j (by omega)).2, yvv (m2 j (by omega)).2, e2 j (by omega)]
/-- two codings differ: so do the texts -/
theorem Cod.dif {cd cd' : Int32} {n k : Nat} {f g : Nat → Int32} {V V' : Cell} (h : Cod cd n f V) (h' : Cod cd' k g V') (hne : ¬ cd = cd') : ¬ SameT n f k g := by
  rintro ⟨rfl, e⟩
  rcases h with ⟨rfl, -, k2⟩ | ⟨rfl, -, -, j, hj, hw⟩
  · rcases h' with ⟨rfl, -⟩ | ⟨-, -, -, j, hj, hw⟩
    · exact hne rfl
    · exact (k2 j hj).2 (by rw [e j hj]; exact hw)
  · rcases h' with ⟨-, -, m2⟩ | ⟨rfl, -⟩
    · exact (m2 j hj).2 (by rw [← e j hj]; exact hw)
    · exact hne rfl
/-- an object of exactly C is an instance of C -/
theorem cinst {p : Program} {l : Launch} {e : Env} {R : Room} {s : State} {m : MethodId} {args : Array Value} {below : List Frame} {meth : Method} {c : Code} {T : State} {locs : List Loc} {cells slots : Nat} (X : Stand p l e R s m args below meth c T locs cells slots) (hexec : p.tables.exec = Jvm.exec) {own C : String} {index : Nat} (hown : s.vm.findClass own = some m.cls) (hlink : (Cond.classLink own index C).before args s = true) {a : Addr} (hE : Exact C a T)
    {g : JFrame} (hg : g.method = m) {rest : List Value} (hstack : g.stack = .ref a :: rest) (hdg : decode c.code g.pc = .ok (.instanceof index, 3)) :
    ∃ T', Stand p l e R s m args below meth c T' locs cells slots ∧ T'.heap = T.heap ∧ ∀ target, Steps p.tables e below (T'.setTop { g with pc := g.pc + 3, stack := .int 1 :: rest }) target → Steps p.tables e below (T.setTop g) target := by
  obtain ⟨cB, h1, D, h2, h3, h4⟩ := hE
  have h1' : s.vm.findClass C = some cB := by rw [← X.warmed.alike.findClass]; exact h1
  obtain ⟨vm', X', st⟩ := X.instanceofYes hexec hown hlink h2 h4 h1' (by rw [h3]; exact Jvm.Free.SB.assignable_self _ _) hg hstack hdg
  exact ⟨_, X', rfl, st⟩
theorem cself {p : Program} {l : Launch} {e : Env} {R : Room} {s : State} {m : MethodId} {args : Array Value} {below : List Frame} {meth : Method} {c : Code} {T : State} {locs : List Loc} {cells slots : Nat} (X : Stand p l e R s m args below meth c T locs cells slots) (hexec : p.tables.exec = Jvm.exec) {own C : String} {index : Nat} (hown : s.vm.findClass own = some m.cls) (hlink : (Cond.classLink own index C).before args s = true) {a : Addr} (hE : Exact C a T)
    {g : JFrame} (hg : g.method = m) {rest : List Value} (hstack : g.stack = .ref a :: rest) (hdg : decode c.code g.pc = .ok (.checkcast index, 3)) :
    ∃ T', Stand p l e R s m args below meth c T' locs cells slots ∧ T'.heap = T.heap ∧ ∀ target, Steps p.tables e below (T'.setTop { g with pc := g.pc + 3, stack := .ref a :: rest }) target → Steps p.tables e below (T.setTop g) target := by
  obtain ⟨cB, h1, D, h2, h3, h4⟩ := hE
  have h1' : s.vm.findClass C = some cB := by rw [← X.warmed.alike.findClass]; exact h1
  obtain ⟨vm', X', st⟩ := X.checkcastYes hexec hown hlink h2 h4 h1' (by rw [h3]; exact Jvm.Free.SB.assignable_self _ _) hg hstack hdg
  exact ⟨_, X', rfl, fun t h => st t (by rw [← hstack] at h; exact h)⟩
namespace SEq
def yN : MethodName := ⟨"java/lang/String", "equals", "(Ljava/lang/Object;)Z"⟩
abbrev yB : ByteArray := jdk_42_method_66_code
theorem d0 : decode yB 0 = .ok (.aload_n 0, 1) := by decide +kernel
theorem d1 : decode yB 1 = .ok (.aload_n 1, 1) := by decide +kernel
theorem d2 : decode yB 2 = .ok (.if_acmp (.ne) 5, 3) := by decide +kernel
theorem d5 : decode yB 5 = .ok (.iconst 1, 1) := by decide +kernel
theorem d6 : decode yB 6 = .ok (.ireturn, 1) := by decide +kernel
theorem d7 : decode yB 7 = .ok (.aload_n 1, 1) := by decide +kernel
theorem d8 : decode yB 8 = .ok (.instanceof 10, 3) := by decide +kernel
theorem d11 : decode yB 11 = .ok (.ifCond (.eq) 43, 3) := by decide +kernel
theorem d14 : decode yB 14 = .ok (.aload_n 1, 1) := by decide +kernel
theorem d15 : decode yB 15 = .ok (.checkcast 10, 3) := by decide +kernel
theorem d18 : decode yB 18 = .ok (.astore_n 2, 1) := by decide +kernel
theorem d19 : decode yB 19 = .ok (.getstatic 38, 3) := by decide +kernel
theorem d22 : decode yB 22 = .ok (.ifCond (.eq) 14, 3) := by decide +kernel
theorem d25 : decode yB 25 = .ok (.aload_n 0, 1) := by decide +kernel
theorem d26 : decode yB 26 = .ok (.getfield 15, 3) := by decide +kernel
theorem d29 : decode yB 29 = .ok (.aload_n 2, 1) := by decide +kernel
theorem d30 : decode yB 30 = .ok (.getfield 15, 3) := by decide +kernel
theorem d33 : decode yB 33 = .ok (.if_icmp (.ne) 21, 3) := by decide +kernel
theorem d36 : decode yB 36 = .ok (.aload_n 0, 1) := by decide +kernel
theorem d37 : decode yB 37 = .ok (.getfield 9, 3) := by decide +kernel
theorem d40 : decode yB 40 = .ok (.aload_n 2, 1) := by decide +kernel
theorem d41 : decode yB 41 = .ok (.getfield 9, 3) := by decide +kernel
theorem d44 : decode yB 44 = .ok (.invokestatic 541, 3) := by decide +kernel
theorem d47 : decode yB 47 = .ok (.ifCond (.eq) 7, 3) := by decide +kernel
theorem d50 : decode yB 50 = .ok (.iconst 1, 1) := by decide +kernel
theorem d51 : decode yB 51 = .ok (.goto 4, 3) := by decide +kernel
theorem d54 : decode yB 54 = .ok (.iconst 0, 1) := by decide +kernel
theorem d55 : decode yB 55 = .ok (.ireturn, 1) := by decide +kernel
def site : List Cond := [.classLink "java/lang/String" 10 "java/lang/String", .fieldLink "java/lang/String" 38 "java/lang/String" "COMPACT_STRINGS" "Z", .fieldLink "java/lang/String" 15 "java/lang/String" "coder" "B", .fieldLink "java/lang/String" 9 "java/lang/String" "value" "[B", LEq.tab] ++ staticW "java/lang/String" 541 LEq.yN
def tab : Cond := tabOf yN yB 3 (some .boolean) site
def P (x t : Addr) (V : Cell) (cd : Int32) (n : Nat) (f : Nat → Int32) (y t' : Addr) (V' : Cell) (cd' : Int32) (k : Nat) (g : Nat → Int32) (z : Int32) (args : Array Value) (s : State) : Prop := args = #[.ref x, .ref y] ∧ Txt x t V cd n f s ∧ Txt y t' V' cd' k g s ∧ StaticIs s "java/lang/String" "COMPACT_STRINGS" "Z" (.int z) ∧ ¬ z = 0
/-- equals(Object) of two Strings: whether the texts are the same -/
theorem law (l : Launch) (x t : Addr) (V : Cell) (cd : Int32) (n : Nat) (f : Nat → Int32) (y t' : Addr) (V' : Cell) (cd' : Int32) (k : Nat) (g : Nat → Int32) (z : Int32) : Law l yN 2 1 1 14 yB 3 (some .boolean) site (P x t V cd n f y t' V' cd' k g z) (Says01 (SameT n f k g)) [] 0 0 := by
  refine Law.of_walk (plainFor_of_name (by decide +kernel)) (by decide +kernel) (by decide +kernel) (by decide) (fun _ _ h => by rw [h.1]; rfl) (fun _ U U' hal hh h => ⟨h.1, h.2.1.mv hal hh, h.2.2.1.mv hal hh, h.2.2.2.1.there hal hh, h.2.2.2.2⟩) (fun r U U' V V' h1 hal h2 h => Says01.mv r U U' V V' h1 hal h2 h) ?_
  intro p e s m args below meth c s₁ X0 hexec hbytes hml hret hlk hnm hown hh0 W hP
  obtain ⟨rfl, hx, hy, s1, hz⟩ := hP
  have c1 : Steps p.tables e below (s₁.setTop (entryFrame m #[.ref x, .ref y] 3)) (s₁.setTop (mkF m 2 #[.val (.ref x), .val (.ref y), .unset] [.ref y, .ref x])) := Steps.trans (entry rfl) (by
    show Steps p.tables e below (s₁.setTop (mkF m 0 #[.val (.ref x), .val (.ref y), .unset] [])) _
    refine XS.aloadN X0.here hexec rfl (hb hbytes d0) rfl rfl ?_
    refine XS.aloadN X0.here hexec rfl (hb hbytes d1) rfl rfl ?_
    exact Steps.refl _)
  by_cases hxy : x = y
  · have c2 : Steps p.tables e below (s₁.setTop (entryFrame m #[.ref x, .ref y] 3)) (s₁.setTop (mkF m 6 #[.val (.ref x), .val (.ref y), .unset] [.int 1])) := c1.trans (by
      refine acmpNo X0.here hexec rfl (hb hbytes d2) rfl rfl rfl (by simp [acmp, hxy]) ?_
      refine iconstV X0.here hexec rfl 1 (hb hbytes d5) (by decide) ?_
      exact Steps.refl _)
    subst hxy
    have ec : cd = cd' := by
      obtain ⟨D, fd, a1, a2, a3⟩ := hx.2.2.1
      obtain ⟨D', fd', b1, b2, b3⟩ := hy.2.2.1
      cases a1.symm.trans b1
      obtain ⟨q1, q2, q3, q4⟩ := a2.1
      obtain ⟨r1, r2, r3, r4⟩ := b2.1
      cases q4.symm.trans r4
      cases a3.symm.trans b3; rfl
    have et : t = t' := by
      obtain ⟨D, fd, a1, a2, a3⟩ := hx.2.1
      obtain ⟨D', fd', b1, b2, b3⟩ := hy.2.1
      cases a1.symm.trans b1
      obtain ⟨q1, q2, q3, q4⟩ := a2.1
      obtain ⟨r1, r2, r3, r4⟩ := b2.1
      cases q4.symm.trans r4
      cases a3.symm.trans b3; rfl
    subst ec et
    have ev : V = V' := by cases hx.2.2.2.1.1.symm.trans hy.2.2.2.1.1; rfl
    subst ev
    have hs : SameT n f k g := (Cod.eqv hx.2.2.2.2.1 hy.2.2.2.2.1 hx.2.2.2.2.2 hy.2.2.2.2.2).mp ⟨rfl, fun _ _ => rfl⟩
    exact ⟨s₁, some (.int 1), _, _, _, X0, rfl, rfl, rfl, (fun h => by cases h), ⟨1, rfl, hh0, Or.inl ⟨rfl, hs⟩⟩, fun fs hl => c2.trans (X0.ireturnOut hexec hret rfl (Or.inr (Or.inl rfl)) (hb hbytes d6) hl)⟩
  · have c2 : Steps p.tables e below (s₁.setTop (entryFrame m #[.ref x, .ref y] 3)) (s₁.setTop (mkF m 8 #[.val (.ref x), .val (.ref y), .unset] [.ref y])) := c1.trans (by
      refine acmpYes X0.here hexec rfl (pc0 := 2) rfl (hb hbytes d2) rfl rfl rfl (by simp [acmp, hxy]) (by decide) rfl ?_
      refine XS.aloadN X0.here hexec rfl (hb hbytes d7) rfl rfl ?_
      exact Steps.refl _)
    obtain ⟨T3, X3, q3, st3⟩ := cinst X0 hexec hown (wk W (.classLink "java/lang/String" 10 "java/lang/String")) (hy.mv X0.warmed.alike hh0).1 (g := (mkF m 8 #[.val (.ref x), .val (.ref y), .unset] [.ref y])) rfl (rest := []) rfl (hb hbytes d8)
    have hh3 := q3.trans hh0
    have c4 : Steps p.tables e below (s₁.setTop (entryFrame m #[.ref x, .ref y] 3)) (T3.setTop (mkF m 15 #[.val (.ref x), .val (.ref y), .unset] [.ref y])) := (c2.trans (st3 _ (Steps.refl _))).trans (by
      refine XS.ifNo X3.here hexec rfl (hb hbytes d11) rfl (i0_eq_f (by decide)) ?_
      refine XS.aloadN X3.here hexec rfl (hb hbytes d14) rfl rfl ?_
      exact Steps.refl _)
    obtain ⟨T5, X5, q5, st5⟩ := cself X3 hexec hown (wk W (.classLink "java/lang/String" 10 "java/lang/String")) (hy.mv X3.warmed.alike hh3).1 (g := (mkF m 15 #[.val (.ref x), .val (.ref y), .unset] [.ref y])) rfl (rest := []) rfl (hb hbytes d15)
    have hh5 := q5.trans hh3
    have c6 : Steps p.tables e below (s₁.setTop (entryFrame m #[.ref x, .ref y] 3)) (T5.setTop (mkF m 19 #[.val (.ref x), .val (.ref y), .val (.ref y)] [])) := (c4.trans (st5 _ (Steps.refl _))).trans (by
      refine XS.astoreN X5.here hexec rfl (hb hbytes d18) rfl rfl rfl ?_
      exact Steps.refl _)
    obtain ⟨T7, X7, q7, st7⟩ := X5.sget hexec hown (wk W (.fieldLink "java/lang/String" 38 "java/lang/String" "COMPACT_STRINGS" "Z")) s1 (fun _ _ h => by rw [hh5]; exact h) (g := (mkF m 19 #[.val (.ref x), .val (.ref y), .val (.ref y)] [])) rfl (hb hbytes d19)
    have hh7 := q7.trans hh5
    have c8 : Steps p.tables e below (s₁.setTop (entryFrame m #[.ref x, .ref y] 3)) (T7.setTop (mkF m 26 #[.val (.ref x), .val (.ref y), .val (.ref y)] [.ref x])) := (c6.trans (st7 _ (Steps.refl _))).trans (by
      refine XS.ifNo X7.here hexec rfl (hb hbytes d22) rfl (i0_eq_f hz) ?_
      refine XS.aloadN X7.here hexec rfl (hb hbytes d25) rfl rfl ?_
      exact Steps.refl _)
    obtain ⟨T9, X9, q9, st9⟩ := X7.hget hexec hown (wk W (.fieldLink "java/lang/String" 15 "java/lang/String" "coder" "B")) (hx.mv X7.warmed.alike hh7).2.2.1 (g := (mkF m 26 #[.val (.ref x), .val (.ref y), .val (.ref y)] [.ref x])) rfl (rest := []) rfl (hb hbytes d26)
    have hh9 := q9.trans hh7
    have c10 : Steps p.tables e below (s₁.setTop (entryFrame m #[.ref x, .ref y] 3)) (T9.setTop (mkF m 30 #[.val (.ref x), .val (.ref y), .val (.ref y)] [.ref y, .int cd])) := (c8.trans (st9 _ (Steps.refl _))).trans (by
      refine XS.aloadN X9.here hexec rfl (hb hbytes d29) rfl rfl ?_
      exact Steps.refl _)
    obtain ⟨T11, X11, q11, st11⟩ := X9.hget hexec hown (wk W (.fieldLink "java/lang/String" 15 "java/lang/String" "coder" "B")) (hy.mv X9.warmed.alike hh9).2.2.1 (g := (mkF m 30 #[.val (.ref x), .val (.ref y), .val (.ref y)] [.ref y, .int cd])) rfl (rest := [.int cd]) rfl (hb hbytes d30)
    have hh11 := q11.trans hh9
    have c12 : Steps p.tables e below (s₁.setTop (entryFrame m #[.ref x, .ref y] 3)) (T11.setTop (mkF m 33 #[.val (.ref x), .val (.ref y), .val (.ref y)] [.int cd', .int cd])) := c10.trans (st11 _ (Steps.refl _))
    by_cases hcd : cd = cd'
    · subst hcd
      have c13 : Steps p.tables e below (s₁.setTop (entryFrame m #[.ref x, .ref y] 3)) (T11.setTop (mkF m 37 #[.val (.ref x), .val (.ref y), .val (.ref y)] [.ref x])) := c12.trans (by
        refine XS.icmpNo X11.here hexec rfl (hb hbytes d33) rfl (ii_ne_f rfl) ?_
        refine XS.aloadN X11.here hexec rfl (hb hbytes d36) rfl rfl ?_
        exact Steps.refl _)
      obtain ⟨T14, X14, q14, st14⟩ := X11.hget hexec hown (wk W (.fieldLink "java/lang/String" 9 "java/lang/String" "value" "[B")) (hx.mv X11.warmed.alike hh11).2.1 (g := (mkF m 37 #[.val (.ref x), .val (.ref y), .val (.ref y)] [.ref x])) rfl (rest := []) rfl (hb hbytes d37)
      have hh14 := q14.trans hh11
      have c15 : Steps p.tables e below (s₁.setTop (entryFrame m #[.ref x, .ref y] 3)) (T14.setTop (mkF m 41 #[.val (.ref x), .val (.ref y), .val (.ref y)] [.ref y, .ref t])) := (c13.trans (st14 _ (Steps.refl _))).trans (by
        refine XS.aloadN X14.here hexec rfl (hb hbytes d40) rfl rfl ?_
        exact Steps.refl _)
      obtain ⟨T16, X16, q16, st16⟩ := X14.hget hexec hown (wk W (.fieldLink "java/lang/String" 9 "java/lang/String" "value" "[B")) (hy.mv X14.warmed.alike hh14).2.1 (g := (mkF m 41 #[.val (.ref x), .val (.ref y), .val (.ref y)] [.ref y, .ref t])) rfl (rest := [.ref t]) rfl (hb hbytes d41)
      have hh16 := q16.trans hh14
      have c17 : Steps p.tables e below (s₁.setTop (entryFrame m #[.ref x, .ref y] 3)) (T16.setTop (mkF m 44 #[.val (.ref x), .val (.ref y), .val (.ref y)] [.ref t', .ref t])) := c15.trans (st16 _ (Steps.refl _))
      obtain ⟨v18, T18, X18, E18, g18⟩ := X16.callS hexec (LEq.law l t V t' V') hown (wks W (staticW "java/lang/String" 541 LEq.yN)) (wk W LEq.tab) (W := 0) (Nat.le_of_ble_eq_true rfl) (Nat.le_of_ble_eq_true rfl) (Nat.le_refl _) (Nat.le_refl _) (g := (mkF m 44 #[.val (.ref x), .val (.ref y), .val (.ref y)] [.ref t', .ref t])) rfl (by rw [hml]; rfl) c17 (argsL := [.ref t, .ref t']) (rest := []) rfl rfl (by show 2 * 0 + 0 ≤ _; decide) (hb hbytes d44) (⟨rfl, hx.2.2.2.1.mv X16.warmed.alike hh16, hx.2.2.2.2.1.ty, hy.2.2.2.1.mv X16.warmed.alike hh16, hy.2.2.2.2.1.ty⟩)
      obtain ⟨v, rfl, q18, hv⟩ := E18
      have iff := Cod.eqv hx.2.2.2.2.1 hy.2.2.2.2.1 hx.2.2.2.2.2 hy.2.2.2.2.2
      rcases hv with ⟨rfl, he⟩ | ⟨rfl, he⟩
      · have c19 : Steps p.tables e below (s₁.setTop (entryFrame m #[.ref x, .ref y] 3)) (T18.setTop (mkF m 55 #[.val (.ref x), .val (.ref y), .val (.ref y)] [.int 1])) := Steps.trans g18 (by
          refine XS.ifNo X18.here hexec rfl (hb hbytes d47) rfl (i0_eq_f (by decide)) ?_
          refine iconstV X18.here hexec rfl 1 (hb hbytes d50) (by decide) ?_
          refine XS.goto X18.here hexec rfl (pc0 := 51) rfl (hb hbytes d51) (by decide) rfl ?_
          exact Steps.refl _)
        exact ⟨T18, some (.int 1), _, _, _, X18, rfl, rfl, rfl, (fun h => by cases h), ⟨1, rfl, q18.trans hh16, Or.inl ⟨rfl, iff.mp he⟩⟩, fun fs hl => c19.trans (X18.ireturnOut hexec hret rfl (Or.inr (Or.inl rfl)) (hb hbytes d55) hl)⟩
      · have c19 : Steps p.tables e below (s₁.setTop (entryFrame m #[.ref x, .ref y] 3)) (T18.setTop (mkF m 55 #[.val (.ref x), .val (.ref y), .val (.ref y)] [.int 0])) := Steps.trans g18 (by
          refine XS.ifYes X18.here hexec rfl (pc0 := 47) rfl (hb hbytes d47) rfl (i0_eq_t rfl) (by decide) rfl ?_
          refine iconstV X18.here hexec rfl 0 (hb hbytes d54) (by decide) ?_
          exact Steps.refl _)
        exact ⟨T18, some (.int 0), _, _, _, X18, rfl, rfl, rfl, (fun h => by cases h), ⟨0, rfl, q18.trans hh16, Or.inr ⟨rfl, fun q => he (iff.mpr q)⟩⟩, fun fs hl => c19.trans (X18.ireturnOut hexec hret rfl (Or.inr (Or.inl rfl)) (hb hbytes d55) hl)⟩
    · have c13 : Steps p.tables e below (s₁.setTop (entryFrame m #[.ref x, .ref y] 3)) (T11.setTop (mkF m 55 #[.val (.ref x), .val (.ref y), .val (.ref y)] [.int 0])) := c12.trans (by
        refine XS.icmpYes X11.here hexec rfl (pc0 := 33) rfl (hb hbytes d33) rfl (ii_ne_t hcd) (by decide) rfl ?_
        refine iconstV X11.here hexec rfl 0 (hb hbytes d54) (by decide) ?_
        exact Steps.refl _)
      exact ⟨T11, some (.int 0), _, _, _, X11, rfl, rfl, rfl, (fun h => by cases h), ⟨0, rfl, hh11, Or.inr ⟨rfl, Cod.dif hx.2.2.2.2.1 hy.2.2.2.2.1 hcd⟩⟩, fun fs hl => c13.trans (X11.ireturnOut hexec hret rfl (Or.inr (Or.inl rfl)) (hb hbytes d55) hl)⟩
theorem pays {l : Launch} {R : Room} {p : Program} {e : Env} {below : List Frame} {s : State} {sargs : Array Value} {len W : Nat} (x t : Addr) (V : Cell) (cd : Int32) (n : Nat) (f : Nat → Int32) (y t' : Addr) (V' : Cell) (cd' : Int32) (k : Nat) (g : Nat → Int32) (z : Int32) (htab : tab.before sargs s = true) (hfr : 2 ≤ R.frames) (hlo : W + 28 ≤ R.locals) :
    Back l R p e below s sargs yN len W (fun A₁ a₁ => A₁.cells + 0 ≤ R.cells ∧ A₁.slots + 0 ≤ R.slots ∧ P x t V cd n f y t' V' cd' k g z a₁ A₁.U) (fun A₁ _ v₁ B₁ => Says01 (SameT n f k g) v₁ A₁.U B₁.U ∧ B₁.locs = A₁.locs ++ [] ∧ B₁.cells = A₁.cells + 0 ∧ B₁.slots = A₁.slots + 0) :=
  (law l x t V cd n f y t' V' cd' k g z).pays htab hfr (by omega)
end SEq
end StrChars
namespace StrChars.Road
open Jvm Sem ClassFile Op Lib Jvm.Stand Jvm.Free Jvm.Free.XT
open Jvm.Lib.Cold (StaticIs)
/-- the words of String.equals(Object) -/
abbrev wordsEq : List Jvm.Cond := [.code SEq.yN SEq.yB 3 (some .boolean), .initialized ST, .classLink ST 10 ST, .fieldLink ST 38 ST "COMPACT_STRINGS" "Z", .fieldLink ST 15 ST "coder" "B", .fieldLink ST 9 ST "value" "[B", .methodLink ST 541 LEq.yN, .static LEq.yN, .code LEq.yN LEq.yB 3 (some .boolean), .initialized "java/lang/StringLatin1"]
theorem tabEq_of {a : Array Value} {s : State} (h : ∀ w ∈ wordsEq, w.before a s = true) : SEq.tab.before a s = true := by
  have hl : LEq.tab.before a s = true := unparts (wk h (.code LEq.yN LEq.yB 3 (some .boolean))) (wks h (.initialized LEq.yN.cls :: LEq.site))
  have q := consq hl h
  exact unparts (wk q (.code SEq.yN SEq.yB 3 (some .boolean))) (wks q (.initialized SEq.yN.cls :: SEq.site))
theorem movedEq {Z s : State} {a0 args : Array Value} (hZ : Z.Warmed39 s.vm) (hw : ∀ d ∈ wordsEq, d.before a0 Z = true) : ∀ d ∈ wordsEq, d.before args s = true := fun d hd => by
  have t : ∀ d ∈ wordsEq, (d.onTables && d.keepsFace) = true := by decide +kernel
  exact RoadKit.mv hZ (hw d hd) (t d hd)
/-- the road's facts of a String, as the laws ask it -/
theorem txt_of {Z U : State} {a0 : Array Value} {kI : Nat} (wi : (Jvm.Cond.instantiable ST kI).before a0 Z = true) (al : Z.vm.Alike U.vm) {x t : Addr} {kb : ClassId} {cs : List Int32} {cd N2 : Int32} {vs : List Value} (E : RoadKit.Exa Z U.heap x ST) (V : RoadKit.Fld Z U.heap x ST "value" "[B" (.ref t)) (C : RoadKit.Fld Z U.heap x ST "coder" "B" (.int cd)) (K : RoadKit.Arv Z U.heap t kb .byte N2 vs (.int 0)) (hc : CodA cs cd N2 vs) (hb : ∀ c ∈ cs, ¬ c < 0 ∧ ¬ (65535 : Int32) < c) (l2 : cs.length ≤ 4000) :
    ∃ A, Txt x t A cd cs.length (fun j => cs.getD j 0) U := by
  obtain ⟨A, K1, K2, K3, K4, K5, K6⟩ := K
  have hcod := hc.cod (by omega) K3 K5
  obtain ⟨D, fV, fC, hB, F1, F2, g1, g2, -, -⟩ := strObj wi al E V C
  exact ⟨A, ⟨_, hB.2.2.1, D, hB.1, rfl, by cases q : D.vm <;> first | rfl | exact absurd q (hB.2.1.2 _)⟩, Has.of hB F1 g1, Has.of hB F2 g2, ⟨K1.1, State.isArrayOf_alike al K1.2.1, K1.2.2, by rcases hcod with ⟨-, q, -⟩ | ⟨-, q, -⟩ <;> omega⟩, hcod, fun j hj => by
    have e : cs.getD j 0 = cs[j] := by simp [List.getD_eq_getElem?_getD, hj]
    show ¬ cs.getD j 0 < 0 ∧ ¬ 65535 < cs.getD j 0
    rw [e]; exact hb _ (List.getElem_mem _)⟩
theorem same_list (cs ds : List Int32) : SameT cs.length (fun j => cs.getD j 0) ds.length (fun j => ds.getD j 0) ↔ cs = ds := by
  constructor
  · rintro ⟨e, q⟩
    refine List.ext_getElem e fun j h1 h2 => ?_
    have := q j h1
    simpa [List.getD_eq_getElem?_getD, h1, h2] using this
  · rintro rfl
    exact ⟨rfl, fun _ _ => rfl⟩
/-- **equals(Object) OF TWO SUCH STRINGS**: 1 just where the chars are the same -/
theorem eqW {p : Program} {l : Launch} {e : Env} {R : Room} {s : State} {args : Array Value} {below : List Frame} {len W : Nat} {Z : State} {a0 : Array Value} {h : Heap} (hZ : Z.Warmed39 s.vm) (hw : ∀ d ∈ wordsEq, d.before a0 Z = true) {kI : Nat} (wi : (Jvm.Cond.instantiable ST kI).before a0 Z = true)
    {x t : Addr} {kb : ClassId} {cs : List Int32} {cd N2 : Int32} {vs : List Value} (E : RoadKit.Exa Z h x ST) (V : RoadKit.Fld Z h x ST "value" "[B" (.ref t)) (C : RoadKit.Fld Z h x ST "coder" "B" (.int cd)) (K : RoadKit.Arv Z h t kb .byte N2 vs (.int 0)) (hc : CodA cs cd N2 vs) (hb : ∀ c ∈ cs, ¬ c < 0 ∧ ¬ (65535 : Int32) < c) (l2 : cs.length ≤ 4000)
    {y t' : Addr} {kb' : ClassId} {ds : List Int32} {cd' N2' : Int32} {vs' : List Value} (E' : RoadKit.Exa Z h y ST) (V' : RoadKit.Fld Z h y ST "value" "[B" (.ref t')) (C' : RoadKit.Fld Z h y ST "coder" "B" (.int cd')) (K' : RoadKit.Arv Z h t' kb' .byte N2' vs' (.int 0)) (hc' : CodA ds cd' N2' vs') (hb' : ∀ c ∈ ds, ¬ c < 0 ∧ ¬ (65535 : Int32) < c) (l2' : ds.length ≤ 4000)
    {z : Int32} (S : RoadKit.Sta Z h ST "COMPACT_STRINGS" "Z" (.int z)) (hz : ¬ z = 0) (hfr : 2 ≤ R.frames) (hlo : W + 28 ≤ R.locals) :
    Back l R p e below s args (⟨"java/lang/String", "equals", "(Ljava/lang/Object;)Z"⟩ : MethodName) len W (fun P a => a = #[.ref x, .ref y] ∧ P.U.heap = h ∧ P.cells + 0 ≤ R.cells ∧ P.slots + 0 ≤ R.slots)
      (fun P _ v B => ∃ L, (((v = some (.int 1) ∧ cs = ds) ∨ (v = some (.int 0) ∧ ¬ cs = ds)) ∧ L = [] ∧ B.U.heap = h) ∧ B.locs = P.locs ++ L ∧ B.cells = P.cells + 0 ∧ B.slots = P.slots + 0) := by
  intro m meth c P g ig mk a X hg hsize hdg hW hn hp'
  obtain ⟨rfl, rfl, r1, r2⟩ := hp'
  have al : Z.vm.Alike P.U.vm := hZ.alike.trans X.warmed.alike
  obtain ⟨A, hx⟩ := txt_of wi al E V C K hc hb l2
  obtain ⟨A', hy⟩ := txt_of wi al E' V' C' K' hc' hb' l2'
  obtain ⟨v, B, X', ⟨⟨w, hv, hh, hq⟩, hl, hk, hs⟩, st⟩ := SEq.pays x t A cd cs.length (fun j => cs.getD j 0) y t' A' cd' ds.length (fun j => ds.getD j 0) z (tabEq_of (movedEq hZ hw)) hfr hlo m meth c P g ig mk _ X hg hsize hdg hW hn ⟨r1, r2, rfl, hx, hy, sta_is al S, hz⟩
  refine ⟨v, B, X', ⟨[], ⟨?_, rfl, hh⟩, hl, hk, hs⟩, st⟩
  rcases hq with ⟨rfl, q⟩ | ⟨rfl, q⟩
  · exact Or.inl ⟨hv, (same_list cs ds).mp q⟩
  · exact Or.inr ⟨hv, fun e => q ((same_list cs ds).mpr e)⟩
end StrChars.Road
end Jvm.Pilot.@@N@@
namespace Jvm.Pilot.@@N@@
open Jvm Jvm.ClassFile Sem Op Lib Jvm.Free Jvm.Stand Jvm.LawKit Jvm.RoadKit Bundle Jvm.Pilot.@@N@@.Jvm.D
theorem own_pn0 : plainName "java/lang/Record" = true := by first | (simp [plainName, overriddenIn]; done) | decide +kernel
theorem own_d9_0 : decode jdk_30_method_1_code 0 = .ok (.aload_n 0, 1) := by decide +kernel
theorem own_d9_1 : decode jdk_30_method_1_code 1 = .ok (.invokespecial 1, 3) := by decide +kernel
theorem own_d9_4 : decode jdk_30_method_1_code 4 = .ok (.return_, 1) := by decide +kernel
theorem own_pn1 : plainName "java/lang/String" = true := by first | (simp [plainName, overriddenIn]; done) | decide +kernel
theorem own_d3_0 : decode jdk_42_method_149_code 0 = .ok (.aload_n 0, 1) := by decide +kernel
theorem own_d3_1 : decode jdk_42_method_149_code 1 = .ok (.invokespecial 1, 3) := by decide +kernel
theorem own_d3_4 : decode jdk_42_method_149_code 4 = .ok (.iload_n 3, 1) := by decide +kernel
theorem own_d3_5 : decode jdk_42_method_149_code 5 = .ok (.ifCond .ne 22, 3) := by decide +kernel
theorem own_d3_8 : decode jdk_42_method_149_code 8 = .ok (.aload_n 0, 1) := by decide +kernel
theorem own_d3_9 : decode jdk_42_method_149_code 9 = .ok (.ldc 7, 2) := by decide +kernel
theorem own_d3_11 : decode jdk_42_method_149_code 11 = .ok (.getfield 9, 3) := by decide +kernel
theorem own_d3_14 : decode jdk_42_method_149_code 14 = .ok (.putfield 9, 3) := by decide +kernel
theorem own_d3_17 : decode jdk_42_method_149_code 17 = .ok (.aload_n 0, 1) := by decide +kernel
theorem own_d3_18 : decode jdk_42_method_149_code 18 = .ok (.ldc 7, 2) := by decide +kernel
theorem own_d3_20 : decode jdk_42_method_149_code 20 = .ok (.getfield 15, 3) := by decide +kernel
theorem own_d3_23 : decode jdk_42_method_149_code 23 = .ok (.putfield 15, 3) := by decide +kernel
theorem own_d3_26 : decode jdk_42_method_149_code 26 = .ok (.return_, 1) := by decide +kernel
theorem own_d2_0 : decode jdk_42_method_3_code 0 = .ok (.aload_n 0, 1) := by decide +kernel
theorem own_d2_1 : decode jdk_42_method_3_code 1 = .ok (.aload_n 1, 1) := by decide +kernel
theorem own_d2_2 : decode jdk_42_method_3_code 2 = .ok (.iconst 0, 1) := by decide +kernel
theorem own_d2_3 : decode jdk_42_method_3_code 3 = .ok (.aload_n 1, 1) := by decide +kernel
theorem own_d2_4 : decode jdk_42_method_3_code 4 = .ok (.arraylength, 1) := by decide +kernel
theorem own_d2_5 : decode jdk_42_method_3_code 5 = .ok (.aconst_null, 1) := by decide +kernel
theorem own_d2_6 : decode jdk_42_method_3_code 6 = .ok (.invokespecial 27, 3) := by decide +kernel
theorem own_pd0 : parseMethodDescriptor "([CIILjava/lang/Void;)V" = some ⟨[(.array .char), .int, .int, (.object "java/lang/Void")], none⟩ := by decide +kernel
theorem own_d2_9 : decode jdk_42_method_3_code 9 = .ok (.return_, 1) := by decide +kernel
theorem own_pn2 : plainName "com/example/diligent_tableau/diligenttableau/logic/IndividualEqualsPinLaw" = true := by first | (simp [plainName, overriddenIn]; done) | decide +kernel
theorem own_d1_0 : decode method_2_code 0 = .ok (.iload_n 0, 1) := by decide +kernel
theorem own_d1_1 : decode method_2_code 1 = .ok (.ifCond .ne 14, 3) := by decide +kernel
theorem own_d1_4 : decode method_2_code 4 = .ok (.new 7, 3) := by decide +kernel
theorem own_d1_7 : decode method_2_code 7 = .ok (.dup, 1) := by decide +kernel
theorem own_d1_8 : decode method_2_code 8 = .ok (.iconst 0, 1) := by decide +kernel
theorem own_d1_9 : decode method_2_code 9 = .ok (.newarray .char, 2) := by decide +kernel
theorem own_d1_11 : decode method_2_code 11 = .ok (.invokespecial 9, 3) := by decide +kernel
theorem own_pd1 : parseMethodDescriptor "([C)V" = some ⟨[(.array .char)], none⟩ := by decide +kernel
theorem own_d1_14 : decode method_2_code 14 = .ok (.areturn, 1) := by decide +kernel
theorem own_d1_15 : decode method_2_code 15 = .ok (.iload_n 0, 1) := by decide +kernel
theorem own_d1_16 : decode method_2_code 16 = .ok (.iconst 1, 1) := by decide +kernel
theorem own_d1_17 : decode method_2_code 17 = .ok (.if_icmp .ne 18, 3) := by decide +kernel
theorem own_d1_20 : decode method_2_code 20 = .ok (.new 7, 3) := by decide +kernel
theorem own_d1_23 : decode method_2_code 23 = .ok (.dup, 1) := by decide +kernel
theorem own_d1_24 : decode method_2_code 24 = .ok (.iconst 1, 1) := by decide +kernel
theorem own_d1_25 : decode method_2_code 25 = .ok (.newarray .char, 2) := by decide +kernel
theorem own_d1_27 : decode method_2_code 27 = .ok (.dup, 1) := by decide +kernel
theorem own_d1_28 : decode method_2_code 28 = .ok (.iconst 0, 1) := by decide +kernel
theorem own_d1_29 : decode method_2_code 29 = .ok (.iload_n 1, 1) := by decide +kernel
theorem own_d1_30 : decode method_2_code 30 = .ok (.castore, 1) := by decide +kernel
theorem own_d1_31 : decode method_2_code 31 = .ok (.invokespecial 9, 3) := by decide +kernel
theorem own_d1_34 : decode method_2_code 34 = .ok (.areturn, 1) := by decide +kernel
theorem own_d1_35 : decode method_2_code 35 = .ok (.new 7, 3) := by decide +kernel
theorem own_d1_38 : decode method_2_code 38 = .ok (.dup, 1) := by decide +kernel
theorem own_d1_39 : decode method_2_code 39 = .ok (.iconst 2, 1) := by decide +kernel
theorem own_d1_40 : decode method_2_code 40 = .ok (.newarray .char, 2) := by decide +kernel
theorem own_d1_42 : decode method_2_code 42 = .ok (.dup, 1) := by decide +kernel
theorem own_d1_43 : decode method_2_code 43 = .ok (.iconst 0, 1) := by decide +kernel
theorem own_d1_44 : decode method_2_code 44 = .ok (.iload_n 1, 1) := by decide +kernel
theorem own_d1_45 : decode method_2_code 45 = .ok (.castore, 1) := by decide +kernel
theorem own_d1_46 : decode method_2_code 46 = .ok (.dup, 1) := by decide +kernel
theorem own_d1_47 : decode method_2_code 47 = .ok (.iconst 1, 1) := by decide +kernel
theorem own_d1_48 : decode method_2_code 48 = .ok (.iload_n 2, 1) := by decide +kernel
theorem own_d1_49 : decode method_2_code 49 = .ok (.castore, 1) := by decide +kernel
theorem own_d1_50 : decode method_2_code 50 = .ok (.invokespecial 9, 3) := by decide +kernel
theorem own_d1_53 : decode method_2_code 53 = .ok (.areturn, 1) := by decide +kernel
theorem own_pn3 : plainName "com/example/diligent_tableau/diligenttableau/logic/Individual" = true := by first | (simp [plainName, overriddenIn]; done) | decide +kernel
theorem own_d8_0 : decode prog_22_method_3_code 0 = .ok (.aload_n 0, 1) := by decide +kernel
theorem own_d8_1 : decode prog_22_method_3_code 1 = .ok (.invokespecial 1, 3) := by decide +kernel
theorem own_pd2 : parseMethodDescriptor "()V" = some ⟨[], none⟩ := by decide +kernel
theorem own_d8_4 : decode prog_22_method_3_code 4 = .ok (.aload_n 0, 1) := by decide +kernel
theorem own_d8_5 : decode prog_22_method_3_code 5 = .ok (.aload_n 1, 1) := by decide +kernel
theorem own_d8_6 : decode prog_22_method_3_code 6 = .ok (.putfield 7, 3) := by decide +kernel
theorem own_d8_9 : decode prog_22_method_3_code 9 = .ok (.aload_n 0, 1) := by decide +kernel
theorem own_d8_10 : decode prog_22_method_3_code 10 = .ok (.iload_n 2, 1) := by decide +kernel
theorem own_d8_11 : decode prog_22_method_3_code 11 = .ok (.putfield 13, 3) := by decide +kernel
theorem own_d8_14 : decode prog_22_method_3_code 14 = .ok (.aload_n 0, 1) := by decide +kernel
theorem own_d8_15 : decode prog_22_method_3_code 15 = .ok (.iload_n 3, 1) := by decide +kernel
theorem own_d8_16 : decode prog_22_method_3_code 16 = .ok (.putfield 17, 3) := by decide +kernel
theorem own_d8_19 : decode prog_22_method_3_code 19 = .ok (.return_, 1) := by decide +kernel
theorem own_d10_0 : decode prog_22_method_5_code 0 = .ok (.aload_n 1, 1) := by decide +kernel
theorem own_d10_1 : decode prog_22_method_5_code 1 = .ok (.instanceof 8, 3) := by decide +kernel
theorem own_d10_4 : decode prog_22_method_5_code 4 = .ok (.ifCond .eq 48, 3) := by decide +kernel
theorem own_d10_52 : decode prog_22_method_5_code 52 = .ok (.iconst 0, 1) := by decide +kernel
theorem own_d10_53 : decode prog_22_method_5_code 53 = .ok (.ireturn, 1) := by decide +kernel
theorem own_d10_7 : decode prog_22_method_5_code 7 = .ok (.aload_n 1, 1) := by decide +kernel
theorem own_d10_8 : decode prog_22_method_5_code 8 = .ok (.checkcast 8, 3) := by decide +kernel
theorem own_d10_11 : decode prog_22_method_5_code 11 = .ok (.astore_n 2, 1) := by decide +kernel
theorem own_d10_12 : decode prog_22_method_5_code 12 = .ok (.aload_n 0, 1) := by decide +kernel
theorem own_d10_13 : decode prog_22_method_5_code 13 = .ok (.getfield 13, 3) := by decide +kernel
theorem own_d10_16 : decode prog_22_method_5_code 16 = .ok (.aload_n 2, 1) := by decide +kernel
theorem own_d10_17 : decode prog_22_method_5_code 17 = .ok (.getfield 13, 3) := by decide +kernel
theorem own_d10_20 : decode prog_22_method_5_code 20 = .ok (.if_icmp .ne 32, 3) := by decide +kernel
theorem own_d10_23 : decode prog_22_method_5_code 23 = .ok (.aload_n 0, 1) := by decide +kernel
theorem own_d10_24 : decode prog_22_method_5_code 24 = .ok (.getfield 17, 3) := by decide +kernel
theorem own_d10_27 : decode prog_22_method_5_code 27 = .ok (.aload_n 2, 1) := by decide +kernel
theorem own_d10_28 : decode prog_22_method_5_code 28 = .ok (.getfield 17, 3) := by decide +kernel
theorem own_d10_31 : decode prog_22_method_5_code 31 = .ok (.if_icmp .ne 21, 3) := by decide +kernel
theorem own_d10_34 : decode prog_22_method_5_code 34 = .ok (.aload_n 0, 1) := by decide +kernel
theorem own_d10_35 : decode prog_22_method_5_code 35 = .ok (.getfield 7, 3) := by decide +kernel
theorem own_d10_38 : decode prog_22_method_5_code 38 = .ok (.aload_n 2, 1) := by decide +kernel
theorem own_d10_39 : decode prog_22_method_5_code 39 = .ok (.getfield 7, 3) := by decide +kernel
theorem own_d10_42 : decode prog_22_method_5_code 42 = .ok (.invokevirtual 26, 3) := by decide +kernel
theorem own_pd3 : parseMethodDescriptor "(Ljava/lang/Object;)Z" = some ⟨[(.object "java/lang/Object")], some .boolean⟩ := by decide +kernel
theorem own_d10_45 : decode prog_22_method_5_code 45 = .ok (.ifCond .eq 7, 3) := by decide +kernel
theorem own_d10_48 : decode prog_22_method_5_code 48 = .ok (.iconst 1, 1) := by decide +kernel
theorem own_d10_49 : decode prog_22_method_5_code 49 = .ok (.goto 4, 3) := by decide +kernel
theorem own_pd4 : parseMethodDescriptor "(ICC)Ljava/lang/String;" = some ⟨[.int, .char, .char], some (.object "java/lang/String")⟩ := by decide +kernel
theorem own_pd5 : parseMethodDescriptor "(Ljava/lang/String;ZZ)V" = some ⟨[(.object "java/lang/String"), .boolean, .boolean], none⟩ := by decide +kernel
def own_EL : List (String × Nat) := [("java/lang/String", 7)]
theorem own_ew {Z : State} {a0 : Array Value} (hw : ∀ d ∈ tables_1, d.before a0 Z = true) : EW Z a0 own_EL := (EW.cons (hw _ (List.mem_of_getElem? (i := 60) rfl)) (by decide) EW.nil)
theorem own_wS {Z : State} {a0 : Array Value} (hw : ∀ d ∈ tables_1, d.before a0 Z = true) : ∀ d ∈ Bundle.stringAtoms, d.before a0 Z = true := fun d hd => hw d ((by decide +kernel : ∀ d ∈ Bundle.stringAtoms, d ∈ tables_1) d hd)
theorem own_txt_0 : (∀ c ∈ "".toList, c.toNat < 256) ∧ "".toList.map (fun c => Value.int (Jvm.Lit.byteI c.toNat.toUInt16)) = [] := ⟨by decide, by decide⟩
def own_ch1 (q : Int32) : Int32 := nar .char ((q &&& (255 : Int32)).toUInt32.toUInt16.toUInt32.toInt32)
theorem own_ch1_eq (q : Int32) : own_ch1 q = q &&& (255 : Int32) := by
  show ((q &&& (255 : Int32)).toUInt32.toUInt16.toUInt32.toInt32).toUInt32.toUInt16.toUInt32.toInt32 = _
  rw [i2c_mask, i2c_mask]
theorem own_ch1_rng (q : Int32) : ¬ own_ch1 q < 0 ∧ ¬ (255 : Int32) < own_ch1 q := by
  rw [own_ch1_eq]
  have h := c_mask q 255 8 (by decide) (by decide)
  simp only [show ((2 ^ 8 : Nat) : Int) = 256 from by decide] at h
  constructor <;> (rw [Int32.lt_iff_toInt_lt]; first | rw [show (0 : Int32).toInt = 0 from by decide] | rw [show (255 : Int32).toInt = 255 from by decide]) <;> omega
theorem own_b65 {c : Int32} (h : ¬ c < 0 ∧ ¬ (255 : Int32) < c) : ¬ c < 0 ∧ ¬ (65535 : Int32) < c := by
  refine ⟨h.1, fun q => h.2 ?_⟩
  rw [Int32.lt_iff_toInt_lt] at q ⊢
  rw [show (65535 : Int32).toInt = 65535 from by decide] at q
  rw [show (255 : Int32).toInt = 255 from by decide]
  omega
theorem own_bit (q : Int32) : nar .boolean (q &&& (1 : Int32)) = q &&& (1 : Int32) ∨ True := Or.inr trivial
theorem own_r3 (q : Int32) : q &&& (3 : Int32) = (0 : Int32) ∨ q &&& (3 : Int32) = (1 : Int32) ∨ q &&& (3 : Int32) = (2 : Int32) ∨ q &&& (3 : Int32) = (3 : Int32) := by
  have h := c_mask q 3 2 (by decide) (by decide)
  simp only [show ((2 ^ 2 : Nat) : Int) = 4 from by decide] at h
  simp only [← Int32.toInt_inj, show (0 : Int32).toInt = 0 from by decide, show (1 : Int32).toInt = 1 from by decide, show (2 : Int32).toInt = 2 from by decide, show (3 : Int32).toInt = 3 from by decide]
  omega
def own_eqv (cs ds : List Int32) : Int32 := if cs = ds then (1 : Int32) else (0 : Int32)
theorem own_eqB {p : Program} {l : Launch} {e : Env} {R : Room} {s : State} {args : Array Value} {below : List Frame} {len W : Nat} {Z : State} {a0 : Array Value} {h : Heap} {n0 : Nat} (hZ : Z.Warmed39 s.vm) (hw : ∀ d ∈ StrChars.Road.wordsEq, d.before a0 Z = true) {kI : Nat} (wi : (Jvm.Cond.instantiable "java/lang/String" kI).before a0 Z = true)
    {x t : Addr} {kb : ClassId} {cs : List Int32} (E : Exa Z h x "java/lang/String") (V : Fld Z h x "java/lang/String" "value" "[B" (.ref t)) (C : Fld Z h x "java/lang/String" "coder" "B" (.int (0 : Int32))) (K : Arv Z h t kb .byte (Int32.ofNat cs.length) (cs.map fun c => Value.int (c.toInt8.toInt32)) (.int (0 : Int32))) (hb : ∀ c ∈ cs, ¬ c < 0 ∧ ¬ (255 : Int32) < c) (l2 : cs.length ≤ 3)
    {y t' : Addr} {kb' : ClassId} {ds : List Int32} (E' : Exa Z h y "java/lang/String") (V' : Fld Z h y "java/lang/String" "value" "[B" (.ref t')) (C' : Fld Z h y "java/lang/String" "coder" "B" (.int (0 : Int32))) (K' : Arv Z h t' kb' .byte (Int32.ofNat ds.length) (ds.map fun c => Value.int (c.toInt8.toInt32)) (.int (0 : Int32))) (hb' : ∀ c ∈ ds, ¬ c < 0 ∧ ¬ (255 : Int32) < c) (l2' : ds.length ≤ 3)
    {z : Int32} (S : Sta Z h "java/lang/String" "COMPACT_STRINGS" "Z" (.int z)) (hz : ¬ z = 0) (hfr : 2 ≤ R.frames) (hlo : W + 28 ≤ R.locals) :
    Back l R p e below s args (⟨"java/lang/String", "equals", "(Ljava/lang/Object;)Z"⟩ : MethodName) len W (fun P a => a = #[.ref x, .ref y] ∧ P.U.heap = h ∧ P.cells + 0 ≤ R.cells ∧ P.slots + 0 ≤ R.slots)
      (fun P _ v B => ∃ L, (v = some (.int (own_eqv cs ds)) ∧ Fr n0 L ∧ B.U.heap = h) ∧ B.locs = P.locs ++ L ∧ B.cells = P.cells + 0 ∧ B.slots = P.slots + 0) := by
  refine Back.mono (StrChars.Road.eqW hZ hw wi E V C K (Or.inl ⟨rfl, rfl, rfl, fun c hc => (hb c hc).2⟩) (fun c hc => own_b65 (hb c hc)) (by omega) E' V' C' K' (Or.inl ⟨rfl, rfl, rfl, fun c hc => (hb' c hc).2⟩) (fun c hc => own_b65 (hb' c hc)) (by omega) S hz hfr hlo) (fun P a hp => hp) (fun P a v B hp hq => ?_)
  obtain ⟨L, ⟨q1, rfl, q3⟩, q4, q5, q6⟩ := hq
  refine ⟨[], ⟨?_, Fr.nil n0, q3⟩, q4, q5, q6⟩
  rcases q1 with ⟨rfl, q⟩ | ⟨rfl, q⟩
  · rw [own_eqv, if_pos q]
  · rw [own_eqv, if_neg q]
theorem own_nb {f : Int32} (h : f = (0 : Int32) ∨ f = (1 : Int32)) : nar .boolean f = f := by rcases h with rfl | rfl <;> rfl

theorem own_sub0 {vm : Vm} {c t : ClassId} {k : Class} (h1 : vm.classes[c]? = some k) (h2 : k.super = none) (ne : c ≠ t) (f : Nat) : vm.isSubclassAux f c t = false := by
  cases f with
  | zero => rfl
  | succ f => simp [Vm.isSubclassAux, ne, h1, h2]
theorem own_sub1 {vm : Vm} {c t q : ClassId} {k : Class} (h1 : vm.classes[c]? = some k) (h2 : k.super = some q) (ne : c ≠ t) (ih : ∀ f, vm.isSubclassAux f q t = false) (f : Nat) : vm.isSubclassAux f c t = false := by
  cases f with
  | zero => rfl
  | succ f => simp [Vm.isSubclassAux, ne, h1, h2, ih]
theorem own_notsub {Z : State} {a0 : Array Value} {A B K : String} {n : Nat} (w0 : (Jvm.Cond.noSuperclass "java/lang/Object").before a0 Z = true) (w1 : (Jvm.Cond.superclass B "java/lang/Object").before a0 Z = true) (w2 : (Jvm.Cond.superclass A B).before a0 Z = true)
    (wk : (Jvm.Cond.instantiable K n).before a0 Z = true) (n1 : A ≠ K) (n2 : B ≠ K) (n3 : "java/lang/Object" ≠ K) : ∃ c t, Z.vm.findClass A = some c ∧ Z.vm.findClass K = some t ∧ Z.vm.assignable c t = false := by
  obtain ⟨t, kt, t1, t2, t3, t4, -⟩ := Cond.instantiable_spec wk
  obtain ⟨co, ko, o1, o2, o3, -⟩ := Cond.noSuperclass_spec w0
  obtain ⟨cn, n0⟩ := found_sup w1
  obtain ⟨cl, l0⟩ := found_sup w2
  obtain ⟨p1, k1, kp1, a1, a2, a3, a4, -⟩ := Cond.superclass_spec n0 w1
  obtain ⟨p2, k2, kp2, b1, b2, b3, b4, b5, -, b7⟩ := Cond.superclass_spec l0 w2
  cases o1.symm.trans a1
  cases n0.symm.trans b1
  have key : ∀ f, Z.vm.isSubclassAux f cl t = false := own_sub1 b2 b4 (ids_ne l0 t1 n1) (own_sub1 a2 a4 (ids_ne n0 t1 n2) (own_sub0 o2 o3 (ids_ne o1 t1 n3)))
  refine ⟨cl, t, l0, t1, ?_⟩
  simp only [Bool.or_eq_false_iff] at t4
  show Z.vm.assignableAux (255 + 1) cl t = false
  simp [Vm.assignableAux, ids_ne l0 t1 n1, b2, t2, b5, t3, t4.1, Vm.isSubclass, key]

theorem own_narcE {q : Int32} (h : ¬ q < 0 ∧ ¬ (255 : Int32) < q) : nar .char q = q := by
  have e : q &&& (255 : Int32) = q := by
    have m := c_mask q 255 8 (by decide) (by decide)
    simp only [show ((2 ^ 8 : Nat) : Int) = 256 from by decide] at m
    have h1 := h.1
    have h2 := h.2
    rw [Int32.lt_iff_toInt_lt, show (0 : Int32).toInt = 0 from by decide] at h1
    rw [Int32.lt_iff_toInt_lt, show (255 : Int32).toInt = 255 from by decide] at h2
    exact Int32.toInt_inj.mp (by rw [m]; omega)
  show q.toUInt32.toUInt16.toUInt32.toInt32 = q
  rw [← e, i2c_mask]
theorem own_narc {q : Int32} (h : ¬ q < 0 ∧ ¬ (255 : Int32) < q) : ¬ nar .char q < 0 ∧ ¬ (255 : Int32) < nar .char q := by rw [own_narcE h]; exact h
theorem own_chv (q : Int32) : ¬ ((q &&& (255 : Int32)).toUInt32.toUInt16.toUInt32.toInt32) < 0 ∧ ¬ (255 : Int32) < ((q &&& (255 : Int32)).toUInt32.toUInt16.toUInt32.toInt32) := by
  have h := own_ch1_rng q
  rw [own_ch1_eq] at h
  rw [i2c_mask]; exact h
theorem own_m3 (q : Int32) : ((q &&& (3 : Int32)) % (3 : Int32)) = (0 : Int32) ∨ ((q &&& (3 : Int32)) % (3 : Int32)) = (1 : Int32) ∨ ((q &&& (3 : Int32)) % (3 : Int32)) = (2 : Int32) := by
  rcases own_r3 q with e | e | e | e <;> rw [e]
  · exact Or.inl (by decide)
  · exact Or.inr (Or.inl (by decide))
  · exact Or.inr (Or.inr (by decide))
  · exact Or.inl (by decide)
def own_cs (len x y : Int32) : List Int32 := if len = (0 : Int32) then [] else if len = (1 : Int32) then [nar .char x] else [nar .char x, nar .char y]
theorem own_cs_rng {len x y : Int32} (hx : ¬ x < 0 ∧ ¬ (255 : Int32) < x) (hy : ¬ y < 0 ∧ ¬ (255 : Int32) < y) : ∀ c ∈ own_cs len x y, ¬ c < 0 ∧ ¬ (255 : Int32) < c := by
  intro c hc
  unfold own_cs at hc
  split at hc
  · cases hc
  · split at hc
    · simp only [List.mem_cons, List.not_mem_nil, or_false] at hc
      subst hc; exact own_narc hx
    · simp only [List.mem_cons, List.not_mem_nil, or_false] at hc
      rcases hc with rfl | rfl
      · exact own_narc hx
      · exact own_narc hy
theorem own_cs_len (len x y : Int32) : (own_cs len x y).length ≤ 3 := by
  unfold own_cs
  split
  · simp
  · split <;> simp
def own_sm (la c0 c1 lb d0 d1 : Int32) : Int32 := if la = lb then (if la < (1 : Int32) then (if la < (2 : Int32) then (1 : Int32) else if c1 = d1 then (1 : Int32) else (0 : Int32)) else if c0 = d0 then (if la < (2 : Int32) then (1 : Int32) else if c1 = d1 then (1 : Int32) else (0 : Int32)) else (0 : Int32)) else (0 : Int32)
theorem own_smIff {la c0 c1 lb d0 d1 : Int32} (hla : la = (0 : Int32) ∨ la = (1 : Int32) ∨ la = (2 : Int32)) (hlb : lb = (0 : Int32) ∨ lb = (1 : Int32) ∨ lb = (2 : Int32)) (h0 : ¬ c0 < 0 ∧ ¬ (255 : Int32) < c0) (h1 : ¬ c1 < 0 ∧ ¬ (255 : Int32) < c1) (k0 : ¬ d0 < 0 ∧ ¬ (255 : Int32) < d0) (k1 : ¬ d1 < 0 ∧ ¬ (255 : Int32) < d1) : own_sm la c0 c1 lb d0 d1 = (if own_cs la c0 c1 = own_cs lb d0 d1 then (1 : Int32) else (0 : Int32)) := by
  have d01 : ¬ ((0 : Int32) = 1) := by decide
  have d02 : ¬ ((0 : Int32) = 2) := by decide
  have d10 : ¬ ((1 : Int32) = 0) := by decide
  have d12 : ¬ ((1 : Int32) = 2) := by decide
  have d20 : ¬ ((2 : Int32) = 0) := by decide
  have d21 : ¬ ((2 : Int32) = 1) := by decide
  have l01 : (0 : Int32) < 1 := by decide
  have l02 : (0 : Int32) < 2 := by decide
  have l11 : ¬ (1 : Int32) < 1 := by decide
  have l12 : (1 : Int32) < 2 := by decide
  have l21 : ¬ (2 : Int32) < 1 := by decide
  have l22 : ¬ (2 : Int32) < 2 := by decide
  unfold own_sm own_cs
  rw [own_narcE h0, own_narcE h1, own_narcE k0, own_narcE k1]
  rcases hla with rfl | rfl | rfl <;> rcases hlb with rfl | rfl | rfl <;> simp only [d01, d02, d10, d12, d20, d21, l01, l02, l11, l12, l21, l22, if_true, if_false, ↓reduceIte, List.cons.injEq, and_true, reduceCtorEq, and_false] <;>
    (by_cases ea : c0 = d0 <;> by_cases eb : c1 = d1 <;> simp [ea, eb])
def own_eqi (a b f g : Int32) (cs ds : List Int32) : Int32 := if a = b then (if f = g then (if own_eqv cs ds = (0 : Int32) then (0 : Int32) else (1 : Int32)) else (0 : Int32)) else (0 : Int32)
def own_ex (a b f g sm : Int32) : Int32 := if a = b then (if f = g then (if sm = (0 : Int32) then (0 : Int32) else (1 : Int32)) else (0 : Int32)) else (0 : Int32)
theorem own_eqiS (a f : Int32) (cs : List Int32) : own_eqi a a f f cs cs = (1 : Int32) := by
  rw [own_eqi, if_pos rfl, if_pos rfl, own_eqv, if_pos rfl]; rfl
theorem own_smEq {la c0 c1 lb d0 d1 sm : Int32} (e : sm = own_sm la c0 c1 lb d0 d1) (hla : la = (0 : Int32) ∨ la = (1 : Int32) ∨ la = (2 : Int32)) (hlb : lb = (0 : Int32) ∨ lb = (1 : Int32) ∨ lb = (2 : Int32)) (h0 : ¬ c0 < 0 ∧ ¬ (255 : Int32) < c0) (h1 : ¬ c1 < 0 ∧ ¬ (255 : Int32) < c1) (k0 : ¬ d0 < 0 ∧ ¬ (255 : Int32) < d0) (k1 : ¬ d1 < 0 ∧ ¬ (255 : Int32) < d1) : own_eqv (own_cs la c0 c1) (own_cs lb d0 d1) = sm ∧ own_eqv (own_cs lb d0 d1) (own_cs la c0 c1) = sm := by
  rw [e, own_smIff hla hlb h0 h1 k0 k1]
  refine ⟨rfl, ?_⟩
  unfold own_eqv
  by_cases q : own_cs la c0 c1 = own_cs lb d0 d1
  · rw [if_pos q, if_pos q.symm]
  · rw [if_neg q, if_neg fun z => q z.symm]
theorem own_f1 {a b f g sm ex : Int32} {cs ds : List Int32} (ha : a = (0 : Int32) ∨ a = (1 : Int32)) (hb : b = (0 : Int32) ∨ b = (1 : Int32)) (hf : f = (0 : Int32) ∨ f = (1 : Int32)) (hg : g = (0 : Int32) ∨ g = (1 : Int32)) (hs : own_eqv cs ds = sm ∧ own_eqv ds cs = sm) (he : ex = own_ex a b f g sm) : own_eqi (nar .boolean a) (nar .boolean b) (nar .boolean f) (nar .boolean g) cs ds = ex := by
  rw [own_nb ha, own_nb hb, own_nb hf, own_nb hg, own_eqi, hs.1, he, own_ex]
theorem own_f2 {a b f g sm ex : Int32} {cs ds : List Int32} (ha : a = (0 : Int32) ∨ a = (1 : Int32)) (hb : b = (0 : Int32) ∨ b = (1 : Int32)) (hf : f = (0 : Int32) ∨ f = (1 : Int32)) (hg : g = (0 : Int32) ∨ g = (1 : Int32)) (hs : own_eqv cs ds = sm ∧ own_eqv ds cs = sm) (he : ex = own_ex a b f g sm) : own_eqi (nar .boolean b) (nar .boolean a) (nar .boolean g) (nar .boolean f) ds cs = ex := by
  rw [own_nb ha, own_nb hb, own_nb hf, own_nb hg, own_eqi, hs.2, he, own_ex]
  by_cases p : a = b <;> by_cases q : f = g <;> simp [p, q, eq_comm] <;> first | (intro z; exact absurd z.symm p) | (intro z; exact absurd z.symm q) | skip
theorem own_notsub1 {Z : State} {a0 : Array Value} {A K : String} {n : Nat} (w0 : (Jvm.Cond.noSuperclass "java/lang/Object").before a0 Z = true) (w1 : (Jvm.Cond.superclass A "java/lang/Object").before a0 Z = true)
    (wk : (Jvm.Cond.instantiable K n).before a0 Z = true) (n1 : A ≠ K) (n3 : "java/lang/Object" ≠ K) : ∃ c t, Z.vm.findClass A = some c ∧ Z.vm.findClass K = some t ∧ Z.vm.assignable c t = false := by
  obtain ⟨t, kt, t1, t2, t3, t4, -⟩ := Cond.instantiable_spec wk
  obtain ⟨co, ko, o1, o2, o3, -⟩ := Cond.noSuperclass_spec w0
  obtain ⟨cn, n0⟩ := found_sup w1
  obtain ⟨p1, k1, kp1, a1, a2, a3, a4, a5, -, a7⟩ := Cond.superclass_spec n0 w1
  cases o1.symm.trans a1
  have key : ∀ f, Z.vm.isSubclassAux f cn t = false := own_sub1 a2 a4 (ids_ne n0 t1 n1) (own_sub0 o2 o3 (ids_ne o1 t1 n3))
  refine ⟨cn, t, n0, t1, ?_⟩
  simp only [Bool.or_eq_false_iff] at t4
  show Z.vm.assignableAux (255 + 1) cn t = false
  simp [Vm.assignableAux, ids_ne n0 t1 n1, a2, t2, a5, t3, t4.1, Vm.isSubclass, key]

theorem own_i_Record_ef (m : MethodId) (x0 : Addr) : entryFrame m #[(.ref x0)] 1 = mkF m 0 #[.val (.ref x0)] [] := by first | (simp [entryFrame, mkF, argsToLocals, Value.category]; done) | rfl
def own_i_Record_Q (Z : State) (a1 : Addr) (h0 : Heap) (n0 : Nat) (v : Option Value) (h : Heap) (L : List Loc) : Prop := (v = none ∧ Fr n0 L ∧ h = h0)
set_option maxRecDepth 65536 in
set_option maxHeartbeats 40000000 in
theorem own_i_Record (l : Launch) (Z : State) (a0 : Array Value) (hw : ∀ d ∈ tables_1, d.before a0 Z = true) (ws : List Jvm.Cond) (a1 : Addr) (h0 : Heap) (n0 : Nat) (Z0 : n0 ≤ h0.size)  :
    MetFree l (⟨"java/lang/Record", "<init>", "()V"⟩ : MethodName) (head1 (Jvm.Cond.code (⟨"java/lang/Record", "<init>", "()V"⟩ : MethodName) jdk_30_method_1_code 1 none :: ws) ({ frames := 1, cells := 0, slots := 0, locals := 12 } : Room)) (fun a U => a = #[(.ref a1)] ∧ Z.Warmed39 U.vm ∧ U.heap = h0) (fun _ _ _ _ _ => True) (fun _ U o U' => ∃ v L, o = .returned v ∧ own_i_Record_Q Z a1 h0 n0 v U'.heap L ∧ FrameEnd U o U' L ({ frames := 1, cells := 0, slots := 0, locals := 12 } : Room).cells ({ frames := 1, cells := 0, slots := 0, locals := 12 } : Room).slots) := by
  refine MetFree.of_bodySF (plainFor_of_name own_pn0) hisR ?_
  intro p e s m args below meth c s₁ Bd hml0 hP hK
  obtain ⟨rfl, hZ, hh⟩ := hP
  have hx := Bd.exec
  have hby := Bd.bytes
  have hlk : meth.locks = false := BodyLoose.notSynchronized Bd
  have hml : c.maxLocals = 1 := hml0
  have hown : s.vm.findClass "java/lang/Record" = some m.cls := findClass_of_methodNamed Bd.named
  have hnm := (name_of_methodNamed Bd.named Bd.method).1
  have X0 : Stand p l e ({ frames := 1, cells := 0, slots := 0, locals := 12 } : Room) s m #[(.ref a1)] below meth c s₁ [] 0 0 := Stand.of_body Bd
  have e0 : s₁.heap = h0 := by rw [← hh, Bd.state]; rfl
  have N0 := Fr.nil n0
  refine own_start (QQ := own_i_Record_Q Z a1 h0 n0) (rc := ({ frames := 1, cells := 0, slots := 0, locals := 12 } : Room).cells) (rs := ({ frames := 1, cells := 0, slots := 0, locals := 12 } : Room).slots) (own_i_Record_ef m a1 ) ?_
  show own_G p.tables e below _ (s₁.setTop (mkF m 0 #[.val (.ref a1)] []))
  refine own_fs (XS.aloadN X0.here hx rfl (hb hby own_d9_0) rfl rfl (Steps.refl _)) ?_
  show own_G p.tables e below _ (s₁.setTop (mkF m 1 #[.val (.ref a1)] [(.ref a1)]))
  obtain ⟨T1, X1, e1, st1⟩ := initO X0 hx hZ hown (hw _ (List.mem_of_getElem? (i := 45) rfl)) (hw _ (List.mem_of_getElem? (i := 19) rfl)) (hw _ (List.mem_of_getElem? (i := 20) rfl)) e0 (g := (mkF m 1 #[.val (.ref a1)] [(.ref a1)])) rfl (by rw [hml]; rfl) rfl (hb hby own_d9_1) (by decide) (W := 0) (by show 2 * 0 + _ ≤ _; exact Nat.le_of_eq rfl) (by decide)
  refine own_fs (st1 _ (Steps.refl _)) ?_
  show own_G p.tables e below _ (T1.setTop (mkF m 4 #[.val (.ref a1)] []))
  exact own_retV X1 hx Bd.returns hlk (hb hby own_d9_4) (by decide) (by decide) e1 ⟨rfl, N0, rfl⟩
theorem own_iS0_ef (m : MethodId) (x0 : Addr) (x1 : Addr) (x2 : Int32) (x3 : Int32) : entryFrame m #[(.ref x0), (.ref x1), (.int x2), (.int x3), .null] 6 = mkF m 0 #[.val (.ref x0), .val (.ref x1), .val (.int x2), .val (.int x3), .val .null, .unset] [] := by first | (simp [entryFrame, mkF, argsToLocals, Value.category]; done) | rfl
def own_iS0_Q (Z : State) (a1 : Addr) (ca : Addr) (u2 : Int32) (h0 : Heap) (n0 : Nat) (v : Option Value) (h : Heap) (L : List Loc) : Prop := ∃ tt : Addr, ∃ kt : ClassId, (v = none ∧ Fr n0 L ∧ Keep h0 h [a1] ∧ (Exa Z h a1 "java/lang/String") ∧ (Fld Z h a1 "java/lang/String" "coder" "B" (.int (0 : Int32))) ∧ (Fld Z h a1 "java/lang/String" "value" "[B" (.ref tt)) ∧ (Arv Z h tt kt .byte (0 : Int32) [] (.int (0 : Int32))))
set_option maxRecDepth 65536 in
set_option maxHeartbeats 40000000 in
theorem own_iS0 (l : Launch) (Z : State) (a0 : Array Value) (hw : ∀ d ∈ tables_1, d.before a0 Z = true) (ws : List Jvm.Cond) (a1 : Addr) (ca : Addr) (u2 : Int32) (h0 : Heap) (n0 : Nat) (Z0 : n0 ≤ h0.size) (hE_a1 : Exa Z h0 a1 "java/lang/String") (hF_value_a1 : Fld Z h0 a1 "java/lang/String" "value" "[B" .null) (hF_coder_a1 : Fld Z h0 a1 "java/lang/String" "coder" "B" (.int u2)) (ge_a1 : n0 ≤ a1) :
    MetFree l (⟨"java/lang/String", "<init>", "([CIILjava/lang/Void;)V"⟩ : MethodName) (head1 (Jvm.Cond.code (⟨"java/lang/String", "<init>", "([CIILjava/lang/Void;)V"⟩ : MethodName) jdk_42_method_149_code 6 none :: ws) ({ frames := 1, cells := 4, slots := 8, locals := 12 } : Room)) (fun a U => a = #[(.ref a1), (.ref ca), (.int (0 : Int32)), (.int (0 : Int32)), .null] ∧ Z.Warmed39 U.vm ∧ U.heap = h0 ∧ CHv Z own_EL U.vm h0) (fun _ _ _ _ _ => True) (fun _ U o U' => ∃ v L, o = .returned v ∧ own_iS0_Q Z a1 ca u2 h0 n0 v U'.heap L ∧ CHr Z own_EL U.vm U.heap U'.vm U'.heap ∧ ReturnedEndW U o U' L ({ frames := 1, cells := 4, slots := 8, locals := 12 } : Room).cells ({ frames := 1, cells := 4, slots := 8, locals := 12 } : Room).slots) := by
  refine MetFree.of_bodySF (plainFor_of_name own_pn1) hisR ?_
  intro p e s m args below meth c s₁ Bd hml0 hP hK
  obtain ⟨rfl, hZ, hh, CH0⟩ := hP
  have hx := Bd.exec
  have hby := Bd.bytes
  have hlk : meth.locks = false := BodyLoose.notSynchronized Bd
  have hml : c.maxLocals = 6 := hml0
  have hown : s.vm.findClass "java/lang/String" = some m.cls := findClass_of_methodNamed Bd.named
  have hnm := (name_of_methodNamed Bd.named Bd.method).1
  have X0 : Stand p l e ({ frames := 1, cells := 4, slots := 8, locals := 12 } : Room) (s.setVm s.vm) m #[(.ref a1), (.ref ca), (.int (0 : Int32)), (.int (0 : Int32)), .null] below meth c s₁ [] 0 0 := Stand.of_body Bd
  have e0 : s₁.heap = h0 := by rw [← hh, Bd.state]; rfl
  have N0 := Fr.nil n0
  have hEL : EW Z a0 own_EL := own_ew hw
  have hS0 : s.Since s.vm 0 := (State.WarmedH.refl s).since 0
  have hk0 : 0 ≤ h0.size := Nat.zero_le _
  have R0 := CHr.refl CH0
  refine own_startW (QQ := own_iS0_Q Z a1 ca u2 h0 n0) (rc := ({ frames := 1, cells := 4, slots := 8, locals := 12 } : Room).cells) (rs := ({ frames := 1, cells := 4, slots := 8, locals := 12 } : Room).slots) hh (own_iS0_ef m a1 ca (0 : Int32) (0 : Int32) ) ?_
  have Sf_a1 := own_safe0 (EL := own_EL) hZ.alike hE_a1 hF_value_a1
  show own_G p.tables e below _ (s₁.setTop (mkF m 0 #[.val (.ref a1), .val (.ref ca), .val (.int (0 : Int32)), .val (.int (0 : Int32)), .val .null, .unset] []))
  refine own_fs (XS.aloadN X0.here hx rfl (hb hby own_d3_0) rfl rfl (Steps.refl _)) ?_
  show own_G p.tables e below _ (s₁.setTop (mkF m 1 #[.val (.ref a1), .val (.ref ca), .val (.int (0 : Int32)), .val (.int (0 : Int32)), .val .null, .unset] [(.ref a1)]))
  obtain ⟨T1, X1, e1, st1⟩ := initO X0 hx hZ hown (hw _ (List.mem_of_getElem? (i := 18) rfl)) (hw _ (List.mem_of_getElem? (i := 19) rfl)) (hw _ (List.mem_of_getElem? (i := 20) rfl)) e0 (g := (mkF m 1 #[.val (.ref a1), .val (.ref ca), .val (.int (0 : Int32)), .val (.int (0 : Int32)), .val .null, .unset] [(.ref a1)])) rfl (by rw [hml]; rfl) rfl (hb hby own_d3_1) (by decide) (W := 0) (by show 2 * 0 + _ ≤ _; exact Nat.le_of_eq rfl) (by decide)
  refine own_fs (st1 _ (Steps.refl _)) ?_
  show own_G p.tables e below _ (T1.setTop (mkF m 4 #[.val (.ref a1), .val (.ref ca), .val (.int (0 : Int32)), .val (.int (0 : Int32)), .val .null, .unset] []))
  refine own_fs (XS.iloadN X1.here hx rfl (hb hby own_d3_4) rfl (Steps.refl _)) ?_
  show own_G p.tables e below _ (T1.setTop (mkF m 5 #[.val (.ref a1), .val (.ref ca), .val (.int (0 : Int32)), .val (.int (0 : Int32)), .val .null, .unset] [(.int (0 : Int32))]))
  refine own_fs (XS.ifNo X1.here hx rfl (hb hby own_d3_5) rfl (XT.i0_ne_f (by decide : (0 : Int32) = (0 : Int32))) (Steps.refl _)) ?_
  show own_G p.tables e below _ (T1.setTop (mkF m 8 #[.val (.ref a1), .val (.ref ca), .val (.int (0 : Int32)), .val (.int (0 : Int32)), .val .null, .unset] []))
  refine own_fs (XS.aloadN X1.here hx rfl (hb hby own_d3_8) rfl rfl (Steps.refl _)) ?_
  show own_G p.tables e below _ (T1.setTop (mkF m 9 #[.val (.ref a1), .val (.ref ca), .val (.int (0 : Int32)), .val (.int (0 : Int32)), .val .null, .unset] [(.ref a1)]))
  obtain ⟨la2, T2, h2, k2, lb2, kb2, X2, e2, E2, hS2, hk2, hZ, hown, PE2, PC2, PV2, PA2, -, -, hR2, -, hne2, st2⟩ := ldcCH X1 hx hZ hown (hw _ (List.mem_of_getElem? (i := 60) rfl)) (own_wS hw) e1 hS0 hk0 hEL (List.mem_of_getElem? (i := 0) rfl) CH0 (vs := []) (z := (0 : Int32)) (own_txt_0) (by decide) (by decide) (g := (mkF m 9 #[.val (.ref a1), .val (.ref ca), .val (.int (0 : Int32)), .val (.int (0 : Int32)), .val .null, .unset] [(.ref a1)])) rfl (hb hby own_d3_9) (n := 0) (by decide) (by decide) (by decide) (by decide)
  have Sf2_a1 := CHr.safe hR2 (Exa.lt hE_a1) Sf_a1
  have RR2 := CHr.trans R0 hR2
  have CH2 := hR2.1
  refine own_fs (st2 _ (Steps.refl _)) ?_
  show own_G p.tables e below _ (T2.setTop (mkF m 11 #[.val (.ref a1), .val (.ref ca), .val (.int (0 : Int32)), .val (.int (0 : Int32)), .val .null, .unset] [(.ref la2), (.ref a1)]))
  obtain ⟨T3, X3, e3, st3⟩ := getF X2 hx hZ hown (host := "") (Or.inl (hw _ (List.mem_of_getElem? (i := 35) rfl))) Via.refl e2 PV2 (g := (mkF m 11 #[.val (.ref a1), .val (.ref ca), .val (.int (0 : Int32)), .val (.int (0 : Int32)), .val .null, .unset] [(.ref la2), (.ref a1)])) rfl rfl (hb hby own_d3_11)
  refine own_fs (st3 _ (Steps.refl _)) ?_
  show own_G p.tables e below _ (T3.setTop (mkF m 14 #[.val (.ref a1), .val (.ref ca), .val (.int (0 : Int32)), .val (.int (0 : Int32)), .val .null, .unset] [(.ref lb2), (.ref a1)]))
  obtain ⟨T4, h4, X4, e4, W4, st4⟩ := putF X3 hx hZ hown (host := "") (Or.inl (hw _ (List.mem_of_getElem? (i := 35) rfl))) Via.refl e3 (Fld.ext E2 hF_value_a1) (Exa.ext E2 hE_a1) (Or.inr ⟨(hw _ (List.mem_of_getElem? (i := 36) rfl)), rfl, hnm⟩) (hw _ (List.mem_of_getElem? (i := 8) rfl)) (ty := (.array .byte)) (by decide) rfl rfl (g := (mkF m 14 #[.val (.ref a1), .val (.ref ca), .val (.int (0 : Int32)), .val (.int (0 : Int32)), .val .null, .unset] [(.ref lb2), (.ref a1)])) rfl rfl (hb hby own_d3_14)
  refine own_fs (st4 _ (Steps.refl _)) ?_
  have Fw4 := Fld.same W4 (Fld.ext E2 hF_value_a1)
  have CH5 := CHv.wr W4 Sf2_a1 CH2
  have RR5 := CHr.trans RR2 (CHr.wr W4 Sf2_a1 CH2)
  have Sf5_a1 := Safe.wr W4 Sf2_a1 CH2 Sf2_a1
  have N4 := Fr.snoc X4 N0 ge_a1
  show own_G p.tables e below _ (T4.setTop (mkF m 17 #[.val (.ref a1), .val (.ref ca), .val (.int (0 : Int32)), .val (.int (0 : Int32)), .val .null, .unset] []))
  refine own_fs (XS.aloadN X4.here hx rfl (hb hby own_d3_17) rfl rfl (Steps.refl _)) ?_
  show own_G p.tables e below _ (T4.setTop (mkF m 18 #[.val (.ref a1), .val (.ref ca), .val (.int (0 : Int32)), .val (.int (0 : Int32)), .val .null, .unset] [(.ref a1)]))
  obtain ⟨la6, T6, h6, k6, lb6, kb6, X6, e6, E6, hS6, hk6, hZ, hown, PE6, PC6, PV6, PA6, -, -, hR6, -, hne6, st6⟩ := ldcCH X4 hx hZ hown (hw _ (List.mem_of_getElem? (i := 60) rfl)) (own_wS hw) e4 hS2 (Nat.le_trans hk2 (Keep.of_wr W4).1) hEL (List.mem_of_getElem? (i := 0) rfl) CH5 (vs := []) (z := (0 : Int32)) (own_txt_0) (by decide) (by decide) (g := (mkF m 18 #[.val (.ref a1), .val (.ref ca), .val (.int (0 : Int32)), .val (.int (0 : Int32)), .val .null, .unset] [(.ref a1)])) rfl (hb hby own_d3_18) (n := 0) (by decide) (by decide) (by decide) (by decide)
  have Sf6_a1 := CHr.safe hR6 (Exa.lt (Exa.wr W4 (Exa.ext E2 hE_a1))) Sf5_a1
  have RR6 := CHr.trans RR5 hR6
  have CH6 := hR6.1
  refine own_fs (st6 _ (Steps.refl _)) ?_
  show own_G p.tables e below _ (T6.setTop (mkF m 20 #[.val (.ref a1), .val (.ref ca), .val (.int (0 : Int32)), .val (.int (0 : Int32)), .val .null, .unset] [(.ref la6), (.ref a1)]))
  obtain ⟨T7, X7, e7, st7⟩ := getF X6 hx hZ hown (host := "") (Or.inl (hw _ (List.mem_of_getElem? (i := 33) rfl))) Via.refl e6 PC6 (g := (mkF m 20 #[.val (.ref a1), .val (.ref ca), .val (.int (0 : Int32)), .val (.int (0 : Int32)), .val .null, .unset] [(.ref la6), (.ref a1)])) rfl rfl (hb hby own_d3_20)
  refine own_fs (st7 _ (Steps.refl _)) ?_
  show own_G p.tables e below _ (T7.setTop (mkF m 23 #[.val (.ref a1), .val (.ref ca), .val (.int (0 : Int32)), .val (.int (0 : Int32)), .val .null, .unset] [(.int (0 : Int32)), (.ref a1)]))
  obtain ⟨T8, h8, X8, e8, W8, st8⟩ := putFN X7 hx hZ hown (hw _ (List.mem_of_getElem? (i := 33) rfl)) Via.refl e7 (Fld.ext E6 (Fld.other W4 (Fld.ext E2 hF_coder_a1) (Or.inr (slot_ne (Or.inr (hw _ (List.mem_of_getElem? (i := 34) rfl))) (Or.inr (hw _ (List.mem_of_getElem? (i := 36) rfl))) (by decide) (t := .byte) (t' := (.array .byte)) (by decide) (by decide))))) (Exa.ext E6 (Exa.wr W4 (Exa.ext E2 hE_a1))) (Or.inr ⟨(hw _ (List.mem_of_getElem? (i := 34) rfl)), rfl, hnm⟩) (hw _ (List.mem_of_getElem? (i := 8) rfl)) (ty := .byte) (v' := .int (nar .byte (0 : Int32))) (by decide) rfl (fits_nar_byte _) (g := (mkF m 23 #[.val (.ref a1), .val (.ref ca), .val (.int (0 : Int32)), .val (.int (0 : Int32)), .val .null, .unset] [(.int (0 : Int32)), (.ref a1)])) rfl rfl (hb hby own_d3_23)
  refine own_fs (st8 _ (Steps.refl _)) ?_
  have Fw8 := Fld.same W8 (Fld.ext E6 (Fld.other W4 (Fld.ext E2 hF_coder_a1) (Or.inr (slot_ne (Or.inr (hw _ (List.mem_of_getElem? (i := 34) rfl))) (Or.inr (hw _ (List.mem_of_getElem? (i := 36) rfl))) (by decide) (t := .byte) (t' := (.array .byte)) (by decide) (by decide)))))
  have CH9 := CHv.wr W8 Sf6_a1 CH6
  have RR9 := CHr.trans RR6 (CHr.wr W8 Sf6_a1 CH6)
  have Sf9_a1 := Safe.wr W8 Sf6_a1 CH6 Sf6_a1
  have N8 := Fr.snoc X8 N4 ge_a1
  show own_G p.tables e below _ (T8.setTop (mkF m 26 #[.val (.ref a1), .val (.ref ca), .val (.int (0 : Int32)), .val (.int (0 : Int32)), .val .null, .unset] []))
  exact own_retVW X8 hx Bd.returns hlk (hb hby own_d3_26) (by decide) (by decide) e8 hS6 (Nat.le_trans hk6 (Keep.of_wr W8).1) (by rw [hh]; exact RR9.trans (CHv.at X8 hZ hEL CH9)) ⟨lb2, kb2, rfl, N8, (((((Keep.refl _ _).ext E2).wr W4 (Or.inl (List.mem_of_getElem? (i := 0) rfl))).ext E6).wr W8 (Or.inl (List.mem_of_getElem? (i := 0) rfl))), (Exa.wr W8 (Exa.ext E6 (Exa.wr W4 (Exa.ext E2 hE_a1)))), Fw8, (Fld.other W8 (Fld.ext E6 Fw4) (Or.inr (slot_ne (Or.inr (hw _ (List.mem_of_getElem? (i := 36) rfl))) (Or.inr (hw _ (List.mem_of_getElem? (i := 34) rfl))) (by decide) (t := (.array .byte)) (t' := .byte) (by decide) (by decide)))), (((PA2.other W4 (Ne.symm (hne2 _ Sf2_a1).2)).ext E6).other W8 (Ne.symm (hne2 _ Sf2_a1).2))⟩
theorem own_iSC0_ef (m : MethodId) (x0 : Addr) (x1 : Addr) : entryFrame m #[(.ref x0), (.ref x1)] 2 = mkF m 0 #[.val (.ref x0), .val (.ref x1)] [] := by first | (simp [entryFrame, mkF, argsToLocals, Value.category]; done) | rfl
def own_iSC0_Q (Z : State) (a1 : Addr) (ca : Addr) (u2 : Int32) (kc : ClassId) (h0 : Heap) (n0 : Nat) (v : Option Value) (h : Heap) (L : List Loc) : Prop := ∃ tt : Addr, ∃ kt : ClassId, (v = none ∧ Fr n0 L ∧ Keep h0 h [a1] ∧ (Exa Z h a1 "java/lang/String") ∧ (Fld Z h a1 "java/lang/String" "coder" "B" (.int (0 : Int32))) ∧ (Fld Z h a1 "java/lang/String" "value" "[B" (.ref tt)) ∧ (Arv Z h tt kt .byte (0 : Int32) [] (.int (0 : Int32))))
set_option maxRecDepth 65536 in
set_option maxHeartbeats 40000000 in
theorem own_iSC0 (l : Launch) (Z : State) (a0 : Array Value) (hw : ∀ d ∈ tables_1, d.before a0 Z = true) (ws : List Jvm.Cond) (a1 : Addr) (ca : Addr) (u2 : Int32) (kc : ClassId) (h0 : Heap) (n0 : Nat) (Z0 : n0 ≤ h0.size) (hE_a1 : Exa Z h0 a1 "java/lang/String") (hF_value_a1 : Fld Z h0 a1 "java/lang/String" "value" "[B" .null) (hF_coder_a1 : Fld Z h0 a1 "java/lang/String" "coder" "B" (.int u2)) (ge_a1 : n0 ≤ a1) (hV_ca : Arv Z h0 ca kc .char (0 : Int32) [] (.int (0 : Int32))) :
    MetFree l (⟨"java/lang/String", "<init>", "([C)V"⟩ : MethodName) (head1 (Jvm.Cond.code (⟨"java/lang/String", "<init>", "([C)V"⟩ : MethodName) jdk_42_method_3_code 2 none :: ws) ({ frames := 2, cells := 4, slots := 8, locals := 29 } : Room)) (fun a U => a = #[(.ref a1), (.ref ca)] ∧ Z.Warmed39 U.vm ∧ U.heap = h0 ∧ CHv Z own_EL U.vm h0) (fun _ _ _ _ _ => True) (fun _ U o U' => ∃ v L, o = .returned v ∧ own_iSC0_Q Z a1 ca u2 kc h0 n0 v U'.heap L ∧ CHr Z own_EL U.vm U.heap U'.vm U'.heap ∧ ReturnedEndW U o U' L ({ frames := 2, cells := 4, slots := 8, locals := 29 } : Room).cells ({ frames := 2, cells := 4, slots := 8, locals := 29 } : Room).slots) := by
  refine MetFree.of_bodySF (plainFor_of_name own_pn1) hisR ?_
  intro p e s m args below meth c s₁ Bd hml0 hP hK
  obtain ⟨rfl, hZ, hh, CH0⟩ := hP
  have hx := Bd.exec
  have hby := Bd.bytes
  have hlk : meth.locks = false := BodyLoose.notSynchronized Bd
  have hml : c.maxLocals = 2 := hml0
  have hown : s.vm.findClass "java/lang/String" = some m.cls := findClass_of_methodNamed Bd.named
  have hnm := (name_of_methodNamed Bd.named Bd.method).1
  have X0 : Stand p l e ({ frames := 2, cells := 4, slots := 8, locals := 29 } : Room) (s.setVm s.vm) m #[(.ref a1), (.ref ca)] below meth c s₁ [] 0 0 := Stand.of_body Bd
  have e0 : s₁.heap = h0 := by rw [← hh, Bd.state]; rfl
  have N0 := Fr.nil n0
  have hEL : EW Z a0 own_EL := own_ew hw
  have hS0 : s.Since s.vm 0 := (State.WarmedH.refl s).since 0
  have hk0 : 0 ≤ h0.size := Nat.zero_le _
  have R0 := CHr.refl CH0
  refine own_startW (QQ := own_iSC0_Q Z a1 ca u2 kc h0 n0) (rc := ({ frames := 2, cells := 4, slots := 8, locals := 29 } : Room).cells) (rs := ({ frames := 2, cells := 4, slots := 8, locals := 29 } : Room).slots) hh (own_iSC0_ef m a1 ca ) ?_
  show own_G p.tables e below _ (s₁.setTop (mkF m 0 #[.val (.ref a1), .val (.ref ca)] []))
  refine own_fs (XS.aloadN X0.here hx rfl (hb hby own_d2_0) rfl rfl (Steps.refl _)) ?_
  show own_G p.tables e below _ (s₁.setTop (mkF m 1 #[.val (.ref a1), .val (.ref ca)] [(.ref a1)]))
  refine own_fs (XS.aloadN X0.here hx rfl (hb hby own_d2_1) rfl rfl (Steps.refl _)) ?_
  show own_G p.tables e below _ (s₁.setTop (mkF m 2 #[.val (.ref a1), .val (.ref ca)] [(.ref ca), (.ref a1)]))
  refine own_fs (XS.iconst X0.here hx rfl (hb hby own_d2_2) (Steps.refl _)) ?_
  show own_G p.tables e below _ (s₁.setTop (mkF m 3 #[.val (.ref a1), .val (.ref ca)] [(.int (0 : Int32)), (.ref ca), (.ref a1)]))
  refine own_fs (XS.aloadN X0.here hx rfl (hb hby own_d2_3) rfl rfl (Steps.refl _)) ?_
  show own_G p.tables e below _ (s₁.setTop (mkF m 4 #[.val (.ref a1), .val (.ref ca)] [(.ref ca), (.int (0 : Int32)), (.ref ca), (.ref a1)]))
  obtain ⟨cl1, Ar1, -, S1, O1, -, -⟩ := (id hV_ca)
  have sl1 := X0.arraylength hx (by rw [e0]; exact Ar1.1) (State.isArrayOf_alike hZ.alike Ar1.2.1) (g := (mkF m 4 #[.val (.ref a1), .val (.ref ca)] [(.ref ca), (.int (0 : Int32)), (.ref ca), (.ref a1)])) rfl rfl (hb hby own_d2_4) _ (Steps.refl _)
  rw [len_of S1 O1] at sl1
  refine own_fs sl1 ?_
  show own_G p.tables e below _ (s₁.setTop (mkF m 5 #[.val (.ref a1), .val (.ref ca)] [(.int (0 : Int32)), (.int (0 : Int32)), (.ref ca), (.ref a1)]))
  refine own_fs (XS.aconstNull X0.here hx rfl (hb hby own_d2_5) (Steps.refl _)) ?_
  show own_G p.tables e below _ (s₁.setTop (mkF m 6 #[.val (.ref a1), .val (.ref ca)] [.null, (.int (0 : Int32)), (.int (0 : Int32)), (.ref ca), (.ref a1)]))
  have Zs5 : n0 ≤ h0.size := Z0
  obtain ⟨_, _, ⟨T4, L4, k4, n4⟩, -, X4', hS4', gr4, ⟨Lc4, hQ4, l4, y4, z4, hR4⟩, st4⟩ := X0.specialBackS hx (y := (⟨"java/lang/String", "<init>", "([CIILjava/lang/Void;)V"⟩ : MethodName)) rfl hown (mvT hZ (hw _ (List.mem_of_getElem? (i := 14) rfl))) (mvT hZ (hw _ (List.mem_of_getElem? (i := 15) rfl))) (mvT hZ (hw _ (List.mem_of_getElem? (i := 17) rfl))) (by decide) (backOfSH (s := s) (vm0 := s.vm) (W := 0) (own_iS0 l Z a0 hw [] a1 ca u2 h0 n0 Zs5 hE_a1 hF_value_a1 hF_coder_a1 ge_a1) hZ (hw _ (List.mem_of_getElem? (i := 17) rfl)) (hw _ (List.mem_of_getElem? (i := 9) rfl)) (by decide) (by decide) hEL CH0) (g := (mkF m 6 #[.val (.ref a1), .val (.ref ca)] [.null, (.int (0 : Int32)), (.int (0 : Int32)), (.ref ca), (.ref a1)])) rfl (by rw [hml]; rfl) (Steps.refl _) (a := a1) (argsL := [(.ref ca), (.int (0 : Int32)), (.int (0 : Int32)), .null]) (rest := []) (lenOf own_pd0 rfl) rfl (by show 2 * 0 + _ ≤ _; exact Nat.le_of_eq rfl) (hb hby own_d2_6) (fun _ _ => ⟨rfl, e0, (by decide : 0 + 4 ≤ _), (by decide : 0 + 8 ≤ _)⟩)
  dsimp only [Pt.U, Pt.locs, Pt.cells, Pt.slots] at X4' hS4' gr4 l4 y4 z4 st4 hQ4 hR4
  subst l4 y4 z4
  obtain ⟨X4, hS4, hZ, hown⟩ := rebS hS0 (by rw [e0]; exact hk0) X4' hS4' gr4 hZ hown
  obtain ⟨h4, e4⟩ : ∃ h, T4.heap = h := ⟨_, rfl⟩
  rw [e4] at hQ4 hS4 hR4
  obtain ⟨tt2, kt2, rfl, Nq4, K4, P3_0, P3_1, P3_2, P3_3⟩ := hQ4
  have RR4 := CHr.trans R0 hR4
  have CH4 := hR4.1
  have N4 := Fr.app N0 Nq4
  refine own_fs st4 ?_
  show own_G p.tables e below _ (T4.setTop (mkF m 9 #[.val (.ref a1), .val (.ref ca)] []))
  exact own_retVW X4 hx Bd.returns hlk (hb hby own_d2_9) (by decide) (by decide) e4 hS4 (Nat.le_refl _) (by rw [hh]; exact RR4.trans (CHv.at X4 hZ hEL CH4)) ⟨tt2, kt2, rfl, N4, ((Keep.refl _ _).trans K4 (allS (Or.inl (List.mem_of_getElem? (i := 0) rfl)) all0)), P3_0, P3_1, P3_2, P3_3⟩
theorem own_str_ef (m : MethodId) (x0 : Int32) (x1 : Int32) (x2 : Int32) : entryFrame m #[(.int x0), (.int x1), (.int x2)] 3 = mkF m 0 #[.val (.int x0), .val (.int x1), .val (.int x2)] [] := by first | (simp [entryFrame, mkF, argsToLocals, Value.category]; done) | rfl
def own_str_Q (Z : State) (p1 : Int32) (p2 : Int32) (p3 : Int32) (cz : Int32) (h0 : Heap) (n0 : Nat) (v : Option Value) (h : Heap) (L : List Loc) : Prop := ∃ ar : Addr, ∃ tt : Addr, ∃ kt : ClassId, (v = some (.ref ar) ∧ Fr n0 L ∧ Keep h0 h [] ∧ (Exa Z h ar "java/lang/String") ∧ (Fld Z h ar "java/lang/String" "value" "[B" (.ref tt)) ∧ (Fld Z h ar "java/lang/String" "coder" "B" (.int (0 : Int32))) ∧ (Arv Z h tt kt .byte (Int32.ofNat (own_cs p1 p2 p3).length) ((own_cs p1 p2 p3).map fun c => Value.int (c.toInt8.toInt32)) (.int (0 : Int32))) ∧ (h0.size ≤ ar))
set_option maxRecDepth 65536 in
set_option maxHeartbeats 40000000 in
theorem own_str (l : Launch) (Z : State) (a0 : Array Value) (hw : ∀ d ∈ tables_1, d.before a0 Z = true) (ws : List Jvm.Cond) (p1 : Int32) (p2 : Int32) (p3 : Int32) (cz : Int32) (h0 : Heap) (n0 : Nat) (Z0 : n0 ≤ h0.size) (hSc : Sta Z Z.heap "java/lang/String" "COMPACT_STRINGS" "Z" (.int cz)) (hcz : ¬ (cz = (0 : Int32))) (hOld : Old Z n0 h0) (hp2 : ¬ p2 < 0 ∧ ¬ (255 : Int32) < p2) (hp3 : ¬ p3 < 0 ∧ ¬ (255 : Int32) < p3) :
    MetFree l (⟨"com/example/diligent_tableau/diligenttableau/logic/IndividualEqualsPinLaw", "str", "(ICC)Ljava/lang/String;"⟩ : MethodName) (head1 (Jvm.Cond.code (⟨"com/example/diligent_tableau/diligenttableau/logic/IndividualEqualsPinLaw", "str", "(ICC)Ljava/lang/String;"⟩ : MethodName) method_2_code 3 (some (.object "java/lang/String")) :: ws) ({ frames := 4, cells := 6, slots := 12, locals := 66 } : Room)) (fun a U => a = #[(.int p1), (.int p2), (.int p3)] ∧ Z.Warmed39 U.vm ∧ U.heap = h0 ∧ CHv Z own_EL U.vm h0) (fun _ _ _ _ _ => True) (fun _ U o U' => ∃ v L, o = .returned v ∧ own_str_Q Z p1 p2 p3 cz h0 n0 v U'.heap L ∧ CHr Z own_EL U.vm U.heap U'.vm U'.heap ∧ ReturnedEndW U o U' L ({ frames := 4, cells := 6, slots := 12, locals := 66 } : Room).cells ({ frames := 4, cells := 6, slots := 12, locals := 66 } : Room).slots) := by
  refine MetFree.of_bodySF (plainFor_of_name own_pn2) hisR ?_
  intro p e s m args below meth c s₁ Bd hml0 hP hK
  obtain ⟨rfl, hZ, hh, CH0⟩ := hP
  have hx := Bd.exec
  have hby := Bd.bytes
  have hlk : meth.locks = false := BodyLoose.notSynchronized Bd
  have hml : c.maxLocals = 3 := hml0
  have hown : s.vm.findClass "com/example/diligent_tableau/diligenttableau/logic/IndividualEqualsPinLaw" = some m.cls := findClass_of_methodNamed Bd.named
  have hnm := (name_of_methodNamed Bd.named Bd.method).1
  have X0 : Stand p l e ({ frames := 4, cells := 6, slots := 12, locals := 66 } : Room) (s.setVm s.vm) m #[(.int p1), (.int p2), (.int p3)] below meth c s₁ [] 0 0 := Stand.of_body Bd
  have e0 : s₁.heap = h0 := by rw [← hh, Bd.state]; rfl
  have N0 := Fr.nil n0
  have hEL : EW Z a0 own_EL := own_ew hw
  have hS0 : s.Since s.vm 0 := (State.WarmedH.refl s).since 0
  have hk0 : 0 ≤ h0.size := Nat.zero_le _
  have R0 := CHr.refl CH0
  refine own_startW (QQ := own_str_Q Z p1 p2 p3 cz h0 n0) (rc := ({ frames := 4, cells := 6, slots := 12, locals := 66 } : Room).cells) (rs := ({ frames := 4, cells := 6, slots := 12, locals := 66 } : Room).slots) hh (own_str_ef m p1 p2 p3 ) ?_
  show own_G p.tables e below _ (s₁.setTop (mkF m 0 #[.val (.int p1), .val (.int p2), .val (.int p3)] []))
  refine own_fs (XS.iloadN X0.here hx rfl (hb hby own_d1_0) rfl (Steps.refl _)) ?_
  show own_G p.tables e below _ (s₁.setTop (mkF m 1 #[.val (.int p1), .val (.int p2), .val (.int p3)] [(.int p1)]))
  by_cases hc1 : p1 = (0 : Int32)
  · refine own_fs (XS.ifNo X0.here hx rfl (hb hby own_d1_1) rfl (XT.i0_ne_f hc1) (Steps.refl _)) ?_
    show own_G p.tables e below _ (s₁.setTop (mkF m 4 #[.val (.int p1), .val (.int p2), .val (.int p3)] []))
    obtain ⟨T1, h1, X1, e1, E1, A1, D1, -, st1⟩ := newO X0 hx hZ hown (hw _ (List.mem_of_getElem? (i := 7) rfl)) (hw _ (List.mem_of_getElem? (i := 8) rfl)) (hw _ (List.mem_of_getElem? (i := 9) rfl)) e0 (g := (mkF m 4 #[.val (.int p1), .val (.int p2), .val (.int p3)] [])) rfl (hb hby own_d1_4) (by decide) (by decide)
    obtain ⟨b1, g1⟩ : ∃ z, z = h0.size := ⟨_, rfl⟩
    rw [← g1] at A1 D1 st1
    have ge_b1 : n0 ≤ b1 := Nat.le_trans Z0 (Nat.le_of_eq g1.symm)
    have gz_b1 : h0.size ≤ b1 := Nat.le_trans (Nat.le_refl _) (Nat.le_of_eq g1.symm)
    have Sf_b1 : Safe Z own_EL s.vm h0 b1 := Safe.new (Nat.le_of_eq g1.symm)
    have CH2 := CHv.ext E1 CH0
    have RR2 := CHr.trans R0 (CHr.ext E1 CH0)
    have Sf2_b1 := Safe.ext E1 CH0 Sf_b1
    have F_coder_b1 : Fld Z h1 b1 "java/lang/String" "coder" "B" (.int (0 : Int32)) := D1 (Or.inr (hw _ (List.mem_of_getElem? (i := 34) rfl))) (ty := .byte) (by decide)
    have F_value_b1 : Fld Z h1 b1 "java/lang/String" "value" "[B" .null := D1 (Or.inr (hw _ (List.mem_of_getElem? (i := 36) rfl))) (ty := (.array .byte)) (by decide)
    refine own_fs (st1 _ (Steps.refl _)) ?_
    show own_G p.tables e below _ (T1.setTop (mkF m 7 #[.val (.int p1), .val (.int p2), .val (.int p3)] [(.ref b1)]))
    refine own_fs (XS.dup X1.here hx rfl (hb hby own_d1_7) rfl rfl (Steps.refl _)) ?_
    show own_G p.tables e below _ (T1.setTop (mkF m 8 #[.val (.int p1), .val (.int p2), .val (.int p3)] [(.ref b1), (.ref b1)]))
    refine own_fs (XS.iconst X1.here hx rfl (hb hby own_d1_8) (Steps.refl _)) ?_
    show own_G p.tables e below _ (T1.setTop (mkF m 9 #[.val (.int p1), .val (.int p2), .val (.int p3)] [(.int (0 : Int32)), (.ref b1), (.ref b1)]))
    obtain ⟨T3, h3, k3, X3, e3, E3, A3, st3⟩ := newP X1 hx hZ (hw _ (List.mem_of_getElem? (i := 10) rfl)) e1 (g := (mkF m 9 #[.val (.int p1), .val (.int p2), .val (.int p3)] [(.int (0 : Int32)), (.ref b1), (.ref b1)])) rfl (hb hby own_d1_9) rfl (by decide) (cap := 0) (by decide) (by decide) (by decide) (by decide)
    obtain ⟨b3, g3⟩ : ∃ z, z = h1.size := ⟨_, rfl⟩
    rw [← g3] at A3 st3
    have ge_b3 : n0 ≤ b3 := Nat.le_trans (Nat.le_trans Z0 E1.1) (Nat.le_of_eq g3.symm)
    have gz_b3 : h0.size ≤ b3 := Nat.le_trans (Nat.le_trans (Nat.le_refl _) E1.1) (Nat.le_of_eq g3.symm)
    have Sf_b3 : Safe Z own_EL s.vm h1 b3 := Safe.new (Nat.le_of_eq g3.symm)
    have V_b3 : Arv Z h3 b3 k3 .char (0 : Int32) [] (.int (0 : Int32)) := (Arv.new A3 (by decide)).pad (pad_rep [] (.int (0 : Int32)) 0)
    have CH4 := CHv.ext E3 CH2
    have RR4 := CHr.trans RR2 (CHr.ext E3 CH2)
    have Sf4_b1 := Safe.ext E3 CH2 Sf2_b1
    have Sf4_b3 := Safe.ext E3 CH2 Sf_b3
    refine own_fs (st3 _ (Steps.refl _)) ?_
    show own_G p.tables e below _ (T3.setTop (mkF m 11 #[.val (.int p1), .val (.int p2), .val (.int p3)] [(.ref b3), (.ref b1), (.ref b1)]))
    have Zs8 : n0 ≤ h3.size := (Nat.le_trans (Nat.le_trans Z0 E1.1) E3.1)
    obtain ⟨_, _, ⟨T7, L7, k7, n7⟩, -, X7', hS7', gr7, ⟨Lc7, hQ7, l7, y7, z7, hR7⟩, st7⟩ := X3.specialBackS hx (y := (⟨"java/lang/String", "<init>", "([C)V"⟩ : MethodName)) rfl hown (mvT hZ (hw _ (List.mem_of_getElem? (i := 11) rfl))) (mvT hZ (hw _ (List.mem_of_getElem? (i := 12) rfl))) (mvT hZ (hw _ (List.mem_of_getElem? (i := 13) rfl))) (by decide) (backOfSH (s := s) (vm0 := s.vm) (W := 1) (own_iSC0 l Z a0 hw [] b1 b3 (0 : Int32) k3 h3 n0 Zs8 (Exa.ext E3 A1) (Fld.ext E3 F_value_b1) (Fld.ext E3 F_coder_b1) ge_b1 V_b3) hZ (hw _ (List.mem_of_getElem? (i := 13) rfl)) (hw _ (List.mem_of_getElem? (i := 9) rfl)) (by decide) (by decide) hEL CH4) (g := (mkF m 11 #[.val (.int p1), .val (.int p2), .val (.int p3)] [(.ref b3), (.ref b1), (.ref b1)])) rfl (by rw [hml]; rfl) (Steps.refl _) (a := b1) (argsL := [(.ref b3)]) (rest := [(.ref b1)]) (lenOf own_pd1 rfl) rfl (by show 2 * 0 + _ ≤ _; exact Nat.le_of_eq rfl) (hb hby own_d1_11) (fun _ _ => ⟨rfl, e3, (by decide : 2 + 4 ≤ _), (by decide : 4 + 8 ≤ _)⟩)
    dsimp only [Pt.U, Pt.locs, Pt.cells, Pt.slots] at X7' hS7' gr7 l7 y7 z7 st7 hQ7 hR7
    subst l7 y7 z7
    obtain ⟨X7, hS7, hZ, hown⟩ := rebS hS0 (by rw [e3]; exact (Nat.le_trans (Nat.le_trans hk0 E1.1) E3.1)) X7' hS7' gr7 hZ hown
    obtain ⟨h7, e7⟩ : ∃ h, T7.heap = h := ⟨_, rfl⟩
    rw [e7] at hQ7 hS7 hR7
    obtain ⟨tt5, kt5, rfl, Nq7, K7, P6_0, P6_1, P6_2, P6_3⟩ := hQ7
    have Sf7_b1 := CHr.safe hR7 (Exa.lt (Exa.ext E3 A1)) Sf4_b1
    have Sf7_b3 := CHr.safe hR7 (Arv.lt V_b3) Sf4_b3
    have RR7 := CHr.trans RR4 hR7
    have CH7 := hR7.1
    have N7 := Fr.app N0 Nq7
    refine own_fs st7 ?_
    show own_G p.tables e below _ (T7.setTop (mkF m 14 #[.val (.int p1), .val (.int p2), .val (.int p3)] [(.ref b1)]))
    exact own_retAW X7 hx (t := (.object "java/lang/String")) Bd.returns hlk rfl rfl (hb hby own_d1_14) (by decide) (by decide) e7 hS7 (Nat.le_refl _) (by rw [hh]; exact RR7.trans (CHv.at X7 hZ hEL CH7)) ⟨b1, tt5, kt5, rfl, N7, ((((Keep.refl _ _).ext E1).ext E3).trans K7 (allS (Or.inr gz_b1) all0)), P6_0, P6_2, P6_1, (by rw [show own_cs p1 p2 p3 = [] from by simp only [own_cs, if_pos hc1]]; exact P6_3), gz_b1⟩
  · refine own_fs (XS.ifYes X0.here hx rfl (pc0 := 1) (pc' := 15) rfl (hb hby own_d1_1) rfl (XT.i0_ne_t hc1) (by decide) (by decide) (Steps.refl _)) ?_
    show own_G p.tables e below _ (s₁.setTop (mkF m 15 #[.val (.int p1), .val (.int p2), .val (.int p3)] []))
    refine own_fs (XS.iloadN X0.here hx rfl (hb hby own_d1_15) rfl (Steps.refl _)) ?_
    show own_G p.tables e below _ (s₁.setTop (mkF m 16 #[.val (.int p1), .val (.int p2), .val (.int p3)] [(.int p1)]))
    refine own_fs (XS.iconst X0.here hx rfl (hb hby own_d1_16) (Steps.refl _)) ?_
    show own_G p.tables e below _ (s₁.setTop (mkF m 17 #[.val (.int p1), .val (.int p2), .val (.int p3)] [(.int (1 : Int32)), (.int p1)]))
    by_cases hc17 : p1 = (1 : Int32)
    · refine own_fs (XS.icmpNo X0.here hx rfl (hb hby own_d1_17) rfl (XT.ii_ne_f hc17) (Steps.refl _)) ?_
      show own_G p.tables e below _ (s₁.setTop (mkF m 20 #[.val (.int p1), .val (.int p2), .val (.int p3)] []))
      obtain ⟨T9, h9, X9, e9, E9, A9, D9, -, st9⟩ := newO X0 hx hZ hown (hw _ (List.mem_of_getElem? (i := 7) rfl)) (hw _ (List.mem_of_getElem? (i := 8) rfl)) (hw _ (List.mem_of_getElem? (i := 9) rfl)) e0 (g := (mkF m 20 #[.val (.int p1), .val (.int p2), .val (.int p3)] [])) rfl (hb hby own_d1_20) (by decide) (by decide)
      obtain ⟨b9, g9⟩ : ∃ z, z = h0.size := ⟨_, rfl⟩
      rw [← g9] at A9 D9 st9
      have ge_b9 : n0 ≤ b9 := Nat.le_trans Z0 (Nat.le_of_eq g9.symm)
      have gz_b9 : h0.size ≤ b9 := Nat.le_trans (Nat.le_refl _) (Nat.le_of_eq g9.symm)
      have Sf_b9 : Safe Z own_EL s.vm h0 b9 := Safe.new (Nat.le_of_eq g9.symm)
      have CH10 := CHv.ext E9 CH0
      have RR10 := CHr.trans R0 (CHr.ext E9 CH0)
      have Sf10_b9 := Safe.ext E9 CH0 Sf_b9
      have F_coder_b9 : Fld Z h9 b9 "java/lang/String" "coder" "B" (.int (0 : Int32)) := D9 (Or.inr (hw _ (List.mem_of_getElem? (i := 34) rfl))) (ty := .byte) (by decide)
      have F_value_b9 : Fld Z h9 b9 "java/lang/String" "value" "[B" .null := D9 (Or.inr (hw _ (List.mem_of_getElem? (i := 36) rfl))) (ty := (.array .byte)) (by decide)
      refine own_fs (st9 _ (Steps.refl _)) ?_
      show own_G p.tables e below _ (T9.setTop (mkF m 23 #[.val (.int p1), .val (.int p2), .val (.int p3)] [(.ref b9)]))
      refine own_fs (XS.dup X9.here hx rfl (hb hby own_d1_23) rfl rfl (Steps.refl _)) ?_
      show own_G p.tables e below _ (T9.setTop (mkF m 24 #[.val (.int p1), .val (.int p2), .val (.int p3)] [(.ref b9), (.ref b9)]))
      refine own_fs (XS.iconst X9.here hx rfl (hb hby own_d1_24) (Steps.refl _)) ?_
      show own_G p.tables e below _ (T9.setTop (mkF m 25 #[.val (.int p1), .val (.int p2), .val (.int p3)] [(.int (1 : Int32)), (.ref b9), (.ref b9)]))
      obtain ⟨T11, h11, k11, X11, e11, E11, A11, st11⟩ := newP X9 hx hZ (hw _ (List.mem_of_getElem? (i := 10) rfl)) e9 (g := (mkF m 25 #[.val (.int p1), .val (.int p2), .val (.int p3)] [(.int (1 : Int32)), (.ref b9), (.ref b9)])) rfl (hb hby own_d1_25) rfl (by decide) (cap := 1) (by decide) (by decide) (by decide) (by decide)
      obtain ⟨b11, g11⟩ : ∃ z, z = h9.size := ⟨_, rfl⟩
      rw [← g11] at A11 st11
      have ge_b11 : n0 ≤ b11 := Nat.le_trans (Nat.le_trans Z0 E9.1) (Nat.le_of_eq g11.symm)
      have gz_b11 : h0.size ≤ b11 := Nat.le_trans (Nat.le_trans (Nat.le_refl _) E9.1) (Nat.le_of_eq g11.symm)
      have Sf_b11 : Safe Z own_EL s.vm h9 b11 := Safe.new (Nat.le_of_eq g11.symm)
      have V_b11 : Arv Z h11 b11 k11 .char (1 : Int32) [(.int (0 : Int32))] (.int (0 : Int32)) := (Arv.new A11 (by decide)).pad (pad_rep [] (.int (0 : Int32)) 1)
      have CH12 := CHv.ext E11 CH10
      have RR12 := CHr.trans RR10 (CHr.ext E11 CH10)
      have Sf12_b9 := Safe.ext E11 CH10 Sf10_b9
      have Sf12_b11 := Safe.ext E11 CH10 Sf_b11
      refine own_fs (st11 _ (Steps.refl _)) ?_
      show own_G p.tables e below _ (T11.setTop (mkF m 27 #[.val (.int p1), .val (.int p2), .val (.int p3)] [(.ref b11), (.ref b9), (.ref b9)]))
      refine own_fs (XS.dup X11.here hx rfl (hb hby own_d1_27) rfl rfl (Steps.refl _)) ?_
      show own_G p.tables e below _ (T11.setTop (mkF m 28 #[.val (.int p1), .val (.int p2), .val (.int p3)] [(.ref b11), (.ref b11), (.ref b9), (.ref b9)]))
      refine own_fs (XS.iconst X11.here hx rfl (hb hby own_d1_28) (Steps.refl _)) ?_
      show own_G p.tables e below _ (T11.setTop (mkF m 29 #[.val (.int p1), .val (.int p2), .val (.int p3)] [(.int (0 : Int32)), (.ref b11), (.ref b11), (.ref b9), (.ref b9)]))
      refine own_fs (XS.iloadN X11.here hx rfl (hb hby own_d1_29) rfl (Steps.refl _)) ?_
      show own_G p.tables e below _ (T11.setTop (mkF m 30 #[.val (.int p1), .val (.int p2), .val (.int p3)] [(.int p2), (.int (0 : Int32)), (.ref b11), (.ref b11), (.ref b9), (.ref b9)]))
      obtain ⟨cl13, Ar13, q13, S13, O13, H13, G13⟩ := (id V_b11)
      obtain ⟨T14, h14, X14, e14, W14, st14⟩ := stC X11 hx hZ e11 Ar13 (j := (0 : Int32)) (inb_of S13 ⟨by decide, by decide⟩) (g := (mkF m 30 #[.val (.int p1), .val (.int p2), .val (.int p3)] [(.int p2), (.int (0 : Int32)), (.ref b11), (.ref b11), (.ref b9), (.ref b9)])) rfl rfl (hb hby own_d1_30)
      refine own_fs (st14 _ (Steps.refl _)) ?_
      have V14 : Arv Z h14 b11 k11 .char (1 : Int32) [(.int (nar .char p2))] (.int (0 : Int32)) := Arv.set Ar13 q13 S13 O13 H13 G13 (fits_nar_char _) W14 0 rfl (Nat.le_of_ble_eq_true rfl)
      have CH15 := CHv.wr W14 Sf12_b11 CH12
      have RR15 := CHr.trans RR12 (CHr.wr W14 Sf12_b11 CH12)
      have Sf15_b9 := Safe.wr W14 Sf12_b11 CH12 Sf12_b9
      have Sf15_b11 := Safe.wr W14 Sf12_b11 CH12 Sf12_b11
      have N14 := Fr.snoc X14 N0 ge_b11
      show own_G p.tables e below _ (T14.setTop (mkF m 31 #[.val (.int p1), .val (.int p2), .val (.int p3)] [(.ref b11), (.ref b9), (.ref b9)]))
      have hws : ∀ d ∈ StrChars.Road.words, d.before a0 Z = true := fun d hd => hw d ((by decide +kernel : ∀ d ∈ StrChars.Road.words, d ∈ tables_1) d hd)
      have hlat : ∀ c ∈ [(nar .char p2)], ¬ c < 0 ∧ ¬ (255 : Int32) < c := by
        intro c hc
        simp only [List.mem_cons, List.not_mem_nil, or_false] at hc
        rcases hc with rfl
        · exact own_narc hp2
      have Zs19 : n0 ≤ h14.size := (Nat.le_trans (Nat.le_trans (Nat.le_trans Z0 E9.1) E11.1) (Keep.of_wr W14).1)
      obtain ⟨_, _, ⟨T18, L18, k18, n18⟩, -, X18, ⟨Lc18, hQ18, l18, y18, z18⟩, st18⟩ := X14.specialBack hx (y := (⟨"java/lang/String", "<init>", "([C)V"⟩ : MethodName)) rfl hown (mvT hZ (hw _ (List.mem_of_getElem? (i := 11) rfl))) (mvT hZ (hw _ (List.mem_of_getElem? (i := 12) rfl))) (mvT hZ (hw _ (List.mem_of_getElem? (i := 13) rfl))) (by decide) (StrChars.Road.backV (W := 1) hZ hws (kI := 4) (hw _ (List.mem_of_getElem? (i := 8) rfl)) (cs := [(nar .char p2)]) (bs := [((nar .char p2)).toInt8.toInt32]) (n := 1) ge_b9 (Nat.le_trans (Nat.le_trans (Nat.le_trans Z0 E9.1) E11.1) (Keep.of_wr W14).1) (Exa.wr W14 (Exa.ext E11 A9)) (Fld.other W14 (Fld.ext E11 F_value_b9) (Or.inl (Nat.ne_of_lt (Nat.lt_of_lt_of_le (Exa.lt A9) (Nat.le_of_eq g11.symm))))) (Fld.other W14 (Fld.ext E11 F_coder_b9) (Or.inl (Nat.ne_of_lt (Nat.lt_of_lt_of_le (Exa.lt A9) (Nat.le_of_eq g11.symm))))) V14 (Sta.ext (Old.wr (Old.ext (Old.ext hOld E9) E11) W14 ge_b11).2 hSc) hcz rfl rfl (by decide) (by decide) hlat rfl (by decide) (by decide)) (g := (mkF m 31 #[.val (.int p1), .val (.int p2), .val (.int p3)] [(.ref b11), (.ref b9), (.ref b9)])) rfl (by rw [hml]; rfl) (Steps.refl _) (a := b9) (argsL := [(.ref b11)]) (rest := [(.ref b9)]) (lenOf own_pd1 rfl) rfl (by show 2 * 0 + _ ≤ _; exact Nat.le_of_eq rfl) (hb hby own_d1_31) (fun _ _ => ⟨rfl, e14, (by decide : 2 + 1 ≤ _), (by decide : 5 + 1 ≤ _)⟩)
      dsimp only [Pt.U, Pt.locs, Pt.cells, Pt.slots] at X18 l18 y18 z18 st18 hQ18
      subst l18 y18 z18
      obtain ⟨h18, e18⟩ : ∃ h, T18.heap = h := ⟨_, rfl⟩
      rw [e18] at hQ18
      obtain ⟨rfl, Nq18, K18, PE17, PC17, tt17, kb17, Pg17, Pz17, Pn17, PV17, PA17⟩ := hQ18
      have CH20 := CHv.keep K18 (sfS Sf15_b9 sf0) CH15
      have RR20 := CHr.trans RR15 (CHr.keep K18 (sfS Sf15_b9 sf0) CH15)
      have Sf20_b9 := Safe.keep K18 (sfS Sf15_b9 sf0) CH15 Sf15_b9
      have Sf20_b11 := Safe.keep K18 (sfS Sf15_b9 sf0) CH15 Sf15_b11
      have N18 := Fr.app N14 Nq18
      refine own_fs st18 ?_
      show own_G p.tables e below _ (T18.setTop (mkF m 34 #[.val (.int p1), .val (.int p2), .val (.int p3)] [(.ref b9)]))
      exact own_retAW X18 hx (t := (.object "java/lang/String")) Bd.returns hlk rfl rfl (hb hby own_d1_34) (by decide) (by decide) e18 hS0 (Nat.le_trans (Nat.le_trans (Nat.le_trans (Nat.le_trans hk0 E9.1) E11.1) (Keep.of_wr W14).1) K18.1) (by rw [hh]; exact RR20.trans (CHv.at X18 hZ hEL CH20)) ⟨b9, tt17, kb17, rfl, N18, (((((Keep.refl _ _).ext E9).ext E11).wr W14 (Or.inr gz_b11)).trans K18 (allS (Or.inr gz_b9) all0)), PE17, PV17, PC17, (by rw [show own_cs p1 p2 p3 = [nar .char p2] from by simp only [own_cs, if_neg hc1, if_pos hc17]]; exact PA17), gz_b9⟩
    · refine own_fs (XS.icmpYes X0.here hx rfl (pc0 := 17) (pc' := 35) rfl (hb hby own_d1_17) rfl (XT.ii_ne_t hc17) (by decide) (by decide) (Steps.refl _)) ?_
      show own_G p.tables e below _ (s₁.setTop (mkF m 35 #[.val (.int p1), .val (.int p2), .val (.int p3)] []))
      obtain ⟨T21, h21, X21, e21, E21, A21, D21, -, st21⟩ := newO X0 hx hZ hown (hw _ (List.mem_of_getElem? (i := 7) rfl)) (hw _ (List.mem_of_getElem? (i := 8) rfl)) (hw _ (List.mem_of_getElem? (i := 9) rfl)) e0 (g := (mkF m 35 #[.val (.int p1), .val (.int p2), .val (.int p3)] [])) rfl (hb hby own_d1_35) (by decide) (by decide)
      obtain ⟨b21, g21⟩ : ∃ z, z = h0.size := ⟨_, rfl⟩
      rw [← g21] at A21 D21 st21
      have ge_b21 : n0 ≤ b21 := Nat.le_trans Z0 (Nat.le_of_eq g21.symm)
      have gz_b21 : h0.size ≤ b21 := Nat.le_trans (Nat.le_refl _) (Nat.le_of_eq g21.symm)
      have Sf_b21 : Safe Z own_EL s.vm h0 b21 := Safe.new (Nat.le_of_eq g21.symm)
      have CH22 := CHv.ext E21 CH0
      have RR22 := CHr.trans R0 (CHr.ext E21 CH0)
      have Sf22_b21 := Safe.ext E21 CH0 Sf_b21
      have F_coder_b21 : Fld Z h21 b21 "java/lang/String" "coder" "B" (.int (0 : Int32)) := D21 (Or.inr (hw _ (List.mem_of_getElem? (i := 34) rfl))) (ty := .byte) (by decide)
      have F_value_b21 : Fld Z h21 b21 "java/lang/String" "value" "[B" .null := D21 (Or.inr (hw _ (List.mem_of_getElem? (i := 36) rfl))) (ty := (.array .byte)) (by decide)
      refine own_fs (st21 _ (Steps.refl _)) ?_
      show own_G p.tables e below _ (T21.setTop (mkF m 38 #[.val (.int p1), .val (.int p2), .val (.int p3)] [(.ref b21)]))
      refine own_fs (XS.dup X21.here hx rfl (hb hby own_d1_38) rfl rfl (Steps.refl _)) ?_
      show own_G p.tables e below _ (T21.setTop (mkF m 39 #[.val (.int p1), .val (.int p2), .val (.int p3)] [(.ref b21), (.ref b21)]))
      refine own_fs (XS.iconst X21.here hx rfl (hb hby own_d1_39) (Steps.refl _)) ?_
      show own_G p.tables e below _ (T21.setTop (mkF m 40 #[.val (.int p1), .val (.int p2), .val (.int p3)] [(.int (2 : Int32)), (.ref b21), (.ref b21)]))
      obtain ⟨T23, h23, k23, X23, e23, E23, A23, st23⟩ := newP X21 hx hZ (hw _ (List.mem_of_getElem? (i := 10) rfl)) e21 (g := (mkF m 40 #[.val (.int p1), .val (.int p2), .val (.int p3)] [(.int (2 : Int32)), (.ref b21), (.ref b21)])) rfl (hb hby own_d1_40) rfl (by decide) (cap := 2) (by decide) (by decide) (by decide) (by decide)
      obtain ⟨b23, g23⟩ : ∃ z, z = h21.size := ⟨_, rfl⟩
      rw [← g23] at A23 st23
      have ge_b23 : n0 ≤ b23 := Nat.le_trans (Nat.le_trans Z0 E21.1) (Nat.le_of_eq g23.symm)
      have gz_b23 : h0.size ≤ b23 := Nat.le_trans (Nat.le_trans (Nat.le_refl _) E21.1) (Nat.le_of_eq g23.symm)
      have Sf_b23 : Safe Z own_EL s.vm h21 b23 := Safe.new (Nat.le_of_eq g23.symm)
      have V_b23 : Arv Z h23 b23 k23 .char (2 : Int32) [(.int (0 : Int32)), (.int (0 : Int32))] (.int (0 : Int32)) := (Arv.new A23 (by decide)).pad (pad_rep [] (.int (0 : Int32)) 2)
      have CH24 := CHv.ext E23 CH22
      have RR24 := CHr.trans RR22 (CHr.ext E23 CH22)
      have Sf24_b21 := Safe.ext E23 CH22 Sf22_b21
      have Sf24_b23 := Safe.ext E23 CH22 Sf_b23
      refine own_fs (st23 _ (Steps.refl _)) ?_
      show own_G p.tables e below _ (T23.setTop (mkF m 42 #[.val (.int p1), .val (.int p2), .val (.int p3)] [(.ref b23), (.ref b21), (.ref b21)]))
      refine own_fs (XS.dup X23.here hx rfl (hb hby own_d1_42) rfl rfl (Steps.refl _)) ?_
      show own_G p.tables e below _ (T23.setTop (mkF m 43 #[.val (.int p1), .val (.int p2), .val (.int p3)] [(.ref b23), (.ref b23), (.ref b21), (.ref b21)]))
      refine own_fs (XS.iconst X23.here hx rfl (hb hby own_d1_43) (Steps.refl _)) ?_
      show own_G p.tables e below _ (T23.setTop (mkF m 44 #[.val (.int p1), .val (.int p2), .val (.int p3)] [(.int (0 : Int32)), (.ref b23), (.ref b23), (.ref b21), (.ref b21)]))
      refine own_fs (XS.iloadN X23.here hx rfl (hb hby own_d1_44) rfl (Steps.refl _)) ?_
      show own_G p.tables e below _ (T23.setTop (mkF m 45 #[.val (.int p1), .val (.int p2), .val (.int p3)] [(.int p2), (.int (0 : Int32)), (.ref b23), (.ref b23), (.ref b21), (.ref b21)]))
      obtain ⟨cl25, Ar25, q25, S25, O25, H25, G25⟩ := (id V_b23)
      obtain ⟨T26, h26, X26, e26, W26, st26⟩ := stC X23 hx hZ e23 Ar25 (j := (0 : Int32)) (inb_of S25 ⟨by decide, by decide⟩) (g := (mkF m 45 #[.val (.int p1), .val (.int p2), .val (.int p3)] [(.int p2), (.int (0 : Int32)), (.ref b23), (.ref b23), (.ref b21), (.ref b21)])) rfl rfl (hb hby own_d1_45)
      refine own_fs (st26 _ (Steps.refl _)) ?_
      have V26 : Arv Z h26 b23 k23 .char (2 : Int32) [(.int (nar .char p2)), (.int (0 : Int32))] (.int (0 : Int32)) := Arv.set Ar25 q25 S25 O25 H25 G25 (fits_nar_char _) W26 0 rfl (Nat.le_of_ble_eq_true rfl)
      have CH27 := CHv.wr W26 Sf24_b23 CH24
      have RR27 := CHr.trans RR24 (CHr.wr W26 Sf24_b23 CH24)
      have Sf27_b21 := Safe.wr W26 Sf24_b23 CH24 Sf24_b21
      have Sf27_b23 := Safe.wr W26 Sf24_b23 CH24 Sf24_b23
      have N26 := Fr.snoc X26 N0 ge_b23
      show own_G p.tables e below _ (T26.setTop (mkF m 46 #[.val (.int p1), .val (.int p2), .val (.int p3)] [(.ref b23), (.ref b21), (.ref b21)]))
      refine own_fs (XS.dup X26.here hx rfl (hb hby own_d1_46) rfl rfl (Steps.refl _)) ?_
      show own_G p.tables e below _ (T26.setTop (mkF m 47 #[.val (.int p1), .val (.int p2), .val (.int p3)] [(.ref b23), (.ref b23), (.ref b21), (.ref b21)]))
      refine own_fs (XS.iconst X26.here hx rfl (hb hby own_d1_47) (Steps.refl _)) ?_
      show own_G p.tables e below _ (T26.setTop (mkF m 48 #[.val (.int p1), .val (.int p2), .val (.int p3)] [(.int (1 : Int32)), (.ref b23), (.ref b23), (.ref b21), (.ref b21)]))
      refine own_fs (XS.iloadN X26.here hx rfl (hb hby own_d1_48) rfl (Steps.refl _)) ?_
      show own_G p.tables e below _ (T26.setTop (mkF m 49 #[.val (.int p1), .val (.int p2), .val (.int p3)] [(.int p3), (.int (1 : Int32)), (.ref b23), (.ref b23), (.ref b21), (.ref b21)]))
      obtain ⟨cl28, Ar28, q28, S28, O28, H28, G28⟩ := (id V26)
      obtain ⟨T29, h29, X29, e29, W29, st29⟩ := stC X26 hx hZ e26 Ar28 (j := (1 : Int32)) (inb_of S28 ⟨by decide, by decide⟩) (g := (mkF m 49 #[.val (.int p1), .val (.int p2), .val (.int p3)] [(.int p3), (.int (1 : Int32)), (.ref b23), (.ref b23), (.ref b21), (.ref b21)])) rfl rfl (hb hby own_d1_49)
      refine own_fs (st29 _ (Steps.refl _)) ?_
      have V29 : Arv Z h29 b23 k23 .char (2 : Int32) [(.int (nar .char p2)), (.int (nar .char p3))] (.int (0 : Int32)) := Arv.set Ar28 q28 S28 O28 H28 G28 (fits_nar_char _) W29 1 rfl (Nat.le_of_ble_eq_true rfl)
      have CH30 := CHv.wr W29 Sf27_b23 CH27
      have RR30 := CHr.trans RR27 (CHr.wr W29 Sf27_b23 CH27)
      have Sf30_b21 := Safe.wr W29 Sf27_b23 CH27 Sf27_b21
      have Sf30_b23 := Safe.wr W29 Sf27_b23 CH27 Sf27_b23
      have N29 := Fr.snoc X29 N26 ge_b23
      show own_G p.tables e below _ (T29.setTop (mkF m 50 #[.val (.int p1), .val (.int p2), .val (.int p3)] [(.ref b23), (.ref b21), (.ref b21)]))
      have hws : ∀ d ∈ StrChars.Road.words, d.before a0 Z = true := fun d hd => hw d ((by decide +kernel : ∀ d ∈ StrChars.Road.words, d ∈ tables_1) d hd)
      have hlat : ∀ c ∈ [(nar .char p2), (nar .char p3)], ¬ c < 0 ∧ ¬ (255 : Int32) < c := by
        intro c hc
        simp only [List.mem_cons, List.not_mem_nil, or_false] at hc
        rcases hc with rfl | rfl
        · exact own_narc hp2
        · exact own_narc hp3
      have Zs34 : n0 ≤ h29.size := (Nat.le_trans (Nat.le_trans (Nat.le_trans (Nat.le_trans Z0 E21.1) E23.1) (Keep.of_wr W26).1) (Keep.of_wr W29).1)
      obtain ⟨_, _, ⟨T33, L33, k33, n33⟩, -, X33, ⟨Lc33, hQ33, l33, y33, z33⟩, st33⟩ := X29.specialBack hx (y := (⟨"java/lang/String", "<init>", "([C)V"⟩ : MethodName)) rfl hown (mvT hZ (hw _ (List.mem_of_getElem? (i := 11) rfl))) (mvT hZ (hw _ (List.mem_of_getElem? (i := 12) rfl))) (mvT hZ (hw _ (List.mem_of_getElem? (i := 13) rfl))) (by decide) (StrChars.Road.backV (W := 1) hZ hws (kI := 4) (hw _ (List.mem_of_getElem? (i := 8) rfl)) (cs := [(nar .char p2), (nar .char p3)]) (bs := [((nar .char p2)).toInt8.toInt32, ((nar .char p3)).toInt8.toInt32]) (n := 2) ge_b21 (Nat.le_trans (Nat.le_trans (Nat.le_trans (Nat.le_trans Z0 E21.1) E23.1) (Keep.of_wr W26).1) (Keep.of_wr W29).1) (Exa.wr W29 (Exa.wr W26 (Exa.ext E23 A21))) (Fld.other W29 (Fld.other W26 (Fld.ext E23 F_value_b21) (Or.inl (Nat.ne_of_lt (Nat.lt_of_lt_of_le (Exa.lt A21) (Nat.le_of_eq g23.symm))))) (Or.inl (Nat.ne_of_lt (Nat.lt_of_lt_of_le (Exa.lt A21) (Nat.le_of_eq g23.symm))))) (Fld.other W29 (Fld.other W26 (Fld.ext E23 F_coder_b21) (Or.inl (Nat.ne_of_lt (Nat.lt_of_lt_of_le (Exa.lt A21) (Nat.le_of_eq g23.symm))))) (Or.inl (Nat.ne_of_lt (Nat.lt_of_lt_of_le (Exa.lt A21) (Nat.le_of_eq g23.symm))))) V29 (Sta.ext (Old.wr (Old.wr (Old.ext (Old.ext hOld E21) E23) W26 ge_b23) W29 ge_b23).2 hSc) hcz rfl rfl (by decide) (by decide) hlat rfl (by decide) (by decide)) (g := (mkF m 50 #[.val (.int p1), .val (.int p2), .val (.int p3)] [(.ref b23), (.ref b21), (.ref b21)])) rfl (by rw [hml]; rfl) (Steps.refl _) (a := b21) (argsL := [(.ref b23)]) (rest := [(.ref b21)]) (lenOf own_pd1 rfl) rfl (by show 2 * 0 + _ ≤ _; exact Nat.le_of_eq rfl) (hb hby own_d1_50) (fun _ _ => ⟨rfl, e29, (by decide : 2 + 1 ≤ _), (by decide : 6 + 2 ≤ _)⟩)
      dsimp only [Pt.U, Pt.locs, Pt.cells, Pt.slots] at X33 l33 y33 z33 st33 hQ33
      subst l33 y33 z33
      obtain ⟨h33, e33⟩ : ∃ h, T33.heap = h := ⟨_, rfl⟩
      rw [e33] at hQ33
      obtain ⟨rfl, Nq33, K33, PE32, PC32, tt32, kb32, Pg32, Pz32, Pn32, PV32, PA32⟩ := hQ33
      have CH35 := CHv.keep K33 (sfS Sf30_b21 sf0) CH30
      have RR35 := CHr.trans RR30 (CHr.keep K33 (sfS Sf30_b21 sf0) CH30)
      have Sf35_b21 := Safe.keep K33 (sfS Sf30_b21 sf0) CH30 Sf30_b21
      have Sf35_b23 := Safe.keep K33 (sfS Sf30_b21 sf0) CH30 Sf30_b23
      have N33 := Fr.app N29 Nq33
      refine own_fs st33 ?_
      show own_G p.tables e below _ (T33.setTop (mkF m 53 #[.val (.int p1), .val (.int p2), .val (.int p3)] [(.ref b21)]))
      exact own_retAW X33 hx (t := (.object "java/lang/String")) Bd.returns hlk rfl rfl (hb hby own_d1_53) (by decide) (by decide) e33 hS0 (Nat.le_trans (Nat.le_trans (Nat.le_trans (Nat.le_trans (Nat.le_trans hk0 E21.1) E23.1) (Keep.of_wr W26).1) (Keep.of_wr W29).1) K33.1) (by rw [hh]; exact RR35.trans (CHv.at X33 hZ hEL CH35)) ⟨b21, tt32, kb32, rfl, N33, ((((((Keep.refl _ _).ext E21).ext E23).wr W26 (Or.inr gz_b23)).wr W29 (Or.inr gz_b23)).trans K33 (allS (Or.inr gz_b21) all0)), PE32, PV32, PC32, (by rw [show own_cs p1 p2 p3 = [nar .char p2, nar .char p3] from by simp only [own_cs, if_neg hc1, if_neg hc17]]; exact PA32), gz_b21⟩
theorem own_i_CN_ef (m : MethodId) (x0 : Addr) (x1 : Addr) (x2 : Int32) (x3 : Int32) : entryFrame m #[(.ref x0), (.ref x1), (.int x2), (.int x3)] 4 = mkF m 0 #[.val (.ref x0), .val (.ref x1), .val (.int x2), .val (.int x3)] [] := by first | (simp [entryFrame, mkF, argsToLocals, Value.category]; done) | rfl
def own_i_CN_Q (Z : State) (a1 : Addr) (s1 : Addr) (p2 : Int32) (p3 : Int32) (u1 : Value) (u2 : Int32) (u3 : Int32) (h0 : Heap) (n0 : Nat) (v : Option Value) (h : Heap) (L : List Loc) : Prop := (v = none ∧ Fr n0 L ∧ Keep h0 h [a1] ∧ (Fld Z h a1 "com/example/diligent_tableau/diligenttableau/logic/Individual" "name" "Ljava/lang/String;" (.ref s1)) ∧ (Fld Z h a1 "com/example/diligent_tableau/diligenttableau/logic/Individual" "anonymous" "Z" (.int (nar .boolean p2))) ∧ (Fld Z h a1 "com/example/diligent_tableau/diligenttableau/logic/Individual" "fresh" "Z" (.int (nar .boolean p3))))
set_option maxRecDepth 65536 in
set_option maxHeartbeats 40000000 in
theorem own_i_CN (l : Launch) (Z : State) (a0 : Array Value) (hw : ∀ d ∈ tables_1, d.before a0 Z = true) (ws : List Jvm.Cond) (a1 : Addr) (s1 : Addr) (p2 : Int32) (p3 : Int32) (u1 : Value) (u2 : Int32) (u3 : Int32) (h0 : Heap) (n0 : Nat) (Z0 : n0 ≤ h0.size) (hE_a1 : Exa Z h0 a1 "com/example/diligent_tableau/diligenttableau/logic/Individual") (hF_name_a1 : Fld Z h0 a1 "com/example/diligent_tableau/diligenttableau/logic/Individual" "name" "Ljava/lang/String;" u1) (hF_anonymous_a1 : Fld Z h0 a1 "com/example/diligent_tableau/diligenttableau/logic/Individual" "anonymous" "Z" (.int u2)) (hF_fresh_a1 : Fld Z h0 a1 "com/example/diligent_tableau/diligenttableau/logic/Individual" "fresh" "Z" (.int u3)) (ge_a1 : n0 ≤ a1) :
    MetFree l (⟨"com/example/diligent_tableau/diligenttableau/logic/Individual", "<init>", "(Ljava/lang/String;ZZ)V"⟩ : MethodName) (head1 (Jvm.Cond.code (⟨"com/example/diligent_tableau/diligenttableau/logic/Individual", "<init>", "(Ljava/lang/String;ZZ)V"⟩ : MethodName) prog_22_method_3_code 4 none :: ws) ({ frames := 2, cells := 0, slots := 0, locals := 24 } : Room)) (fun a U => a = #[(.ref a1), (.ref s1), (.int p2), (.int p3)] ∧ Z.Warmed39 U.vm ∧ U.heap = h0) (fun _ _ _ _ _ => True) (fun _ U o U' => ∃ v L, o = .returned v ∧ own_i_CN_Q Z a1 s1 p2 p3 u1 u2 u3 h0 n0 v U'.heap L ∧ FrameEnd U o U' L ({ frames := 2, cells := 0, slots := 0, locals := 24 } : Room).cells ({ frames := 2, cells := 0, slots := 0, locals := 24 } : Room).slots) := by
  refine MetFree.of_bodySF (plainFor_of_name own_pn3) hisR ?_
  intro p e s m args below meth c s₁ Bd hml0 hP hK
  obtain ⟨rfl, hZ, hh⟩ := hP
  have hx := Bd.exec
  have hby := Bd.bytes
  have hlk : meth.locks = false := BodyLoose.notSynchronized Bd
  have hml : c.maxLocals = 4 := hml0
  have hown : s.vm.findClass "com/example/diligent_tableau/diligenttableau/logic/Individual" = some m.cls := findClass_of_methodNamed Bd.named
  have hnm := (name_of_methodNamed Bd.named Bd.method).1
  have X0 : Stand p l e ({ frames := 2, cells := 0, slots := 0, locals := 24 } : Room) s m #[(.ref a1), (.ref s1), (.int p2), (.int p3)] below meth c s₁ [] 0 0 := Stand.of_body Bd
  have e0 : s₁.heap = h0 := by rw [← hh, Bd.state]; rfl
  have N0 := Fr.nil n0
  refine own_start (QQ := own_i_CN_Q Z a1 s1 p2 p3 u1 u2 u3 h0 n0) (rc := ({ frames := 2, cells := 0, slots := 0, locals := 24 } : Room).cells) (rs := ({ frames := 2, cells := 0, slots := 0, locals := 24 } : Room).slots) (own_i_CN_ef m a1 s1 p2 p3 ) ?_
  show own_G p.tables e below _ (s₁.setTop (mkF m 0 #[.val (.ref a1), .val (.ref s1), .val (.int p2), .val (.int p3)] []))
  refine own_fs (XS.aloadN X0.here hx rfl (hb hby own_d8_0) rfl rfl (Steps.refl _)) ?_
  show own_G p.tables e below _ (s₁.setTop (mkF m 1 #[.val (.ref a1), .val (.ref s1), .val (.int p2), .val (.int p3)] [(.ref a1)]))
  have Zs3 : n0 ≤ h0.size := Z0
  obtain ⟨_, _, ⟨T2, L2, k2, n2⟩, -, X2, ⟨Lc2, hQ2, l2, y2, z2⟩, st2⟩ := X0.specialBack hx (y := (⟨"java/lang/Record", "<init>", "()V"⟩ : MethodName)) rfl hown (mvT hZ (hw _ (List.mem_of_getElem? (i := 40) rfl))) (mvT hZ (hw _ (List.mem_of_getElem? (i := 41) rfl))) (mvT hZ (hw _ (List.mem_of_getElem? (i := 44) rfl))) (by decide) (backOf (W := 0) (own_i_Record l Z a0 hw [] a1 h0 n0 Zs3 ) hZ (hw _ (List.mem_of_getElem? (i := 44) rfl)) (hw _ (List.mem_of_getElem? (i := 43) rfl)) (by decide) (by decide)) (g := (mkF m 1 #[.val (.ref a1), .val (.ref s1), .val (.int p2), .val (.int p3)] [(.ref a1)])) rfl (by rw [hml]; rfl) (Steps.refl _) (a := a1) (argsL := []) (rest := []) (lenOf own_pd2 rfl) rfl (by show 2 * 0 + _ ≤ _; exact Nat.le_of_eq rfl) (hb hby own_d8_1) (fun _ _ => ⟨rfl, e0, (by decide : 0 + 0 ≤ _), (by decide : 0 + 0 ≤ _)⟩)
  dsimp only [Pt.U, Pt.locs, Pt.cells, Pt.slots] at X2 l2 y2 z2 st2 hQ2
  subst l2 y2 z2
  obtain ⟨rfl, Nq2, e2⟩ := hQ2
  have N2 := Fr.app N0 Nq2
  refine own_fs st2 ?_
  show own_G p.tables e below _ (T2.setTop (mkF m 4 #[.val (.ref a1), .val (.ref s1), .val (.int p2), .val (.int p3)] []))
  refine own_fs (XS.aloadN X2.here hx rfl (hb hby own_d8_4) rfl rfl (Steps.refl _)) ?_
  show own_G p.tables e below _ (T2.setTop (mkF m 5 #[.val (.ref a1), .val (.ref s1), .val (.int p2), .val (.int p3)] [(.ref a1)]))
  refine own_fs (XS.aloadN X2.here hx rfl (hb hby own_d8_5) rfl rfl (Steps.refl _)) ?_
  show own_G p.tables e below _ (T2.setTop (mkF m 6 #[.val (.ref a1), .val (.ref s1), .val (.int p2), .val (.int p3)] [(.ref s1), (.ref a1)]))
  obtain ⟨T4, h4, X4, e4, W4, st4⟩ := putF X2 hx hZ hown (host := "") (Or.inl (hw _ (List.mem_of_getElem? (i := 46) rfl))) Via.refl e2 hF_name_a1 hE_a1 (Or.inr ⟨(hw _ (List.mem_of_getElem? (i := 47) rfl)), rfl, hnm⟩) (hw _ (List.mem_of_getElem? (i := 1) rfl)) (ty := (.object "java/lang/String")) (by decide) rfl rfl (g := (mkF m 6 #[.val (.ref a1), .val (.ref s1), .val (.int p2), .val (.int p3)] [(.ref s1), (.ref a1)])) rfl rfl (hb hby own_d8_6)
  refine own_fs (st4 _ (Steps.refl _)) ?_
  have Fw4 := Fld.same W4 hF_name_a1
  have N4 := Fr.snoc X4 N2 ge_a1
  show own_G p.tables e below _ (T4.setTop (mkF m 9 #[.val (.ref a1), .val (.ref s1), .val (.int p2), .val (.int p3)] []))
  refine own_fs (XS.aloadN X4.here hx rfl (hb hby own_d8_9) rfl rfl (Steps.refl _)) ?_
  show own_G p.tables e below _ (T4.setTop (mkF m 10 #[.val (.ref a1), .val (.ref s1), .val (.int p2), .val (.int p3)] [(.ref a1)]))
  refine own_fs (XS.iloadN X4.here hx rfl (hb hby own_d8_10) rfl (Steps.refl _)) ?_
  show own_G p.tables e below _ (T4.setTop (mkF m 11 #[.val (.ref a1), .val (.ref s1), .val (.int p2), .val (.int p3)] [(.int p2), (.ref a1)]))
  obtain ⟨T5, h5, X5, e5, W5, st5⟩ := putFN X4 hx hZ hown (hw _ (List.mem_of_getElem? (i := 48) rfl)) Via.refl e4 (Fld.other W4 hF_anonymous_a1 (Or.inr (slot_ne (Or.inr (hw _ (List.mem_of_getElem? (i := 49) rfl))) (Or.inr (hw _ (List.mem_of_getElem? (i := 47) rfl))) (by decide) (t := .boolean) (t' := (.object "java/lang/String")) (by decide) (by decide)))) (Exa.wr W4 hE_a1) (Or.inr ⟨(hw _ (List.mem_of_getElem? (i := 49) rfl)), rfl, hnm⟩) (hw _ (List.mem_of_getElem? (i := 1) rfl)) (ty := .boolean) (v' := .int (nar .boolean p2)) (by decide) rfl (fits_nar_bool _) (g := (mkF m 11 #[.val (.ref a1), .val (.ref s1), .val (.int p2), .val (.int p3)] [(.int p2), (.ref a1)])) rfl rfl (hb hby own_d8_11)
  refine own_fs (st5 _ (Steps.refl _)) ?_
  have Fw5 := Fld.same W5 (Fld.other W4 hF_anonymous_a1 (Or.inr (slot_ne (Or.inr (hw _ (List.mem_of_getElem? (i := 49) rfl))) (Or.inr (hw _ (List.mem_of_getElem? (i := 47) rfl))) (by decide) (t := .boolean) (t' := (.object "java/lang/String")) (by decide) (by decide))))
  have N5 := Fr.snoc X5 N4 ge_a1
  show own_G p.tables e below _ (T5.setTop (mkF m 14 #[.val (.ref a1), .val (.ref s1), .val (.int p2), .val (.int p3)] []))
  refine own_fs (XS.aloadN X5.here hx rfl (hb hby own_d8_14) rfl rfl (Steps.refl _)) ?_
  show own_G p.tables e below _ (T5.setTop (mkF m 15 #[.val (.ref a1), .val (.ref s1), .val (.int p2), .val (.int p3)] [(.ref a1)]))
  refine own_fs (XS.iloadN X5.here hx rfl (hb hby own_d8_15) rfl (Steps.refl _)) ?_
  show own_G p.tables e below _ (T5.setTop (mkF m 16 #[.val (.ref a1), .val (.ref s1), .val (.int p2), .val (.int p3)] [(.int p3), (.ref a1)]))
  obtain ⟨T6, h6, X6, e6, W6, st6⟩ := putFN X5 hx hZ hown (hw _ (List.mem_of_getElem? (i := 50) rfl)) Via.refl e5 (Fld.other W5 (Fld.other W4 hF_fresh_a1 (Or.inr (slot_ne (Or.inr (hw _ (List.mem_of_getElem? (i := 51) rfl))) (Or.inr (hw _ (List.mem_of_getElem? (i := 47) rfl))) (by decide) (t := .boolean) (t' := (.object "java/lang/String")) (by decide) (by decide)))) (Or.inr (slot_ne (Or.inr (hw _ (List.mem_of_getElem? (i := 51) rfl))) (Or.inr (hw _ (List.mem_of_getElem? (i := 49) rfl))) (by decide) (t := .boolean) (t' := .boolean) (by decide) (by decide)))) (Exa.wr W5 (Exa.wr W4 hE_a1)) (Or.inr ⟨(hw _ (List.mem_of_getElem? (i := 51) rfl)), rfl, hnm⟩) (hw _ (List.mem_of_getElem? (i := 1) rfl)) (ty := .boolean) (v' := .int (nar .boolean p3)) (by decide) rfl (fits_nar_bool _) (g := (mkF m 16 #[.val (.ref a1), .val (.ref s1), .val (.int p2), .val (.int p3)] [(.int p3), (.ref a1)])) rfl rfl (hb hby own_d8_16)
  refine own_fs (st6 _ (Steps.refl _)) ?_
  have Fw6 := Fld.same W6 (Fld.other W5 (Fld.other W4 hF_fresh_a1 (Or.inr (slot_ne (Or.inr (hw _ (List.mem_of_getElem? (i := 51) rfl))) (Or.inr (hw _ (List.mem_of_getElem? (i := 47) rfl))) (by decide) (t := .boolean) (t' := (.object "java/lang/String")) (by decide) (by decide)))) (Or.inr (slot_ne (Or.inr (hw _ (List.mem_of_getElem? (i := 51) rfl))) (Or.inr (hw _ (List.mem_of_getElem? (i := 49) rfl))) (by decide) (t := .boolean) (t' := .boolean) (by decide) (by decide))))
  have N6 := Fr.snoc X6 N5 ge_a1
  show own_G p.tables e below _ (T6.setTop (mkF m 19 #[.val (.ref a1), .val (.ref s1), .val (.int p2), .val (.int p3)] []))
  exact own_retV X6 hx Bd.returns hlk (hb hby own_d8_19) (by decide) (by decide) e6 ⟨rfl, N6, ((((Keep.refl _ _).wr W4 (Or.inl (List.mem_of_getElem? (i := 0) rfl))).wr W5 (Or.inl (List.mem_of_getElem? (i := 0) rfl))).wr W6 (Or.inl (List.mem_of_getElem? (i := 0) rfl))), (Fld.other W6 (Fld.other W5 Fw4 (Or.inr (slot_ne (Or.inr (hw _ (List.mem_of_getElem? (i := 47) rfl))) (Or.inr (hw _ (List.mem_of_getElem? (i := 49) rfl))) (by decide) (t := (.object "java/lang/String")) (t' := .boolean) (by decide) (by decide)))) (Or.inr (slot_ne (Or.inr (hw _ (List.mem_of_getElem? (i := 47) rfl))) (Or.inr (hw _ (List.mem_of_getElem? (i := 51) rfl))) (by decide) (t := (.object "java/lang/String")) (t' := .boolean) (by decide) (by decide)))), (Fld.other W6 Fw5 (Or.inr (slot_ne (Or.inr (hw _ (List.mem_of_getElem? (i := 49) rfl))) (Or.inr (hw _ (List.mem_of_getElem? (i := 51) rfl))) (by decide) (t := .boolean) (t' := .boolean) (by decide) (by decide)))), Fw6⟩
theorem own_eqnull_ef (m : MethodId) (x0 : Addr) : entryFrame m #[(.ref x0), .null] 3 = mkF m 0 #[.val (.ref x0), .val .null, .unset] [] := by first | (simp [entryFrame, mkF, argsToLocals, Value.category]; done) | rfl
def own_eqnull_Q (Z : State) (a1 : Addr) (h0 : Heap) (n0 : Nat) (v : Option Value) (h : Heap) (L : List Loc) : Prop := (v = some (.int (0 : Int32)) ∧ Fr n0 L ∧ h = h0)
set_option maxRecDepth 65536 in
set_option maxHeartbeats 40000000 in
theorem own_eqnull (l : Launch) (Z : State) (a0 : Array Value) (hw : ∀ d ∈ tables_1, d.before a0 Z = true) (ws : List Jvm.Cond) (a1 : Addr) (h0 : Heap) (n0 : Nat) (Z0 : n0 ≤ h0.size)  :
    MetFree l (⟨"com/example/diligent_tableau/diligenttableau/logic/Individual", "equals", "(Ljava/lang/Object;)Z"⟩ : MethodName) (head1 (Jvm.Cond.code (⟨"com/example/diligent_tableau/diligenttableau/logic/Individual", "equals", "(Ljava/lang/Object;)Z"⟩ : MethodName) prog_22_method_5_code 3 (some .boolean) :: ws) ({ frames := 0, cells := 0, slots := 0, locals := 0 } : Room)) (fun a U => a = #[(.ref a1), .null] ∧ Z.Warmed39 U.vm ∧ U.heap = h0) (fun _ _ _ _ _ => True) (fun _ U o U' => ∃ v L, o = .returned v ∧ own_eqnull_Q Z a1 h0 n0 v U'.heap L ∧ FrameEnd U o U' L ({ frames := 0, cells := 0, slots := 0, locals := 0 } : Room).cells ({ frames := 0, cells := 0, slots := 0, locals := 0 } : Room).slots) := by
  refine MetFree.of_bodySF (plainFor_of_name own_pn3) hisR ?_
  intro p e s m args below meth c s₁ Bd hml0 hP hK
  obtain ⟨rfl, hZ, hh⟩ := hP
  have hx := Bd.exec
  have hby := Bd.bytes
  have hlk : meth.locks = false := BodyLoose.notSynchronized Bd
  have hml : c.maxLocals = 3 := hml0
  have hown : s.vm.findClass "com/example/diligent_tableau/diligenttableau/logic/Individual" = some m.cls := findClass_of_methodNamed Bd.named
  have hnm := (name_of_methodNamed Bd.named Bd.method).1
  have X0 : Stand p l e ({ frames := 0, cells := 0, slots := 0, locals := 0 } : Room) s m #[(.ref a1), .null] below meth c s₁ [] 0 0 := Stand.of_body Bd
  have e0 : s₁.heap = h0 := by rw [← hh, Bd.state]; rfl
  have N0 := Fr.nil n0
  refine own_start (QQ := own_eqnull_Q Z a1 h0 n0) (rc := ({ frames := 0, cells := 0, slots := 0, locals := 0 } : Room).cells) (rs := ({ frames := 0, cells := 0, slots := 0, locals := 0 } : Room).slots) (own_eqnull_ef m a1 ) ?_
  show own_G p.tables e below _ (s₁.setTop (mkF m 0 #[.val (.ref a1), .val .null, .unset] []))
  refine own_fs (XS.aloadN X0.here hx rfl (hb hby own_d10_0) rfl rfl (Steps.refl _)) ?_
  show own_G p.tables e below _ (s₁.setTop (mkF m 1 #[.val (.ref a1), .val .null, .unset] [.null]))
  refine own_fs (X0.instanceofNull hx (g := (mkF m 1 #[.val (.ref a1), .val .null, .unset] [.null])) rfl rfl (hb hby own_d10_1) _ (Steps.refl _)) ?_
  show own_G p.tables e below _ (s₁.setTop (mkF m 4 #[.val (.ref a1), .val .null, .unset] [(.int (0 : Int32))]))
  refine own_fs (XS.ifYes X0.here hx rfl (pc0 := 4) (pc' := 52) rfl (hb hby own_d10_4) rfl (XT.i0_eq_t (by decide : (0 : Int32) = (0 : Int32))) (by decide) (by decide) (Steps.refl _)) ?_
  show own_G p.tables e below _ (s₁.setTop (mkF m 52 #[.val (.ref a1), .val .null, .unset] []))
  refine own_fs (XS.iconst X0.here hx rfl (hb hby own_d10_52) (Steps.refl _)) ?_
  show own_G p.tables e below _ (s₁.setTop (mkF m 53 #[.val (.ref a1), .val .null, .unset] [(.int (0 : Int32))]))
  exact own_retN X0 hx (t := .boolean) Bd.returns hlk (by simp) (hb hby own_d10_53) (by decide) (by decide) e0 ⟨rfl, N0, rfl⟩
theorem own_eqneg_ef (m : MethodId) (x0 : Addr) (x1 : Addr) : entryFrame m #[(.ref x0), (.ref x1)] 3 = mkF m 0 #[.val (.ref x0), .val (.ref x1), .unset] [] := by first | (simp [entryFrame, mkF, argsToLocals, Value.category]; done) | rfl
def own_eqneg_Q (Z : State) (a1 : Addr) (a2 : Addr) (h0 : Heap) (n0 : Nat) (v : Option Value) (h : Heap) (L : List Loc) : Prop := (v = some (.int (0 : Int32)) ∧ Fr n0 L ∧ h = h0)
set_option maxRecDepth 65536 in
set_option maxHeartbeats 40000000 in
theorem own_eqneg (l : Launch) (Z : State) (a0 : Array Value) (hw : ∀ d ∈ tables_1, d.before a0 Z = true) (ws : List Jvm.Cond) (a1 : Addr) (a2 : Addr) (h0 : Heap) (n0 : Nat) (Z0 : n0 ≤ h0.size) (hE_a2 : Exa Z h0 a2 "java/lang/String") :
    MetFree l (⟨"com/example/diligent_tableau/diligenttableau/logic/Individual", "equals", "(Ljava/lang/Object;)Z"⟩ : MethodName) (head1 (Jvm.Cond.code (⟨"com/example/diligent_tableau/diligenttableau/logic/Individual", "equals", "(Ljava/lang/Object;)Z"⟩ : MethodName) prog_22_method_5_code 3 (some .boolean) :: ws) ({ frames := 0, cells := 0, slots := 0, locals := 0 } : Room)) (fun a U => a = #[(.ref a1), (.ref a2)] ∧ Z.Warmed39 U.vm ∧ U.heap = h0) (fun _ _ _ _ _ => True) (fun _ U o U' => ∃ v L, o = .returned v ∧ own_eqneg_Q Z a1 a2 h0 n0 v U'.heap L ∧ FrameEnd U o U' L ({ frames := 0, cells := 0, slots := 0, locals := 0 } : Room).cells ({ frames := 0, cells := 0, slots := 0, locals := 0 } : Room).slots) := by
  refine MetFree.of_bodySF (plainFor_of_name own_pn3) hisR ?_
  intro p e s m args below meth c s₁ Bd hml0 hP hK
  obtain ⟨rfl, hZ, hh⟩ := hP
  have hx := Bd.exec
  have hby := Bd.bytes
  have hlk : meth.locks = false := BodyLoose.notSynchronized Bd
  have hml : c.maxLocals = 3 := hml0
  have hown : s.vm.findClass "com/example/diligent_tableau/diligenttableau/logic/Individual" = some m.cls := findClass_of_methodNamed Bd.named
  have hnm := (name_of_methodNamed Bd.named Bd.method).1
  have X0 : Stand p l e ({ frames := 0, cells := 0, slots := 0, locals := 0 } : Room) s m #[(.ref a1), (.ref a2)] below meth c s₁ [] 0 0 := Stand.of_body Bd
  have e0 : s₁.heap = h0 := by rw [← hh, Bd.state]; rfl
  have N0 := Fr.nil n0
  refine own_start (QQ := own_eqneg_Q Z a1 a2 h0 n0) (rc := ({ frames := 0, cells := 0, slots := 0, locals := 0 } : Room).cells) (rs := ({ frames := 0, cells := 0, slots := 0, locals := 0 } : Room).slots) (own_eqneg_ef m a1 a2 ) ?_
  show own_G p.tables e below _ (s₁.setTop (mkF m 0 #[.val (.ref a1), .val (.ref a2), .unset] []))
  refine own_fs (XS.aloadN X0.here hx rfl (hb hby own_d10_0) rfl rfl (Steps.refl _)) ?_
  show own_G p.tables e below _ (s₁.setTop (mkF m 1 #[.val (.ref a1), .val (.ref a2), .unset] [(.ref a2)]))
  obtain ⟨T1, X1, e1, st1⟩ := instNo X0 hx hZ hown (hw _ (List.mem_of_getElem? (i := 57) rfl)) e0 hE_a2 (own_notsub1 (hw _ (List.mem_of_getElem? (i := 59) rfl)) (hw _ (List.mem_of_getElem? (i := 58) rfl)) (hw _ (List.mem_of_getElem? (i := 1) rfl)) (by decide) (by decide)) (g := (mkF m 1 #[.val (.ref a1), .val (.ref a2), .unset] [(.ref a2)])) rfl rfl (hb hby own_d10_1)
  refine own_fs (st1 _ (Steps.refl _)) ?_
  show own_G p.tables e below _ (T1.setTop (mkF m 4 #[.val (.ref a1), .val (.ref a2), .unset] [(.int (0 : Int32))]))
  refine own_fs (XS.ifYes X1.here hx rfl (pc0 := 4) (pc' := 52) rfl (hb hby own_d10_4) rfl (XT.i0_eq_t (by decide : (0 : Int32) = (0 : Int32))) (by decide) (by decide) (Steps.refl _)) ?_
  show own_G p.tables e below _ (T1.setTop (mkF m 52 #[.val (.ref a1), .val (.ref a2), .unset] []))
  refine own_fs (XS.iconst X1.here hx rfl (hb hby own_d10_52) (Steps.refl _)) ?_
  show own_G p.tables e below _ (T1.setTop (mkF m 53 #[.val (.ref a1), .val (.ref a2), .unset] [(.int (0 : Int32))]))
  exact own_retN X1 hx (t := .boolean) Bd.returns hlk (by simp) (hb hby own_d10_53) (by decide) (by decide) e1 ⟨rfl, N0, rfl⟩
theorem own_eqcn_ef (m : MethodId) (x0 : Addr) (x1 : Addr) : entryFrame m #[(.ref x0), (.ref x1)] 3 = mkF m 0 #[.val (.ref x0), .val (.ref x1), .unset] [] := by first | (simp [entryFrame, mkF, argsToLocals, Value.category]; done) | rfl
def own_eqcn_Q (Z : State) (a1 : Addr) (a2 : Addr) (na : Int32) (nb : Int32) (fa : Int32) (fb : Int32) (s1 : Addr) (s2 : Addr) (ta : Addr) (td : Addr) (kta : ClassId) (ktd : ClassId) (cs : List Int32) (ds : List Int32) (cz : Int32) (h0 : Heap) (n0 : Nat) (v : Option Value) (h : Heap) (L : List Loc) : Prop := (v = some (.int (own_eqi na nb fa fb cs ds)) ∧ Fr n0 L ∧ h = h0)
set_option maxRecDepth 65536 in
set_option maxHeartbeats 40000000 in
theorem own_eqcn (l : Launch) (Z : State) (a0 : Array Value) (hw : ∀ d ∈ tables_1, d.before a0 Z = true) (ws : List Jvm.Cond) (a1 : Addr) (a2 : Addr) (na : Int32) (nb : Int32) (fa : Int32) (fb : Int32) (s1 : Addr) (s2 : Addr) (ta : Addr) (td : Addr) (kta : ClassId) (ktd : ClassId) (cs : List Int32) (ds : List Int32) (cz : Int32) (h0 : Heap) (n0 : Nat) (Z0 : n0 ≤ h0.size) (hE_a2 : Exa Z h0 a2 "com/example/diligent_tableau/diligenttableau/logic/Individual") (hF_anonymous_a1 : Fld Z h0 a1 "com/example/diligent_tableau/diligenttableau/logic/Individual" "anonymous" "Z" (.int na)) (hF_anonymous_a2 : Fld Z h0 a2 "com/example/diligent_tableau/diligenttableau/logic/Individual" "anonymous" "Z" (.int nb)) (hF_fresh_a1 : Fld Z h0 a1 "com/example/diligent_tableau/diligenttableau/logic/Individual" "fresh" "Z" (.int fa)) (hF_fresh_a2 : Fld Z h0 a2 "com/example/diligent_tableau/diligenttableau/logic/Individual" "fresh" "Z" (.int fb)) (hF_name_a1 : Fld Z h0 a1 "com/example/diligent_tableau/diligenttableau/logic/Individual" "name" "Ljava/lang/String;" (.ref s1)) (hF_name_a2 : Fld Z h0 a2 "com/example/diligent_tableau/diligenttableau/logic/Individual" "name" "Ljava/lang/String;" (.ref s2)) (hE_s1 : Exa Z h0 s1 "java/lang/String") (hF_value_s1 : Fld Z h0 s1 "java/lang/String" "value" "[B" (.ref ta)) (hF_coder_s1 : Fld Z h0 s1 "java/lang/String" "coder" "B" (.int (0 : Int32))) (hV_ta : Arv Z h0 ta kta .byte (Int32.ofNat cs.length) (cs.map fun c => Value.int (c.toInt8.toInt32)) (.int (0 : Int32))) (hr_cs : ∀ c ∈ cs, ¬ c < 0 ∧ ¬ (255 : Int32) < c) (hl_cs : cs.length ≤ 3) (hE_s2 : Exa Z h0 s2 "java/lang/String") (hF_value_s2 : Fld Z h0 s2 "java/lang/String" "value" "[B" (.ref td)) (hF_coder_s2 : Fld Z h0 s2 "java/lang/String" "coder" "B" (.int (0 : Int32))) (hV_td : Arv Z h0 td ktd .byte (Int32.ofNat ds.length) (ds.map fun c => Value.int (c.toInt8.toInt32)) (.int (0 : Int32))) (hr_ds : ∀ c ∈ ds, ¬ c < 0 ∧ ¬ (255 : Int32) < c) (hl_ds : ds.length ≤ 3) (hSc : Sta Z Z.heap "java/lang/String" "COMPACT_STRINGS" "Z" (.int cz)) (hcz : ¬ (cz = (0 : Int32))) (hOld : Old Z n0 h0) :
    MetFree l (⟨"com/example/diligent_tableau/diligenttableau/logic/Individual", "equals", "(Ljava/lang/Object;)Z"⟩ : MethodName) (head1 (Jvm.Cond.code (⟨"com/example/diligent_tableau/diligenttableau/logic/Individual", "equals", "(Ljava/lang/Object;)Z"⟩ : MethodName) prog_22_method_5_code 3 (some .boolean) :: ws) ({ frames := 2, cells := 0, slots := 0, locals := 28 } : Room)) (fun a U => a = #[(.ref a1), (.ref a2)] ∧ Z.Warmed39 U.vm ∧ U.heap = h0) (fun _ _ _ _ _ => True) (fun _ U o U' => ∃ v L, o = .returned v ∧ own_eqcn_Q Z a1 a2 na nb fa fb s1 s2 ta td kta ktd cs ds cz h0 n0 v U'.heap L ∧ FrameEnd U o U' L ({ frames := 2, cells := 0, slots := 0, locals := 28 } : Room).cells ({ frames := 2, cells := 0, slots := 0, locals := 28 } : Room).slots) := by
  refine MetFree.of_bodySF (plainFor_of_name own_pn3) hisR ?_
  intro p e s m args below meth c s₁ Bd hml0 hP hK
  obtain ⟨rfl, hZ, hh⟩ := hP
  have hx := Bd.exec
  have hby := Bd.bytes
  have hlk : meth.locks = false := BodyLoose.notSynchronized Bd
  have hml : c.maxLocals = 3 := hml0
  have hown : s.vm.findClass "com/example/diligent_tableau/diligenttableau/logic/Individual" = some m.cls := findClass_of_methodNamed Bd.named
  have hnm := (name_of_methodNamed Bd.named Bd.method).1
  have X0 : Stand p l e ({ frames := 2, cells := 0, slots := 0, locals := 28 } : Room) s m #[(.ref a1), (.ref a2)] below meth c s₁ [] 0 0 := Stand.of_body Bd
  have e0 : s₁.heap = h0 := by rw [← hh, Bd.state]; rfl
  have N0 := Fr.nil n0
  refine own_start (QQ := own_eqcn_Q Z a1 a2 na nb fa fb s1 s2 ta td kta ktd cs ds cz h0 n0) (rc := ({ frames := 2, cells := 0, slots := 0, locals := 28 } : Room).cells) (rs := ({ frames := 2, cells := 0, slots := 0, locals := 28 } : Room).slots) (own_eqcn_ef m a1 a2 ) ?_
  show own_G p.tables e below _ (s₁.setTop (mkF m 0 #[.val (.ref a1), .val (.ref a2), .unset] []))
  refine own_fs (XS.aloadN X0.here hx rfl (hb hby own_d10_0) rfl rfl (Steps.refl _)) ?_
  show own_G p.tables e below _ (s₁.setTop (mkF m 1 #[.val (.ref a1), .val (.ref a2), .unset] [(.ref a2)]))
  obtain ⟨T1, X1, e1, st1⟩ := instY X0 hx hZ hown (hw _ (List.mem_of_getElem? (i := 57) rfl)) e0 (Ins.self hE_a2) (g := (mkF m 1 #[.val (.ref a1), .val (.ref a2), .unset] [(.ref a2)])) rfl rfl (hb hby own_d10_1)
  refine own_fs (st1 _ (Steps.refl _)) ?_
  show own_G p.tables e below _ (T1.setTop (mkF m 4 #[.val (.ref a1), .val (.ref a2), .unset] [(.int (1 : Int32))]))
  refine own_fs (XS.ifNo X1.here hx rfl (hb hby own_d10_4) rfl (XT.i0_eq_f (by decide : ¬ ((1 : Int32) = (0 : Int32)))) (Steps.refl _)) ?_
  show own_G p.tables e below _ (T1.setTop (mkF m 7 #[.val (.ref a1), .val (.ref a2), .unset] []))
  refine own_fs (XS.aloadN X1.here hx rfl (hb hby own_d10_7) rfl rfl (Steps.refl _)) ?_
  show own_G p.tables e below _ (T1.setTop (mkF m 8 #[.val (.ref a1), .val (.ref a2), .unset] [(.ref a2)]))
  obtain ⟨T2, X2, e2, st2⟩ := castY X1 hx hZ hown (hw _ (List.mem_of_getElem? (i := 57) rfl)) e1 (Ins.self hE_a2) (g := (mkF m 8 #[.val (.ref a1), .val (.ref a2), .unset] [(.ref a2)])) rfl rfl (hb hby own_d10_8)
  refine own_fs (st2 _ (Steps.refl _)) ?_
  show own_G p.tables e below _ (T2.setTop (mkF m 11 #[.val (.ref a1), .val (.ref a2), .unset] [(.ref a2)]))
  refine own_fs (XS.astoreN X2.here hx rfl (hb hby own_d10_11) rfl rfl (l' := #[.val (.ref a1), .val (.ref a2), .val (.ref a2)]) rfl (Steps.refl _)) ?_
  show own_G p.tables e below _ (T2.setTop (mkF m 12 #[.val (.ref a1), .val (.ref a2), .val (.ref a2)] []))
  refine own_fs (XS.aloadN X2.here hx rfl (hb hby own_d10_12) rfl rfl (Steps.refl _)) ?_
  show own_G p.tables e below _ (T2.setTop (mkF m 13 #[.val (.ref a1), .val (.ref a2), .val (.ref a2)] [(.ref a1)]))
  obtain ⟨T3, X3, e3, st3⟩ := getF X2 hx hZ hown (host := "") (Or.inl (hw _ (List.mem_of_getElem? (i := 48) rfl))) Via.refl e2 hF_anonymous_a1 (g := (mkF m 13 #[.val (.ref a1), .val (.ref a2), .val (.ref a2)] [(.ref a1)])) rfl rfl (hb hby own_d10_13)
  refine own_fs (st3 _ (Steps.refl _)) ?_
  show own_G p.tables e below _ (T3.setTop (mkF m 16 #[.val (.ref a1), .val (.ref a2), .val (.ref a2)] [(.int na)]))
  refine own_fs (XS.aloadN X3.here hx rfl (hb hby own_d10_16) rfl rfl (Steps.refl _)) ?_
  show own_G p.tables e below _ (T3.setTop (mkF m 17 #[.val (.ref a1), .val (.ref a2), .val (.ref a2)] [(.ref a2), (.int na)]))
  obtain ⟨T4, X4, e4, st4⟩ := getF X3 hx hZ hown (host := "") (Or.inl (hw _ (List.mem_of_getElem? (i := 48) rfl))) Via.refl e3 hF_anonymous_a2 (g := (mkF m 17 #[.val (.ref a1), .val (.ref a2), .val (.ref a2)] [(.ref a2), (.int na)])) rfl rfl (hb hby own_d10_17)
  refine own_fs (st4 _ (Steps.refl _)) ?_
  show own_G p.tables e below _ (T4.setTop (mkF m 20 #[.val (.ref a1), .val (.ref a2), .val (.ref a2)] [(.int nb), (.int na)]))
  by_cases hc20 : na = nb
  · refine own_fs (XS.icmpNo X4.here hx rfl (hb hby own_d10_20) rfl (XT.ii_ne_f hc20) (Steps.refl _)) ?_
    show own_G p.tables e below _ (T4.setTop (mkF m 23 #[.val (.ref a1), .val (.ref a2), .val (.ref a2)] []))
    refine own_fs (XS.aloadN X4.here hx rfl (hb hby own_d10_23) rfl rfl (Steps.refl _)) ?_
    show own_G p.tables e below _ (T4.setTop (mkF m 24 #[.val (.ref a1), .val (.ref a2), .val (.ref a2)] [(.ref a1)]))
    obtain ⟨T5, X5, e5, st5⟩ := getF X4 hx hZ hown (host := "") (Or.inl (hw _ (List.mem_of_getElem? (i := 50) rfl))) Via.refl e4 hF_fresh_a1 (g := (mkF m 24 #[.val (.ref a1), .val (.ref a2), .val (.ref a2)] [(.ref a1)])) rfl rfl (hb hby own_d10_24)
    refine own_fs (st5 _ (Steps.refl _)) ?_
    show own_G p.tables e below _ (T5.setTop (mkF m 27 #[.val (.ref a1), .val (.ref a2), .val (.ref a2)] [(.int fa)]))
    refine own_fs (XS.aloadN X5.here hx rfl (hb hby own_d10_27) rfl rfl (Steps.refl _)) ?_
    show own_G p.tables e below _ (T5.setTop (mkF m 28 #[.val (.ref a1), .val (.ref a2), .val (.ref a2)] [(.ref a2), (.int fa)]))
    obtain ⟨T6, X6, e6, st6⟩ := getF X5 hx hZ hown (host := "") (Or.inl (hw _ (List.mem_of_getElem? (i := 50) rfl))) Via.refl e5 hF_fresh_a2 (g := (mkF m 28 #[.val (.ref a1), .val (.ref a2), .val (.ref a2)] [(.ref a2), (.int fa)])) rfl rfl (hb hby own_d10_28)
    refine own_fs (st6 _ (Steps.refl _)) ?_
    show own_G p.tables e below _ (T6.setTop (mkF m 31 #[.val (.ref a1), .val (.ref a2), .val (.ref a2)] [(.int fb), (.int fa)]))
    by_cases hc31 : fa = fb
    · refine own_fs (XS.icmpNo X6.here hx rfl (hb hby own_d10_31) rfl (XT.ii_ne_f hc31) (Steps.refl _)) ?_
      show own_G p.tables e below _ (T6.setTop (mkF m 34 #[.val (.ref a1), .val (.ref a2), .val (.ref a2)] []))
      refine own_fs (XS.aloadN X6.here hx rfl (hb hby own_d10_34) rfl rfl (Steps.refl _)) ?_
      show own_G p.tables e below _ (T6.setTop (mkF m 35 #[.val (.ref a1), .val (.ref a2), .val (.ref a2)] [(.ref a1)]))
      obtain ⟨T7, X7, e7, st7⟩ := getF X6 hx hZ hown (host := "") (Or.inl (hw _ (List.mem_of_getElem? (i := 46) rfl))) Via.refl e6 hF_name_a1 (g := (mkF m 35 #[.val (.ref a1), .val (.ref a2), .val (.ref a2)] [(.ref a1)])) rfl rfl (hb hby own_d10_35)
      refine own_fs (st7 _ (Steps.refl _)) ?_
      show own_G p.tables e below _ (T7.setTop (mkF m 38 #[.val (.ref a1), .val (.ref a2), .val (.ref a2)] [(.ref s1)]))
      refine own_fs (XS.aloadN X7.here hx rfl (hb hby own_d10_38) rfl rfl (Steps.refl _)) ?_
      show own_G p.tables e below _ (T7.setTop (mkF m 39 #[.val (.ref a1), .val (.ref a2), .val (.ref a2)] [(.ref a2), (.ref s1)]))
      obtain ⟨T8, X8, e8, st8⟩ := getF X7 hx hZ hown (host := "") (Or.inl (hw _ (List.mem_of_getElem? (i := 46) rfl))) Via.refl e7 hF_name_a2 (g := (mkF m 39 #[.val (.ref a1), .val (.ref a2), .val (.ref a2)] [(.ref a2), (.ref s1)])) rfl rfl (hb hby own_d10_39)
      refine own_fs (st8 _ (Steps.refl _)) ?_
      show own_G p.tables e below _ (T8.setTop (mkF m 42 #[.val (.ref a1), .val (.ref a2), .val (.ref a2)] [(.ref s2), (.ref s1)]))
      have hwq : ∀ d ∈ StrChars.Road.wordsEq, d.before a0 Z = true := fun d hd => hw d ((by decide +kernel : ∀ d ∈ StrChars.Road.wordsEq, d ∈ tables_1) d hd)
      have Zs10 : n0 ≤ h0.size := Z0
      obtain ⟨cq9, kq9, q9a, q9b, q9c⟩ := isOf hZ e8 hE_s1
      obtain ⟨_, _, ⟨T9, L9, k9, n9⟩, -, X9, ⟨Lc9, hQ9, l9, y9, z9⟩, st9⟩ := X8.virtualBack hx (y := (⟨"java/lang/String", "equals", "(Ljava/lang/Object;)Z"⟩ : MethodName)) (z := (⟨"java/lang/String", "equals", "(Ljava/lang/Object;)Z"⟩ : MethodName)) hown (mvT hZ (hw _ (List.mem_of_getElem? (i := 64) rfl))) (mvT hZ (hw _ (List.mem_of_getElem? (i := 65) rfl))) (notFace_of_selects (args := #[]) (mvT hZ (hw _ (List.mem_of_getElem? (i := 67) rfl)))) (mvT hZ (hw _ (List.mem_of_getElem? (i := 67) rfl))) (mvT hZ (hw _ (List.mem_of_getElem? (i := 66) rfl))) (by decide) (own_eqB (n0 := n0) (W := 0) hZ hwq (kI := 4) (hw _ (List.mem_of_getElem? (i := 8) rfl)) hE_s1 hF_value_s1 hF_coder_s1 hV_ta hr_cs hl_cs hE_s2 hF_value_s2 hF_coder_s2 hV_td hr_ds hl_ds (Sta.ext hOld.2 hSc) hcz (by decide) (by decide)) q9a q9c (g := (mkF m 42 #[.val (.ref a1), .val (.ref a2), .val (.ref a2)] [(.ref s2), (.ref s1)])) rfl (by rw [hml]; rfl) (Steps.refl _) (argsL := [(.ref s2)]) (rest := []) (lenOf own_pd3 rfl) rfl (by show 2 * 0 + _ ≤ _; exact Nat.le_of_eq rfl) (hb hby own_d10_42) (fun _ _ => ⟨rfl, e8, (by decide : 0 + 0 ≤ _), (by decide : 0 + 0 ≤ _)⟩)
      dsimp only [Pt.U, Pt.locs, Pt.cells, Pt.slots] at X9 l9 y9 z9 st9 hQ9
      subst l9 y9 z9
      obtain ⟨rfl, Nq9, e9⟩ := hQ9
      have N9 := Fr.app N0 Nq9
      refine own_fs st9 ?_
      show own_G p.tables e below _ (T9.setTop (mkF m 45 #[.val (.ref a1), .val (.ref a2), .val (.ref a2)] [(.int (own_eqv cs ds))]))
      by_cases hc45 : (own_eqv cs ds) = (0 : Int32)
      · refine own_fs (XS.ifYes X9.here hx rfl (pc0 := 45) (pc' := 52) rfl (hb hby own_d10_45) rfl (XT.i0_eq_t hc45) (by decide) (by decide) (Steps.refl _)) ?_
        show own_G p.tables e below _ (T9.setTop (mkF m 52 #[.val (.ref a1), .val (.ref a2), .val (.ref a2)] []))
        refine own_fs (XS.iconst X9.here hx rfl (hb hby own_d10_52) (Steps.refl _)) ?_
        show own_G p.tables e below _ (T9.setTop (mkF m 53 #[.val (.ref a1), .val (.ref a2), .val (.ref a2)] [(.int (0 : Int32))]))
        exact own_retN X9 hx (t := .boolean) Bd.returns hlk (by simp) (hb hby own_d10_53) (by decide) (by decide) e9 ⟨(by simp only [own_eqi, own_nar0, own_nar1, if_pos hc20, if_pos hc31, if_pos hc45]), N9, rfl⟩
      · refine own_fs (XS.ifNo X9.here hx rfl (hb hby own_d10_45) rfl (XT.i0_eq_f hc45) (Steps.refl _)) ?_
        show own_G p.tables e below _ (T9.setTop (mkF m 48 #[.val (.ref a1), .val (.ref a2), .val (.ref a2)] []))
        refine own_fs (XS.iconst X9.here hx rfl (hb hby own_d10_48) (Steps.refl _)) ?_
        show own_G p.tables e below _ (T9.setTop (mkF m 49 #[.val (.ref a1), .val (.ref a2), .val (.ref a2)] [(.int (1 : Int32))]))
        refine own_fs (XS.goto X9.here hx rfl (pc0 := 49) (pc' := 53) rfl (hb hby own_d10_49) (by decide) (by decide) (Steps.refl _)) ?_
        show own_G p.tables e below _ (T9.setTop (mkF m 53 #[.val (.ref a1), .val (.ref a2), .val (.ref a2)] [(.int (1 : Int32))]))
        exact own_retN X9 hx (t := .boolean) Bd.returns hlk (by simp) (hb hby own_d10_53) (by decide) (by decide) e9 ⟨(by simp only [own_eqi, own_nar0, own_nar1, if_neg hc45, if_pos hc20, if_pos hc31]), N9, rfl⟩
    · refine own_fs (XS.icmpYes X6.here hx rfl (pc0 := 31) (pc' := 52) rfl (hb hby own_d10_31) rfl (XT.ii_ne_t hc31) (by decide) (by decide) (Steps.refl _)) ?_
      show own_G p.tables e below _ (T6.setTop (mkF m 52 #[.val (.ref a1), .val (.ref a2), .val (.ref a2)] []))
      refine own_fs (XS.iconst X6.here hx rfl (hb hby own_d10_52) (Steps.refl _)) ?_
      show own_G p.tables e below _ (T6.setTop (mkF m 53 #[.val (.ref a1), .val (.ref a2), .val (.ref a2)] [(.int (0 : Int32))]))
      exact own_retN X6 hx (t := .boolean) Bd.returns hlk (by simp) (hb hby own_d10_53) (by decide) (by decide) e6 ⟨(by simp only [own_eqi, own_nar0, own_nar1, if_neg hc31, if_pos hc20]), N0, rfl⟩
  · refine own_fs (XS.icmpYes X4.here hx rfl (pc0 := 20) (pc' := 52) rfl (hb hby own_d10_20) rfl (XT.ii_ne_t hc20) (by decide) (by decide) (Steps.refl _)) ?_
    show own_G p.tables e below _ (T4.setTop (mkF m 52 #[.val (.ref a1), .val (.ref a2), .val (.ref a2)] []))
    refine own_fs (XS.iconst X4.here hx rfl (hb hby own_d10_52) (Steps.refl _)) ?_
    show own_G p.tables e below _ (T4.setTop (mkF m 53 #[.val (.ref a1), .val (.ref a2), .val (.ref a2)] [(.int (0 : Int32))]))
    exact own_retN X4 hx (t := .boolean) Bd.returns hlk (by simp) (hb hby own_d10_53) (by decide) (by decide) e4 ⟨(by simp only [own_eqi, own_nar0, own_nar1, if_neg hc20]), N0, rfl⟩
theorem own_law_ef (m : MethodId) (x0 : Int32) (x1 : Int32) (x2 : Int32) (x3 : Int32) : entryFrame m #[(.int x0), (.int x1), (.int x2), (.int x3)] maxLocals = mkF m 0 #[.val (.int x0), .val (.int x1), .val (.int x2), .val (.int x3), .unset, .unset, .unset, .unset, .unset, .unset, .unset, .unset, .unset, .unset, .unset, .unset, .unset, .unset, .unset] [] := by first | (simp [entryFrame, mkF, argsToLocals, Value.category, maxLocals]; done) | rfl
def own_law_Q (Z : State) (x0 : Int32) (x1 : Int32) (x2 : Int32) (x3 : Int32) (cz : Int32) (h0 : Heap) (n0 : Nat) (v : Option Value) (h : Heap) (L : List Loc) : Prop := (v = some (.int (1 : Int32)) ∧ Fr n0 L)
set_option maxRecDepth 65536 in
set_option maxHeartbeats 40000000 in
theorem own_law (l : Launch) (Z : State) (a0 : Array Value) (hw : ∀ d ∈ tables_1, d.before a0 Z = true) (ws : List Jvm.Cond) (x0 : Int32) (x1 : Int32) (x2 : Int32) (x3 : Int32) (cz : Int32) (h0 : Heap) (n0 : Nat) (Z0 : n0 ≤ h0.size) (hSc : Sta Z Z.heap "java/lang/String" "COMPACT_STRINGS" "Z" (.int cz)) (hcz : ¬ (cz = (0 : Int32))) (hOld : Old Z n0 h0) :
    MetFree l x (head1 (Jvm.Cond.code x code maxLocals ret :: ws) room_1) (fun a U => a = #[(.int x0), (.int x1), (.int x2), (.int x3)] ∧ Z.Warmed39 U.vm ∧ U.heap = h0 ∧ CHv Z own_EL U.vm h0) (fun _ _ _ _ _ => True) (fun _ U o U' => ∃ v L, o = .returned v ∧ own_law_Q Z x0 x1 x2 x3 cz h0 n0 v U'.heap L ∧ CHr Z own_EL U.vm U.heap U'.vm U'.heap ∧ ReturnedEndW U o U' L room_1.cells room_1.slots) := by
  refine MetFree.of_bodySF (plainFor_of_name own_pn2) hisR ?_
  intro p e s m args below meth c s₁ Bd hml0 hP hK
  obtain ⟨rfl, hZ, hh, CH0⟩ := hP
  have hx := Bd.exec
  have hby := Bd.bytes
  have hlk : meth.locks = false := BodyLoose.notSynchronized Bd
  have hml : c.maxLocals = 19 := hml0
  have hown : s.vm.findClass "com/example/diligent_tableau/diligenttableau/logic/IndividualEqualsPinLaw" = some m.cls := findClass_of_methodNamed Bd.named
  have hnm := (name_of_methodNamed Bd.named Bd.method).1
  have X0 : Stand p l e room_1 (s.setVm s.vm) m #[(.int x0), (.int x1), (.int x2), (.int x3)] below meth c s₁ [] 0 0 := Stand.of_body Bd
  have e0 : s₁.heap = h0 := by rw [← hh, Bd.state]; rfl
  have N0 := Fr.nil n0
  have hEL : EW Z a0 own_EL := own_ew hw
  have hS0 : s.Since s.vm 0 := (State.WarmedH.refl s).since 0
  have hk0 : 0 ≤ h0.size := Nat.zero_le _
  have R0 := CHr.refl CH0
  refine own_startW (QQ := own_law_Q Z x0 x1 x2 x3 cz h0 n0) (rc := room_1.cells) (rs := room_1.slots) hh (own_law_ef m x0 x1 x2 x3 ) ?_
  show own_G p.tables e below _ (s₁.setTop (mkF m 0 #[.val (.int x0), .val (.int x1), .val (.int x2), .val (.int x3), .unset, .unset, .unset, .unset, .unset, .unset, .unset, .unset, .unset, .unset, .unset, .unset, .unset, .unset, .unset] []))
  refine own_fs (XS.iloadN X0.here hx rfl (hb hby at_0) rfl (Steps.refl _)) ?_
  show own_G p.tables e below _ (s₁.setTop (mkF m 1 #[.val (.int x0), .val (.int x1), .val (.int x2), .val (.int x3), .unset, .unset, .unset, .unset, .unset, .unset, .unset, .unset, .unset, .unset, .unset, .unset, .unset, .unset, .unset] [(.int x2)]))
  refine own_fs (XS.iconst X0.here hx rfl (hb hby at_1) (Steps.refl _)) ?_
  show own_G p.tables e below _ (s₁.setTop (mkF m 2 #[.val (.int x0), .val (.int x1), .val (.int x2), .val (.int x3), .unset, .unset, .unset, .unset, .unset, .unset, .unset, .unset, .unset, .unset, .unset, .unset, .unset, .unset, .unset] [(.int (3 : Int32)), (.int x2)]))
  refine own_fs (XS.iand X0.here hx rfl (hb hby at_2) rfl (Steps.refl _)) ?_
  show own_G p.tables e below _ (s₁.setTop (mkF m 3 #[.val (.int x0), .val (.int x1), .val (.int x2), .val (.int x3), .unset, .unset, .unset, .unset, .unset, .unset, .unset, .unset, .unset, .unset, .unset, .unset, .unset, .unset, .unset] [(.int (x2 &&& (3 : Int32)))]))
  refine own_fs (XS.iconst X0.here hx rfl (hb hby at_3) (Steps.refl _)) ?_
  show own_G p.tables e below _ (s₁.setTop (mkF m 4 #[.val (.int x0), .val (.int x1), .val (.int x2), .val (.int x3), .unset, .unset, .unset, .unset, .unset, .unset, .unset, .unset, .unset, .unset, .unset, .unset, .unset, .unset, .unset] [(.int (3 : Int32)), (.int (x2 &&& (3 : Int32)))]))
  refine own_fs (iremM (g := (mkF m 4 #[.val (.int x0), .val (.int x1), .val (.int x2), .val (.int x3), .unset, .unset, .unset, .unset, .unset, .unset, .unset, .unset, .unset, .unset, .unset, .unset, .unset, .unset, .unset] [(.int (3 : Int32)), (.int (x2 &&& (3 : Int32)))])) X0 hx rfl (hb hby at_4) rfl (by decide) (Steps.refl _)) ?_
  show own_G p.tables e below _ (s₁.setTop (mkF m 5 #[.val (.int x0), .val (.int x1), .val (.int x2), .val (.int x3), .unset, .unset, .unset, .unset, .unset, .unset, .unset, .unset, .unset, .unset, .unset, .unset, .unset, .unset, .unset] [(.int ((x2 &&& (3 : Int32)) % (3 : Int32)))]))
  refine own_fs (XS.istore X0.here hx rfl (hb hby at_5) rfl (l' := #[.val (.int x0), .val (.int x1), .val (.int x2), .val (.int x3), .val (.int ((x2 &&& (3 : Int32)) % (3 : Int32))), .unset, .unset, .unset, .unset, .unset, .unset, .unset, .unset, .unset, .unset, .unset, .unset, .unset, .unset]) rfl (Steps.refl _)) ?_
  have hla := own_m3 x2
  show own_G p.tables e below _ (s₁.setTop (mkF m 7 #[.val (.int x0), .val (.int x1), .val (.int x2), .val (.int x3), .val (.int ((x2 &&& (3 : Int32)) % (3 : Int32))), .unset, .unset, .unset, .unset, .unset, .unset, .unset, .unset, .unset, .unset, .unset, .unset, .unset, .unset] []))
  generalize hg_la : ((x2 &&& (3 : Int32)) % (3 : Int32)) = la at hla ⊢
  have J27 : ∀ (lb : Int32) (hlb : lb = (0 : Int32) ∨ lb = (1 : Int32) ∨ lb = (2 : Int32)), own_G p.tables e below (own_PW Z own_EL s (own_law_Q Z x0 x1 x2 x3 cz h0 n0) room_1.cells room_1.slots) (s₁.setTop (mkF m 27 #[.val (.int x0), .val (.int x1), .val (.int x2), .val (.int x3), .val (.int la), .unset, .unset, .unset, .unset, .unset, .unset, .unset, .unset, .unset, .unset, .unset, .unset, .unset, .unset] [(.int lb)])) := by
    intro lb hlb
    show own_G p.tables e below _ (s₁.setTop (mkF m 27 #[.val (.int x0), .val (.int x1), .val (.int x2), .val (.int x3), .val (.int la), .unset, .unset, .unset, .unset, .unset, .unset, .unset, .unset, .unset, .unset, .unset, .unset, .unset, .unset] [(.int lb)]))
    refine own_fs (XS.istore X0.here hx rfl (hb hby at_27) rfl (l' := #[.val (.int x0), .val (.int x1), .val (.int x2), .val (.int x3), .val (.int la), .val (.int lb), .unset, .unset, .unset, .unset, .unset, .unset, .unset, .unset, .unset, .unset, .unset, .unset, .unset]) rfl (Steps.refl _)) ?_
    show own_G p.tables e below _ (s₁.setTop (mkF m 29 #[.val (.int x0), .val (.int x1), .val (.int x2), .val (.int x3), .val (.int la), .val (.int lb), .unset, .unset, .unset, .unset, .unset, .unset, .unset, .unset, .unset, .unset, .unset, .unset, .unset] []))
    refine own_fs (XS.iloadN X0.here hx rfl (hb hby at_29) rfl (Steps.refl _)) ?_
    show own_G p.tables e below _ (s₁.setTop (mkF m 30 #[.val (.int x0), .val (.int x1), .val (.int x2), .val (.int x3), .val (.int la), .val (.int lb), .unset, .unset, .unset, .unset, .unset, .unset, .unset, .unset, .unset, .unset, .unset, .unset, .unset] [(.int x0)]))
    refine own_fs (XS.sipush X0.here hx rfl (hb hby at_30) (Steps.refl _)) ?_
    show own_G p.tables e below _ (s₁.setTop (mkF m 33 #[.val (.int x0), .val (.int x1), .val (.int x2), .val (.int x3), .val (.int la), .val (.int lb), .unset, .unset, .unset, .unset, .unset, .unset, .unset, .unset, .unset, .unset, .unset, .unset, .unset] [(.int (255 : Int32)), (.int x0)]))
    refine own_fs (XS.iand X0.here hx rfl (hb hby at_33) rfl (Steps.refl _)) ?_
    show own_G p.tables e below _ (s₁.setTop (mkF m 34 #[.val (.int x0), .val (.int x1), .val (.int x2), .val (.int x3), .val (.int la), .val (.int lb), .unset, .unset, .unset, .unset, .unset, .unset, .unset, .unset, .unset, .unset, .unset, .unset, .unset] [(.int (x0 &&& (255 : Int32)))]))
    refine own_fs (XS.i2c X0.here hx rfl (hb hby at_34) rfl (Steps.refl _)) ?_
    show own_G p.tables e below _ (s₁.setTop (mkF m 35 #[.val (.int x0), .val (.int x1), .val (.int x2), .val (.int x3), .val (.int la), .val (.int lb), .unset, .unset, .unset, .unset, .unset, .unset, .unset, .unset, .unset, .unset, .unset, .unset, .unset] [(.int ((x0 &&& (255 : Int32)).toUInt32.toUInt16.toUInt32.toInt32))]))
    refine own_fs (XS.istore X0.here hx rfl (hb hby at_35) rfl (l' := #[.val (.int x0), .val (.int x1), .val (.int x2), .val (.int x3), .val (.int la), .val (.int lb), .val (.int ((x0 &&& (255 : Int32)).toUInt32.toUInt16.toUInt32.toInt32)), .unset, .unset, .unset, .unset, .unset, .unset, .unset, .unset, .unset, .unset, .unset, .unset]) rfl (Steps.refl _)) ?_
    have hc0 := own_chv x0
    show own_G p.tables e below _ (s₁.setTop (mkF m 37 #[.val (.int x0), .val (.int x1), .val (.int x2), .val (.int x3), .val (.int la), .val (.int lb), .val (.int ((x0 &&& (255 : Int32)).toUInt32.toUInt16.toUInt32.toInt32)), .unset, .unset, .unset, .unset, .unset, .unset, .unset, .unset, .unset, .unset, .unset, .unset] []))
    generalize hg_c0 : ((x0 &&& (255 : Int32)).toUInt32.toUInt16.toUInt32.toInt32) = c0 at hc0 ⊢
    show own_G p.tables e below _ (s₁.setTop (mkF m 37 #[.val (.int x0), .val (.int x1), .val (.int x2), .val (.int x3), .val (.int la), .val (.int lb), .val (.int c0), .unset, .unset, .unset, .unset, .unset, .unset, .unset, .unset, .unset, .unset, .unset, .unset] []))
    refine own_fs (XS.iloadN X0.here hx rfl (hb hby at_37) rfl (Steps.refl _)) ?_
    show own_G p.tables e below _ (s₁.setTop (mkF m 38 #[.val (.int x0), .val (.int x1), .val (.int x2), .val (.int x3), .val (.int la), .val (.int lb), .val (.int c0), .unset, .unset, .unset, .unset, .unset, .unset, .unset, .unset, .unset, .unset, .unset, .unset] [(.int x0)]))
    refine own_fs (XS.bipush X0.here hx rfl (hb hby at_38) (Steps.refl _)) ?_
    show own_G p.tables e below _ (s₁.setTop (mkF m 40 #[.val (.int x0), .val (.int x1), .val (.int x2), .val (.int x3), .val (.int la), .val (.int lb), .val (.int c0), .unset, .unset, .unset, .unset, .unset, .unset, .unset, .unset, .unset, .unset, .unset, .unset] [(.int (8 : Int32)), (.int x0)]))
    refine own_fs (XS.iushr X0.here hx rfl (hb hby at_40) rfl (Steps.refl _)) ?_
    show own_G p.tables e below _ (s₁.setTop (mkF m 41 #[.val (.int x0), .val (.int x1), .val (.int x2), .val (.int x3), .val (.int la), .val (.int lb), .val (.int c0), .unset, .unset, .unset, .unset, .unset, .unset, .unset, .unset, .unset, .unset, .unset, .unset] [(.int ((x0.toUInt32 >>> ((8 : Int32) &&& 31).toUInt32).toInt32))]))
    refine own_fs (XS.sipush X0.here hx rfl (hb hby at_41) (Steps.refl _)) ?_
    show own_G p.tables e below _ (s₁.setTop (mkF m 44 #[.val (.int x0), .val (.int x1), .val (.int x2), .val (.int x3), .val (.int la), .val (.int lb), .val (.int c0), .unset, .unset, .unset, .unset, .unset, .unset, .unset, .unset, .unset, .unset, .unset, .unset] [(.int (255 : Int32)), (.int ((x0.toUInt32 >>> ((8 : Int32) &&& 31).toUInt32).toInt32))]))
    refine own_fs (XS.iand X0.here hx rfl (hb hby at_44) rfl (Steps.refl _)) ?_
    show own_G p.tables e below _ (s₁.setTop (mkF m 45 #[.val (.int x0), .val (.int x1), .val (.int x2), .val (.int x3), .val (.int la), .val (.int lb), .val (.int c0), .unset, .unset, .unset, .unset, .unset, .unset, .unset, .unset, .unset, .unset, .unset, .unset] [(.int (((x0.toUInt32 >>> ((8 : Int32) &&& 31).toUInt32).toInt32) &&& (255 : Int32)))]))
    refine own_fs (XS.i2c X0.here hx rfl (hb hby at_45) rfl (Steps.refl _)) ?_
    show own_G p.tables e below _ (s₁.setTop (mkF m 46 #[.val (.int x0), .val (.int x1), .val (.int x2), .val (.int x3), .val (.int la), .val (.int lb), .val (.int c0), .unset, .unset, .unset, .unset, .unset, .unset, .unset, .unset, .unset, .unset, .unset, .unset] [(.int ((((x0.toUInt32 >>> ((8 : Int32) &&& 31).toUInt32).toInt32) &&& (255 : Int32)).toUInt32.toUInt16.toUInt32.toInt32))]))
    refine own_fs (XS.istore X0.here hx rfl (hb hby at_46) rfl (l' := #[.val (.int x0), .val (.int x1), .val (.int x2), .val (.int x3), .val (.int la), .val (.int lb), .val (.int c0), .val (.int ((((x0.toUInt32 >>> ((8 : Int32) &&& 31).toUInt32).toInt32) &&& (255 : Int32)).toUInt32.toUInt16.toUInt32.toInt32)), .unset, .unset, .unset, .unset, .unset, .unset, .unset, .unset, .unset, .unset, .unset]) rfl (Steps.refl _)) ?_
    have hc1 := own_chv ((x0.toUInt32 >>> ((8 : Int32) &&& 31).toUInt32).toInt32)
    show own_G p.tables e below _ (s₁.setTop (mkF m 48 #[.val (.int x0), .val (.int x1), .val (.int x2), .val (.int x3), .val (.int la), .val (.int lb), .val (.int c0), .val (.int ((((x0.toUInt32 >>> ((8 : Int32) &&& 31).toUInt32).toInt32) &&& (255 : Int32)).toUInt32.toUInt16.toUInt32.toInt32)), .unset, .unset, .unset, .unset, .unset, .unset, .unset, .unset, .unset, .unset, .unset] []))
    generalize hg_c1 : ((((x0.toUInt32 >>> ((8 : Int32) &&& 31).toUInt32).toInt32) &&& (255 : Int32)).toUInt32.toUInt16.toUInt32.toInt32) = c1 at hc1 ⊢
    have J68 : ∀ (d0 : Int32) (hd0 : ¬ d0 < 0 ∧ ¬ (255 : Int32) < d0), own_G p.tables e below (own_PW Z own_EL s (own_law_Q Z x0 x1 x2 x3 cz h0 n0) room_1.cells room_1.slots) (s₁.setTop (mkF m 68 #[.val (.int x0), .val (.int x1), .val (.int x2), .val (.int x3), .val (.int la), .val (.int lb), .val (.int c0), .val (.int c1), .unset, .unset, .unset, .unset, .unset, .unset, .unset, .unset, .unset, .unset, .unset] [(.int d0)])) := by
      intro d0 hd0
      show own_G p.tables e below _ (s₁.setTop (mkF m 68 #[.val (.int x0), .val (.int x1), .val (.int x2), .val (.int x3), .val (.int la), .val (.int lb), .val (.int c0), .val (.int c1), .unset, .unset, .unset, .unset, .unset, .unset, .unset, .unset, .unset, .unset, .unset] [(.int d0)]))
      refine own_fs (XS.istore X0.here hx rfl (hb hby at_68) rfl (l' := #[.val (.int x0), .val (.int x1), .val (.int x2), .val (.int x3), .val (.int la), .val (.int lb), .val (.int c0), .val (.int c1), .val (.int d0), .unset, .unset, .unset, .unset, .unset, .unset, .unset, .unset, .unset, .unset]) rfl (Steps.refl _)) ?_
      have J90 : ∀ (d1 : Int32) (hd1 : ¬ d1 < 0 ∧ ¬ (255 : Int32) < d1), own_G p.tables e below (own_PW Z own_EL s (own_law_Q Z x0 x1 x2 x3 cz h0 n0) room_1.cells room_1.slots) (s₁.setTop (mkF m 90 #[.val (.int x0), .val (.int x1), .val (.int x2), .val (.int x3), .val (.int la), .val (.int lb), .val (.int c0), .val (.int c1), .val (.int d0), .unset, .unset, .unset, .unset, .unset, .unset, .unset, .unset, .unset, .unset] [(.int d1)])) := by
        intro d1 hd1
        show own_G p.tables e below _ (s₁.setTop (mkF m 90 #[.val (.int x0), .val (.int x1), .val (.int x2), .val (.int x3), .val (.int la), .val (.int lb), .val (.int c0), .val (.int c1), .val (.int d0), .unset, .unset, .unset, .unset, .unset, .unset, .unset, .unset, .unset, .unset] [(.int d1)]))
        refine own_fs (XS.istore X0.here hx rfl (hb hby at_90) rfl (l' := #[.val (.int x0), .val (.int x1), .val (.int x2), .val (.int x3), .val (.int la), .val (.int lb), .val (.int c0), .val (.int c1), .val (.int d0), .val (.int d1), .unset, .unset, .unset, .unset, .unset, .unset, .unset, .unset, .unset]) rfl (Steps.refl _)) ?_
        have J105 : ∀ (va1 : Int32) (hva1 : va1 = (0 : Int32) ∨ va1 = (1 : Int32)), own_G p.tables e below (own_PW Z own_EL s (own_law_Q Z x0 x1 x2 x3 cz h0 n0) room_1.cells room_1.slots) (s₁.setTop (mkF m 105 #[.val (.int x0), .val (.int x1), .val (.int x2), .val (.int x3), .val (.int la), .val (.int lb), .val (.int c0), .val (.int c1), .val (.int d0), .val (.int d1), .unset, .unset, .unset, .unset, .unset, .unset, .unset, .unset, .unset] [(.int va1)])) := by
          intro va1 hva1
          show own_G p.tables e below _ (s₁.setTop (mkF m 105 #[.val (.int x0), .val (.int x1), .val (.int x2), .val (.int x3), .val (.int la), .val (.int lb), .val (.int c0), .val (.int c1), .val (.int d0), .val (.int d1), .unset, .unset, .unset, .unset, .unset, .unset, .unset, .unset, .unset] [(.int va1)]))
          refine own_fs (XS.istore X0.here hx rfl (hb hby at_105) rfl (l' := #[.val (.int x0), .val (.int x1), .val (.int x2), .val (.int x3), .val (.int la), .val (.int lb), .val (.int c0), .val (.int c1), .val (.int d0), .val (.int d1), .val (.int va1), .unset, .unset, .unset, .unset, .unset, .unset, .unset, .unset]) rfl (Steps.refl _)) ?_
          have J121 : ∀ (vf1 : Int32) (hvf1 : vf1 = (0 : Int32) ∨ vf1 = (1 : Int32)), own_G p.tables e below (own_PW Z own_EL s (own_law_Q Z x0 x1 x2 x3 cz h0 n0) room_1.cells room_1.slots) (s₁.setTop (mkF m 121 #[.val (.int x0), .val (.int x1), .val (.int x2), .val (.int x3), .val (.int la), .val (.int lb), .val (.int c0), .val (.int c1), .val (.int d0), .val (.int d1), .val (.int va1), .unset, .unset, .unset, .unset, .unset, .unset, .unset, .unset] [(.int vf1)])) := by
            intro vf1 hvf1
            show own_G p.tables e below _ (s₁.setTop (mkF m 121 #[.val (.int x0), .val (.int x1), .val (.int x2), .val (.int x3), .val (.int la), .val (.int lb), .val (.int c0), .val (.int c1), .val (.int d0), .val (.int d1), .val (.int va1), .unset, .unset, .unset, .unset, .unset, .unset, .unset, .unset] [(.int vf1)]))
            refine own_fs (XS.istore X0.here hx rfl (hb hby at_121) rfl (l' := #[.val (.int x0), .val (.int x1), .val (.int x2), .val (.int x3), .val (.int la), .val (.int lb), .val (.int c0), .val (.int c1), .val (.int d0), .val (.int d1), .val (.int va1), .val (.int vf1), .unset, .unset, .unset, .unset, .unset, .unset, .unset]) rfl (Steps.refl _)) ?_
            have J151 : ∀ (va2 : Int32) (hva2 : va2 = (0 : Int32) ∨ va2 = (1 : Int32)), own_G p.tables e below (own_PW Z own_EL s (own_law_Q Z x0 x1 x2 x3 cz h0 n0) room_1.cells room_1.slots) (s₁.setTop (mkF m 151 #[.val (.int x0), .val (.int x1), .val (.int x2), .val (.int x3), .val (.int la), .val (.int lb), .val (.int c0), .val (.int c1), .val (.int d0), .val (.int d1), .val (.int va1), .val (.int vf1), .unset, .unset, .unset, .unset, .unset, .unset, .unset] [(.int va2)])) := by
              intro va2 hva2
              show own_G p.tables e below _ (s₁.setTop (mkF m 151 #[.val (.int x0), .val (.int x1), .val (.int x2), .val (.int x3), .val (.int la), .val (.int lb), .val (.int c0), .val (.int c1), .val (.int d0), .val (.int d1), .val (.int va1), .val (.int vf1), .unset, .unset, .unset, .unset, .unset, .unset, .unset] [(.int va2)]))
              refine own_fs (XS.istore X0.here hx rfl (hb hby at_151) rfl (l' := #[.val (.int x0), .val (.int x1), .val (.int x2), .val (.int x3), .val (.int la), .val (.int lb), .val (.int c0), .val (.int c1), .val (.int d0), .val (.int d1), .val (.int va1), .val (.int vf1), .val (.int va2), .unset, .unset, .unset, .unset, .unset, .unset]) rfl (Steps.refl _)) ?_
              have J181 : ∀ (vf2 : Int32) (hvf2 : vf2 = (0 : Int32) ∨ vf2 = (1 : Int32)), own_G p.tables e below (own_PW Z own_EL s (own_law_Q Z x0 x1 x2 x3 cz h0 n0) room_1.cells room_1.slots) (s₁.setTop (mkF m 181 #[.val (.int x0), .val (.int x1), .val (.int x2), .val (.int x3), .val (.int la), .val (.int lb), .val (.int c0), .val (.int c1), .val (.int d0), .val (.int d1), .val (.int va1), .val (.int vf1), .val (.int va2), .unset, .unset, .unset, .unset, .unset, .unset] [(.int vf2)])) := by
                intro vf2 hvf2
                show own_G p.tables e below _ (s₁.setTop (mkF m 181 #[.val (.int x0), .val (.int x1), .val (.int x2), .val (.int x3), .val (.int la), .val (.int lb), .val (.int c0), .val (.int c1), .val (.int d0), .val (.int d1), .val (.int va1), .val (.int vf1), .val (.int va2), .unset, .unset, .unset, .unset, .unset, .unset] [(.int vf2)]))
                refine own_fs (XS.istore X0.here hx rfl (hb hby at_181) rfl (l' := #[.val (.int x0), .val (.int x1), .val (.int x2), .val (.int x3), .val (.int la), .val (.int lb), .val (.int c0), .val (.int c1), .val (.int d0), .val (.int d1), .val (.int va1), .val (.int vf1), .val (.int va2), .val (.int vf2), .unset, .unset, .unset, .unset, .unset]) rfl (Steps.refl _)) ?_
                show own_G p.tables e below _ (s₁.setTop (mkF m 183 #[.val (.int x0), .val (.int x1), .val (.int x2), .val (.int x3), .val (.int la), .val (.int lb), .val (.int c0), .val (.int c1), .val (.int d0), .val (.int d1), .val (.int va1), .val (.int vf1), .val (.int va2), .val (.int vf2), .unset, .unset, .unset, .unset, .unset] []))
                obtain ⟨T1, h1, X1, e1, E1, A1, D1, -, st1⟩ := newO X0 hx hZ hown (hw _ (List.mem_of_getElem? (i := 0) rfl)) (hw _ (List.mem_of_getElem? (i := 1) rfl)) (hw _ (List.mem_of_getElem? (i := 2) rfl)) e0 (g := (mkF m 183 #[.val (.int x0), .val (.int x1), .val (.int x2), .val (.int x3), .val (.int la), .val (.int lb), .val (.int c0), .val (.int c1), .val (.int d0), .val (.int d1), .val (.int va1), .val (.int vf1), .val (.int va2), .val (.int vf2), .unset, .unset, .unset, .unset, .unset] [])) rfl (hb hby at_183) (by decide) (by decide)
                obtain ⟨b1, g1⟩ : ∃ z, z = h0.size := ⟨_, rfl⟩
                rw [← g1] at A1 D1 st1
                have ge_b1 : n0 ≤ b1 := Nat.le_trans Z0 (Nat.le_of_eq g1.symm)
                have gz_b1 : h0.size ≤ b1 := Nat.le_trans (Nat.le_refl _) (Nat.le_of_eq g1.symm)
                have Sf_b1 : Safe Z own_EL s.vm h0 b1 := Safe.new (Nat.le_of_eq g1.symm)
                have CH2 := CHv.ext E1 CH0
                have RR2 := CHr.trans R0 (CHr.ext E1 CH0)
                have Sf2_b1 := Safe.ext E1 CH0 Sf_b1
                have F_name_b1 : Fld Z h1 b1 "com/example/diligent_tableau/diligenttableau/logic/Individual" "name" "Ljava/lang/String;" .null := D1 (Or.inr (hw _ (List.mem_of_getElem? (i := 47) rfl))) (ty := (.object "java/lang/String")) (by decide)
                have F_anonymous_b1 : Fld Z h1 b1 "com/example/diligent_tableau/diligenttableau/logic/Individual" "anonymous" "Z" (.int (0 : Int32)) := D1 (Or.inr (hw _ (List.mem_of_getElem? (i := 49) rfl))) (ty := .boolean) (by decide)
                have F_fresh_b1 : Fld Z h1 b1 "com/example/diligent_tableau/diligenttableau/logic/Individual" "fresh" "Z" (.int (0 : Int32)) := D1 (Or.inr (hw _ (List.mem_of_getElem? (i := 51) rfl))) (ty := .boolean) (by decide)
                refine own_fs (st1 _ (Steps.refl _)) ?_
                show own_G p.tables e below _ (T1.setTop (mkF m 186 #[.val (.int x0), .val (.int x1), .val (.int x2), .val (.int x3), .val (.int la), .val (.int lb), .val (.int c0), .val (.int c1), .val (.int d0), .val (.int d1), .val (.int va1), .val (.int vf1), .val (.int va2), .val (.int vf2), .unset, .unset, .unset, .unset, .unset] [(.ref b1)]))
                refine own_fs (XS.dup X1.here hx rfl (hb hby at_186) rfl rfl (Steps.refl _)) ?_
                show own_G p.tables e below _ (T1.setTop (mkF m 187 #[.val (.int x0), .val (.int x1), .val (.int x2), .val (.int x3), .val (.int la), .val (.int lb), .val (.int c0), .val (.int c1), .val (.int d0), .val (.int d1), .val (.int va1), .val (.int vf1), .val (.int va2), .val (.int vf2), .unset, .unset, .unset, .unset, .unset] [(.ref b1), (.ref b1)]))
                refine own_fs (XS.iload X1.here hx rfl (hb hby at_187) rfl (Steps.refl _)) ?_
                show own_G p.tables e below _ (T1.setTop (mkF m 189 #[.val (.int x0), .val (.int x1), .val (.int x2), .val (.int x3), .val (.int la), .val (.int lb), .val (.int c0), .val (.int c1), .val (.int d0), .val (.int d1), .val (.int va1), .val (.int vf1), .val (.int va2), .val (.int vf2), .unset, .unset, .unset, .unset, .unset] [(.int la), (.ref b1), (.ref b1)]))
                refine own_fs (XS.iload X1.here hx rfl (hb hby at_189) rfl (Steps.refl _)) ?_
                show own_G p.tables e below _ (T1.setTop (mkF m 191 #[.val (.int x0), .val (.int x1), .val (.int x2), .val (.int x3), .val (.int la), .val (.int lb), .val (.int c0), .val (.int c1), .val (.int d0), .val (.int d1), .val (.int va1), .val (.int vf1), .val (.int va2), .val (.int vf2), .unset, .unset, .unset, .unset, .unset] [(.int c0), (.int la), (.ref b1), (.ref b1)]))
                refine own_fs (XS.iload X1.here hx rfl (hb hby at_191) rfl (Steps.refl _)) ?_
                show own_G p.tables e below _ (T1.setTop (mkF m 193 #[.val (.int x0), .val (.int x1), .val (.int x2), .val (.int x3), .val (.int la), .val (.int lb), .val (.int c0), .val (.int c1), .val (.int d0), .val (.int d1), .val (.int va1), .val (.int vf1), .val (.int va2), .val (.int vf2), .unset, .unset, .unset, .unset, .unset] [(.int c1), (.int c0), (.int la), (.ref b1), (.ref b1)]))
                have Zs6 : n0 ≤ h1.size := (Nat.le_trans Z0 E1.1)
                obtain ⟨_, _, ⟨T5, L5, k5, n5⟩, -, X5', hS5', gr5, ⟨Lc5, hQ5, l5, y5, z5, hR5⟩, st5⟩ := callSS X1 hx (y := (⟨"com/example/diligent_tableau/diligenttableau/logic/IndividualEqualsPinLaw", "str", "(ICC)Ljava/lang/String;"⟩ : MethodName)) hown (mvT hZ (hw _ (List.mem_of_getElem? (i := 3) rfl))) (mvT hZ (hw _ (List.mem_of_getElem? (i := 4) rfl))) (mvT hZ (hw _ (List.mem_of_getElem? (i := 5) rfl))) (mvT hZ (hw _ (List.mem_of_getElem? (i := 6) rfl))) (by decide) (backOfSH (s := s) (vm0 := s.vm) (W := 2) (own_str l Z a0 hw [] la c0 c1 cz h1 n0 Zs6 hSc hcz (Old.ext hOld E1) hc0 hc1) hZ (hw _ (List.mem_of_getElem? (i := 6) rfl)) (hw _ (List.mem_of_getElem? (i := 5) rfl)) (by decide) (by decide) hEL CH2) (g := (mkF m 193 #[.val (.int x0), .val (.int x1), .val (.int x2), .val (.int x3), .val (.int la), .val (.int lb), .val (.int c0), .val (.int c1), .val (.int d0), .val (.int d1), .val (.int va1), .val (.int vf1), .val (.int va2), .val (.int vf2), .unset, .unset, .unset, .unset, .unset] [(.int c1), (.int c0), (.int la), (.ref b1), (.ref b1)])) rfl (by rw [hml]; rfl) (argsL := [(.int la), (.int c0), (.int c1)]) (rest := [(.ref b1), (.ref b1)]) (lenOf own_pd4 rfl) rfl (by show 2 * 0 + _ ≤ _; exact Nat.le_of_eq rfl) (hb hby at_193) (fun _ _ => ⟨rfl, e1, (by decide : 1 + 6 ≤ _), (by decide : 3 + 12 ≤ _)⟩)
                dsimp only [Pt.U, Pt.locs, Pt.cells, Pt.slots] at X5' hS5' gr5 l5 y5 z5 st5 hQ5 hR5
                subst l5 y5 z5
                obtain ⟨X5, hS5, hZ, hown⟩ := rebS hS0 (by rw [e1]; exact (Nat.le_trans hk0 E1.1)) X5' hS5' gr5 hZ hown
                obtain ⟨h5, e5⟩ : ∃ h, T5.heap = h := ⟨_, rfl⟩
                rw [e5] at hQ5 hS5 hR5
                obtain ⟨ar3, tt3, kt3, rfl, Nq5, K5, P4_0, P4_1, P4_2, P4_3, P4_4⟩ := hQ5
                have Sf5_b1 := CHr.safe hR5 (Exa.lt A1) Sf2_b1
                have RR5 := CHr.trans RR2 hR5
                have CH5 := hR5.1
                have N5 := Fr.app N0 Nq5
                have ge_ar3 : n0 ≤ ar3 := Nat.le_trans (Nat.le_trans Z0 E1.1) P4_4
                have gz_ar3 : h0.size ≤ ar3 := Nat.le_trans (Nat.le_trans (Nat.le_refl _) E1.1) P4_4
                refine own_fs st5 ?_
                show own_G p.tables e below _ (T5.setTop (mkF m 196 #[.val (.int x0), .val (.int x1), .val (.int x2), .val (.int x3), .val (.int la), .val (.int lb), .val (.int c0), .val (.int c1), .val (.int d0), .val (.int d1), .val (.int va1), .val (.int vf1), .val (.int va2), .val (.int vf2), .unset, .unset, .unset, .unset, .unset] [(.ref ar3), (.ref b1), (.ref b1)]))
                refine own_fs (XS.iload X5.here hx rfl (hb hby at_196) rfl (Steps.refl _)) ?_
                show own_G p.tables e below _ (T5.setTop (mkF m 198 #[.val (.int x0), .val (.int x1), .val (.int x2), .val (.int x3), .val (.int la), .val (.int lb), .val (.int c0), .val (.int c1), .val (.int d0), .val (.int d1), .val (.int va1), .val (.int vf1), .val (.int va2), .val (.int vf2), .unset, .unset, .unset, .unset, .unset] [(.int va1), (.ref ar3), (.ref b1), (.ref b1)]))
                refine own_fs (XS.iload X5.here hx rfl (hb hby at_198) rfl (Steps.refl _)) ?_
                show own_G p.tables e below _ (T5.setTop (mkF m 200 #[.val (.int x0), .val (.int x1), .val (.int x2), .val (.int x3), .val (.int la), .val (.int lb), .val (.int c0), .val (.int c1), .val (.int d0), .val (.int d1), .val (.int va1), .val (.int vf1), .val (.int va2), .val (.int vf2), .unset, .unset, .unset, .unset, .unset] [(.int vf1), (.int va1), (.ref ar3), (.ref b1), (.ref b1)]))
                have Zs9 : n0 ≤ h5.size := (Nat.le_trans (Nat.le_trans Z0 E1.1) K5.1)
                obtain ⟨_, _, ⟨T8, L8, k8, n8⟩, -, X8, ⟨Lc8, hQ8, l8, y8, z8⟩, st8⟩ := X5.specialBack hx (y := (⟨"com/example/diligent_tableau/diligenttableau/logic/Individual", "<init>", "(Ljava/lang/String;ZZ)V"⟩ : MethodName)) rfl hown (mvT hZ (hw _ (List.mem_of_getElem? (i := 37) rfl))) (mvT hZ (hw _ (List.mem_of_getElem? (i := 38) rfl))) (mvT hZ (hw _ (List.mem_of_getElem? (i := 39) rfl))) (by decide) (backOf (W := 1) (own_i_CN l Z a0 hw [] b1 ar3 va1 vf1 (.null) (0 : Int32) (0 : Int32) h5 n0 Zs9 (A1.keep K5) (F_name_b1.keep K5 nin0) (F_anonymous_b1.keep K5 nin0) (F_fresh_b1.keep K5 nin0) ge_b1) hZ (hw _ (List.mem_of_getElem? (i := 39) rfl)) (hw _ (List.mem_of_getElem? (i := 2) rfl)) (by decide) (by decide)) (g := (mkF m 200 #[.val (.int x0), .val (.int x1), .val (.int x2), .val (.int x3), .val (.int la), .val (.int lb), .val (.int c0), .val (.int c1), .val (.int d0), .val (.int d1), .val (.int va1), .val (.int vf1), .val (.int va2), .val (.int vf2), .unset, .unset, .unset, .unset, .unset] [(.int vf1), (.int va1), (.ref ar3), (.ref b1), (.ref b1)])) rfl (by rw [hml]; rfl) (Steps.refl _) (a := b1) (argsL := [(.ref ar3), (.int va1), (.int vf1)]) (rest := [(.ref b1)]) (lenOf own_pd5 rfl) rfl (by show 2 * 0 + _ ≤ _; exact Nat.le_of_eq rfl) (hb hby at_200) (fun _ _ => ⟨rfl, e5, (by decide : 7 + 0 ≤ _), (by decide : 15 + 0 ≤ _)⟩)
                dsimp only [Pt.U, Pt.locs, Pt.cells, Pt.slots] at X8 l8 y8 z8 st8 hQ8
                subst l8 y8 z8
                obtain ⟨h8, e8⟩ : ∃ h, T8.heap = h := ⟨_, rfl⟩
                rw [e8] at hQ8
                obtain ⟨rfl, Nq8, K8, P7_0, P7_1, P7_2⟩ := hQ8
                have CH10 := CHv.keep K8 (sfS (Safe.exa (vm := T5.vm) hZ.alike (A1.keep K5) (by decide) (by decide)) sf0) CH5
                have RR10 := CHr.trans RR5 (CHr.keep K8 (sfS (Safe.exa (vm := T5.vm) hZ.alike (A1.keep K5) (by decide) (by decide)) sf0) CH5)
                have Sf10_b1 := Safe.keep K8 (sfS (Safe.exa (vm := T5.vm) hZ.alike (A1.keep K5) (by decide) (by decide)) sf0) CH5 Sf5_b1
                have N8 := Fr.app N5 Nq8
                refine own_fs st8 ?_
                show own_G p.tables e below _ (T8.setTop (mkF m 203 #[.val (.int x0), .val (.int x1), .val (.int x2), .val (.int x3), .val (.int la), .val (.int lb), .val (.int c0), .val (.int c1), .val (.int d0), .val (.int d1), .val (.int va1), .val (.int vf1), .val (.int va2), .val (.int vf2), .unset, .unset, .unset, .unset, .unset] [(.ref b1)]))
                refine own_fs (XS.astore X8.here hx rfl (hb hby at_203) rfl rfl (l' := #[.val (.int x0), .val (.int x1), .val (.int x2), .val (.int x3), .val (.int la), .val (.int lb), .val (.int c0), .val (.int c1), .val (.int d0), .val (.int d1), .val (.int va1), .val (.int vf1), .val (.int va2), .val (.int vf2), .val (.ref b1), .unset, .unset, .unset, .unset]) rfl (Steps.refl _)) ?_
                show own_G p.tables e below _ (T8.setTop (mkF m 205 #[.val (.int x0), .val (.int x1), .val (.int x2), .val (.int x3), .val (.int la), .val (.int lb), .val (.int c0), .val (.int c1), .val (.int d0), .val (.int d1), .val (.int va1), .val (.int vf1), .val (.int va2), .val (.int vf2), .val (.ref b1), .unset, .unset, .unset, .unset] []))
                refine own_fs (XS.iloadN X8.here hx rfl (hb hby at_205) rfl (Steps.refl _)) ?_
                show own_G p.tables e below _ (T8.setTop (mkF m 206 #[.val (.int x0), .val (.int x1), .val (.int x2), .val (.int x3), .val (.int la), .val (.int lb), .val (.int c0), .val (.int c1), .val (.int d0), .val (.int d1), .val (.int va1), .val (.int vf1), .val (.int va2), .val (.int vf2), .val (.ref b1), .unset, .unset, .unset, .unset] [(.int x3)]))
                refine own_fs (XS.iconst X8.here hx rfl (hb hby at_206) (Steps.refl _)) ?_
                show own_G p.tables e below _ (T8.setTop (mkF m 207 #[.val (.int x0), .val (.int x1), .val (.int x2), .val (.int x3), .val (.int la), .val (.int lb), .val (.int c0), .val (.int c1), .val (.int d0), .val (.int d1), .val (.int va1), .val (.int vf1), .val (.int va2), .val (.int vf2), .val (.ref b1), .unset, .unset, .unset, .unset] [(.int (3 : Int32)), (.int x3)]))
                refine own_fs (XS.iand X8.here hx rfl (hb hby at_207) rfl (Steps.refl _)) ?_
                show own_G p.tables e below _ (T8.setTop (mkF m 208 #[.val (.int x0), .val (.int x1), .val (.int x2), .val (.int x3), .val (.int la), .val (.int lb), .val (.int c0), .val (.int c1), .val (.int d0), .val (.int d1), .val (.int va1), .val (.int vf1), .val (.int va2), .val (.int vf2), .val (.ref b1), .unset, .unset, .unset, .unset] [(.int (x3 &&& (3 : Int32)))]))
                refine own_fs (XS.istore X8.here hx rfl (hb hby at_208) rfl (l' := #[.val (.int x0), .val (.int x1), .val (.int x2), .val (.int x3), .val (.int la), .val (.int lb), .val (.int c0), .val (.int c1), .val (.int d0), .val (.int d1), .val (.int va1), .val (.int vf1), .val (.int va2), .val (.int vf2), .val (.ref b1), .val (.int (x3 &&& (3 : Int32))), .unset, .unset, .unset]) rfl (Steps.refl _)) ?_
                show own_G p.tables e below _ (T8.setTop (mkF m 210 #[.val (.int x0), .val (.int x1), .val (.int x2), .val (.int x3), .val (.int la), .val (.int lb), .val (.int c0), .val (.int c1), .val (.int d0), .val (.int d1), .val (.int va1), .val (.int vf1), .val (.int va2), .val (.int vf2), .val (.ref b1), .val (.int (x3 &&& (3 : Int32))), .unset, .unset, .unset] []))
                generalize hg_sl : (x3 &&& (3 : Int32)) = sl
                show own_G p.tables e below _ (T8.setTop (mkF m 210 #[.val (.int x0), .val (.int x1), .val (.int x2), .val (.int x3), .val (.int la), .val (.int lb), .val (.int c0), .val (.int c1), .val (.int d0), .val (.int d1), .val (.int va1), .val (.int vf1), .val (.int va2), .val (.int vf2), .val (.ref b1), .val (.int sl), .unset, .unset, .unset] []))
                refine own_fs (XS.iload X8.here hx rfl (hb hby at_210) rfl (Steps.refl _)) ?_
                show own_G p.tables e below _ (T8.setTop (mkF m 212 #[.val (.int x0), .val (.int x1), .val (.int x2), .val (.int x3), .val (.int la), .val (.int lb), .val (.int c0), .val (.int c1), .val (.int d0), .val (.int d1), .val (.int va1), .val (.int vf1), .val (.int va2), .val (.int vf2), .val (.ref b1), .val (.int sl), .unset, .unset, .unset] [(.int sl)]))
                refine own_fs (XS.iconst X8.here hx rfl (hb hby at_212) (Steps.refl _)) ?_
                show own_G p.tables e below _ (T8.setTop (mkF m 213 #[.val (.int x0), .val (.int x1), .val (.int x2), .val (.int x3), .val (.int la), .val (.int lb), .val (.int c0), .val (.int c1), .val (.int d0), .val (.int d1), .val (.int va1), .val (.int vf1), .val (.int va2), .val (.int vf2), .val (.ref b1), .val (.int sl), .unset, .unset, .unset] [(.int (1 : Int32)), (.int sl)]))
                by_cases hc213 : sl = (1 : Int32)
                · refine own_fs (XS.icmpNo X8.here hx rfl (hb hby at_213) rfl (XT.ii_ne_f hc213) (Steps.refl _)) ?_
                  show own_G p.tables e below _ (T8.setTop (mkF m 216 #[.val (.int x0), .val (.int x1), .val (.int x2), .val (.int x3), .val (.int la), .val (.int lb), .val (.int c0), .val (.int c1), .val (.int d0), .val (.int d1), .val (.int va1), .val (.int vf1), .val (.int va2), .val (.int vf2), .val (.ref b1), .val (.int sl), .unset, .unset, .unset] []))
                  refine own_fs (XS.aload X8.here hx rfl (hb hby at_216) rfl rfl (Steps.refl _)) ?_
                  show own_G p.tables e below _ (T8.setTop (mkF m 218 #[.val (.int x0), .val (.int x1), .val (.int x2), .val (.int x3), .val (.int la), .val (.int lb), .val (.int c0), .val (.int c1), .val (.int d0), .val (.int d1), .val (.int va1), .val (.int vf1), .val (.int va2), .val (.int vf2), .val (.ref b1), .val (.int sl), .unset, .unset, .unset] [(.ref b1)]))
                  refine own_fs (XS.iload X8.here hx rfl (hb hby at_218) rfl (Steps.refl _)) ?_
                  show own_G p.tables e below _ (T8.setTop (mkF m 220 #[.val (.int x0), .val (.int x1), .val (.int x2), .val (.int x3), .val (.int la), .val (.int lb), .val (.int c0), .val (.int c1), .val (.int d0), .val (.int d1), .val (.int va1), .val (.int vf1), .val (.int va2), .val (.int vf2), .val (.ref b1), .val (.int sl), .unset, .unset, .unset] [(.int la), (.ref b1)]))
                  refine own_fs (XS.iload X8.here hx rfl (hb hby at_220) rfl (Steps.refl _)) ?_
                  show own_G p.tables e below _ (T8.setTop (mkF m 222 #[.val (.int x0), .val (.int x1), .val (.int x2), .val (.int x3), .val (.int la), .val (.int lb), .val (.int c0), .val (.int c1), .val (.int d0), .val (.int d1), .val (.int va1), .val (.int vf1), .val (.int va2), .val (.int vf2), .val (.ref b1), .val (.int sl), .unset, .unset, .unset] [(.int c0), (.int la), (.ref b1)]))
                  refine own_fs (XS.iload X8.here hx rfl (hb hby at_222) rfl (Steps.refl _)) ?_
                  show own_G p.tables e below _ (T8.setTop (mkF m 224 #[.val (.int x0), .val (.int x1), .val (.int x2), .val (.int x3), .val (.int la), .val (.int lb), .val (.int c0), .val (.int c1), .val (.int d0), .val (.int d1), .val (.int va1), .val (.int vf1), .val (.int va2), .val (.int vf2), .val (.ref b1), .val (.int sl), .unset, .unset, .unset] [(.int c1), (.int c0), (.int la), (.ref b1)]))
                  have Zs14 : n0 ≤ h8.size := (Nat.le_trans (Nat.le_trans (Nat.le_trans Z0 E1.1) K5.1) K8.1)
                  obtain ⟨_, _, ⟨T13, L13, k13, n13⟩, -, X13', hS13', gr13, ⟨Lc13, hQ13, l13, y13, z13, hR13⟩, st13⟩ := callSS X8 hx (y := (⟨"com/example/diligent_tableau/diligenttableau/logic/IndividualEqualsPinLaw", "str", "(ICC)Ljava/lang/String;"⟩ : MethodName)) hown (mvT hZ (hw _ (List.mem_of_getElem? (i := 3) rfl))) (mvT hZ (hw _ (List.mem_of_getElem? (i := 4) rfl))) (mvT hZ (hw _ (List.mem_of_getElem? (i := 5) rfl))) (mvT hZ (hw _ (List.mem_of_getElem? (i := 6) rfl))) (by decide) (backOfSH (s := s) (vm0 := T5.vm) (W := 1) (own_str l Z a0 hw [] la c0 c1 cz h8 n0 Zs14 hSc hcz (Old.keep (Old.keep (Old.ext hOld E1) K5 all0) K8 (allS ge_b1 all0)) hc0 hc1) hZ (hw _ (List.mem_of_getElem? (i := 6) rfl)) (hw _ (List.mem_of_getElem? (i := 5) rfl)) (by decide) (by decide) hEL CH10) (g := (mkF m 224 #[.val (.int x0), .val (.int x1), .val (.int x2), .val (.int x3), .val (.int la), .val (.int lb), .val (.int c0), .val (.int c1), .val (.int d0), .val (.int d1), .val (.int va1), .val (.int vf1), .val (.int va2), .val (.int vf2), .val (.ref b1), .val (.int sl), .unset, .unset, .unset] [(.int c1), (.int c0), (.int la), (.ref b1)])) rfl (by rw [hml]; rfl) (argsL := [(.int la), (.int c0), (.int c1)]) (rest := [(.ref b1)]) (lenOf own_pd4 rfl) rfl (by show 2 * 0 + _ ≤ _; exact Nat.le_of_eq rfl) (hb hby at_224) (fun _ _ => ⟨rfl, e8, (by decide : 7 + 6 ≤ _), (by decide : 15 + 12 ≤ _)⟩)
                  dsimp only [Pt.U, Pt.locs, Pt.cells, Pt.slots] at X13' hS13' gr13 l13 y13 z13 st13 hQ13 hR13
                  subst l13 y13 z13
                  obtain ⟨X13, hS13, hZ, hown⟩ := rebS hS5 (by rw [e8]; exact (Nat.le_trans (Nat.le_refl _) K8.1)) X13' hS13' gr13 hZ hown
                  obtain ⟨h13, e13⟩ : ∃ h, T13.heap = h := ⟨_, rfl⟩
                  rw [e13] at hQ13 hS13 hR13
                  obtain ⟨ar11, tt11, kt11, rfl, Nq13, K13, P12_0, P12_1, P12_2, P12_3, P12_4⟩ := hQ13
                  have Sf13_b1 := CHr.safe hR13 (Exa.lt ((A1.keep K5).keep K8)) Sf10_b1
                  have RR13 := CHr.trans RR10 hR13
                  have CH13 := hR13.1
                  have N13 := Fr.app N8 Nq13
                  have ge_ar11 : n0 ≤ ar11 := Nat.le_trans (Nat.le_trans (Nat.le_trans (Nat.le_trans Z0 E1.1) K5.1) K8.1) P12_4
                  have gz_ar11 : h0.size ≤ ar11 := Nat.le_trans (Nat.le_trans (Nat.le_trans (Nat.le_trans (Nat.le_refl _) E1.1) K5.1) K8.1) P12_4
                  refine own_fs st13 ?_
                  show own_G p.tables e below _ (T13.setTop (mkF m 227 #[.val (.int x0), .val (.int x1), .val (.int x2), .val (.int x3), .val (.int la), .val (.int lb), .val (.int c0), .val (.int c1), .val (.int d0), .val (.int d1), .val (.int va1), .val (.int vf1), .val (.int va2), .val (.int vf2), .val (.ref b1), .val (.int sl), .unset, .unset, .unset] [(.ref ar11), (.ref b1)]))
                  have Zs17 : n0 ≤ h13.size := (Nat.le_trans (Nat.le_trans (Nat.le_trans (Nat.le_trans Z0 E1.1) K5.1) K8.1) K13.1)
                  obtain ⟨cq16, kq16, q16a, q16b, q16c⟩ := isOf hZ e13 (((A1.keep K5).keep K8).keep K13)
                  obtain ⟨_, _, ⟨T16, L16, k16, n16⟩, -, X16, ⟨Lc16, hQ16, l16, y16, z16⟩, st16⟩ := X13.virtualBack hx (y := (⟨"com/example/diligent_tableau/diligenttableau/logic/Individual", "equals", "(Ljava/lang/Object;)Z"⟩ : MethodName)) (z := (⟨"com/example/diligent_tableau/diligenttableau/logic/Individual", "equals", "(Ljava/lang/Object;)Z"⟩ : MethodName)) hown (mvT hZ (hw _ (List.mem_of_getElem? (i := 52) rfl))) (mvT hZ (hw _ (List.mem_of_getElem? (i := 53) rfl))) (notFace_of_selects (args := #[]) (mvT hZ (hw _ (List.mem_of_getElem? (i := 55) rfl)))) (mvT hZ (hw _ (List.mem_of_getElem? (i := 55) rfl))) (mvT hZ (hw _ (List.mem_of_getElem? (i := 54) rfl))) (by decide) (backOf (W := 0) (own_eqneg l Z a0 hw [] b1 ar11 h13 n0 Zs17 P12_0) hZ (hw _ (List.mem_of_getElem? (i := 56) rfl)) (hw _ (List.mem_of_getElem? (i := 2) rfl)) (by decide) (by decide)) q16a q16c (g := (mkF m 227 #[.val (.int x0), .val (.int x1), .val (.int x2), .val (.int x3), .val (.int la), .val (.int lb), .val (.int c0), .val (.int c1), .val (.int d0), .val (.int d1), .val (.int va1), .val (.int vf1), .val (.int va2), .val (.int vf2), .val (.ref b1), .val (.int sl), .unset, .unset, .unset] [(.ref ar11), (.ref b1)])) rfl (by rw [hml]; rfl) (Steps.refl _) (argsL := [(.ref ar11)]) (rest := []) (lenOf own_pd3 rfl) rfl (by show 2 * 0 + _ ≤ _; exact Nat.le_of_eq rfl) (hb hby at_227) (fun _ _ => ⟨rfl, e13, (by decide : 13 + 0 ≤ _), (by decide : 27 + 0 ≤ _)⟩)
                  dsimp only [Pt.U, Pt.locs, Pt.cells, Pt.slots] at X16 l16 y16 z16 st16 hQ16
                  subst l16 y16 z16
                  obtain ⟨rfl, Nq16, e16⟩ := hQ16
                  have N16 := Fr.app N13 Nq16
                  refine own_fs st16 ?_
                  show own_G p.tables e below _ (T16.setTop (mkF m 230 #[.val (.int x0), .val (.int x1), .val (.int x2), .val (.int x3), .val (.int la), .val (.int lb), .val (.int c0), .val (.int c1), .val (.int d0), .val (.int d1), .val (.int va1), .val (.int vf1), .val (.int va2), .val (.int vf2), .val (.ref b1), .val (.int sl), .unset, .unset, .unset] [(.int (0 : Int32))]))
                  refine own_fs (XS.ifNo X16.here hx rfl (hb hby at_230) rfl (XT.i0_ne_f (by decide : (0 : Int32) = (0 : Int32))) (Steps.refl _)) ?_
                  show own_G p.tables e below _ (T16.setTop (mkF m 233 #[.val (.int x0), .val (.int x1), .val (.int x2), .val (.int x3), .val (.int la), .val (.int lb), .val (.int c0), .val (.int c1), .val (.int d0), .val (.int d1), .val (.int va1), .val (.int vf1), .val (.int va2), .val (.int vf2), .val (.ref b1), .val (.int sl), .unset, .unset, .unset] []))
                  refine own_fs (XS.iconst X16.here hx rfl (hb hby at_233) (Steps.refl _)) ?_
                  show own_G p.tables e below _ (T16.setTop (mkF m 234 #[.val (.int x0), .val (.int x1), .val (.int x2), .val (.int x3), .val (.int la), .val (.int lb), .val (.int c0), .val (.int c1), .val (.int d0), .val (.int d1), .val (.int va1), .val (.int vf1), .val (.int va2), .val (.int vf2), .val (.ref b1), .val (.int sl), .unset, .unset, .unset] [(.int (1 : Int32))]))
                  refine own_fs (XS.goto X16.here hx rfl (pc0 := 234) (pc' := 238) rfl (hb hby at_234) (by decide) (by decide) (Steps.refl _)) ?_
                  show own_G p.tables e below _ (T16.setTop (mkF m 238 #[.val (.int x0), .val (.int x1), .val (.int x2), .val (.int x3), .val (.int la), .val (.int lb), .val (.int c0), .val (.int c1), .val (.int d0), .val (.int d1), .val (.int va1), .val (.int vf1), .val (.int va2), .val (.int vf2), .val (.ref b1), .val (.int sl), .unset, .unset, .unset] [(.int (1 : Int32))]))
                  exact own_retNW X16 hx (t := .boolean) Bd.returns hlk (by simp) (hb hby at_238) (by decide) (by decide) e16 hS13 (Nat.le_refl _) (by rw [hh]; exact RR13.trans (CHv.at X16 hZ hEL CH13)) ⟨rfl, N16⟩
                · refine own_fs (XS.icmpYes X8.here hx rfl (pc0 := 213) (pc' := 239) rfl (hb hby at_213) rfl (XT.ii_ne_t hc213) (by decide) (by decide) (Steps.refl _)) ?_
                  show own_G p.tables e below _ (T8.setTop (mkF m 239 #[.val (.int x0), .val (.int x1), .val (.int x2), .val (.int x3), .val (.int la), .val (.int lb), .val (.int c0), .val (.int c1), .val (.int d0), .val (.int d1), .val (.int va1), .val (.int vf1), .val (.int va2), .val (.int vf2), .val (.ref b1), .val (.int sl), .unset, .unset, .unset] []))
                  refine own_fs (XS.iload X8.here hx rfl (hb hby at_239) rfl (Steps.refl _)) ?_
                  show own_G p.tables e below _ (T8.setTop (mkF m 241 #[.val (.int x0), .val (.int x1), .val (.int x2), .val (.int x3), .val (.int la), .val (.int lb), .val (.int c0), .val (.int c1), .val (.int d0), .val (.int d1), .val (.int va1), .val (.int vf1), .val (.int va2), .val (.int vf2), .val (.ref b1), .val (.int sl), .unset, .unset, .unset] [(.int sl)]))
                  refine own_fs (XS.iconst X8.here hx rfl (hb hby at_241) (Steps.refl _)) ?_
                  show own_G p.tables e below _ (T8.setTop (mkF m 242 #[.val (.int x0), .val (.int x1), .val (.int x2), .val (.int x3), .val (.int la), .val (.int lb), .val (.int c0), .val (.int c1), .val (.int d0), .val (.int d1), .val (.int va1), .val (.int vf1), .val (.int va2), .val (.int vf2), .val (.ref b1), .val (.int sl), .unset, .unset, .unset] [(.int (2 : Int32)), (.int sl)]))
                  by_cases hc242 : sl = (2 : Int32)
                  · refine own_fs (XS.icmpNo X8.here hx rfl (hb hby at_242) rfl (XT.ii_ne_f hc242) (Steps.refl _)) ?_
                    show own_G p.tables e below _ (T8.setTop (mkF m 245 #[.val (.int x0), .val (.int x1), .val (.int x2), .val (.int x3), .val (.int la), .val (.int lb), .val (.int c0), .val (.int c1), .val (.int d0), .val (.int d1), .val (.int va1), .val (.int vf1), .val (.int va2), .val (.int vf2), .val (.ref b1), .val (.int sl), .unset, .unset, .unset] []))
                    refine own_fs (XS.aload X8.here hx rfl (hb hby at_245) rfl rfl (Steps.refl _)) ?_
                    show own_G p.tables e below _ (T8.setTop (mkF m 247 #[.val (.int x0), .val (.int x1), .val (.int x2), .val (.int x3), .val (.int la), .val (.int lb), .val (.int c0), .val (.int c1), .val (.int d0), .val (.int d1), .val (.int va1), .val (.int vf1), .val (.int va2), .val (.int vf2), .val (.ref b1), .val (.int sl), .unset, .unset, .unset] [(.ref b1)]))
                    refine own_fs (XS.aconstNull X8.here hx rfl (hb hby at_247) (Steps.refl _)) ?_
                    show own_G p.tables e below _ (T8.setTop (mkF m 248 #[.val (.int x0), .val (.int x1), .val (.int x2), .val (.int x3), .val (.int la), .val (.int lb), .val (.int c0), .val (.int c1), .val (.int d0), .val (.int d1), .val (.int va1), .val (.int vf1), .val (.int va2), .val (.int vf2), .val (.ref b1), .val (.int sl), .unset, .unset, .unset] [.null, (.ref b1)]))
                    have Zs20 : n0 ≤ h8.size := (Nat.le_trans (Nat.le_trans (Nat.le_trans Z0 E1.1) K5.1) K8.1)
                    obtain ⟨cq19, kq19, q19a, q19b, q19c⟩ := isOf hZ e8 ((A1.keep K5).keep K8)
                    obtain ⟨_, _, ⟨T19, L19, k19, n19⟩, -, X19, ⟨Lc19, hQ19, l19, y19, z19⟩, st19⟩ := X8.virtualBack hx (y := (⟨"com/example/diligent_tableau/diligenttableau/logic/Individual", "equals", "(Ljava/lang/Object;)Z"⟩ : MethodName)) (z := (⟨"com/example/diligent_tableau/diligenttableau/logic/Individual", "equals", "(Ljava/lang/Object;)Z"⟩ : MethodName)) hown (mvT hZ (hw _ (List.mem_of_getElem? (i := 52) rfl))) (mvT hZ (hw _ (List.mem_of_getElem? (i := 53) rfl))) (notFace_of_selects (args := #[]) (mvT hZ (hw _ (List.mem_of_getElem? (i := 55) rfl)))) (mvT hZ (hw _ (List.mem_of_getElem? (i := 55) rfl))) (mvT hZ (hw _ (List.mem_of_getElem? (i := 54) rfl))) (by decide) (backOf (W := 0) (own_eqnull l Z a0 hw [] b1 h8 n0 Zs20 ) hZ (hw _ (List.mem_of_getElem? (i := 56) rfl)) (hw _ (List.mem_of_getElem? (i := 2) rfl)) (by decide) (by decide)) q19a q19c (g := (mkF m 248 #[.val (.int x0), .val (.int x1), .val (.int x2), .val (.int x3), .val (.int la), .val (.int lb), .val (.int c0), .val (.int c1), .val (.int d0), .val (.int d1), .val (.int va1), .val (.int vf1), .val (.int va2), .val (.int vf2), .val (.ref b1), .val (.int sl), .unset, .unset, .unset] [.null, (.ref b1)])) rfl (by rw [hml]; rfl) (Steps.refl _) (argsL := [.null]) (rest := []) (lenOf own_pd3 rfl) rfl (by show 2 * 0 + _ ≤ _; exact Nat.le_of_eq rfl) (hb hby at_248) (fun _ _ => ⟨rfl, e8, (by decide : 7 + 0 ≤ _), (by decide : 15 + 0 ≤ _)⟩)
                    dsimp only [Pt.U, Pt.locs, Pt.cells, Pt.slots] at X19 l19 y19 z19 st19 hQ19
                    subst l19 y19 z19
                    obtain ⟨rfl, Nq19, e19⟩ := hQ19
                    have N19 := Fr.app N8 Nq19
                    refine own_fs st19 ?_
                    show own_G p.tables e below _ (T19.setTop (mkF m 251 #[.val (.int x0), .val (.int x1), .val (.int x2), .val (.int x3), .val (.int la), .val (.int lb), .val (.int c0), .val (.int c1), .val (.int d0), .val (.int d1), .val (.int va1), .val (.int vf1), .val (.int va2), .val (.int vf2), .val (.ref b1), .val (.int sl), .unset, .unset, .unset] [(.int (0 : Int32))]))
                    refine own_fs (XS.ifNo X19.here hx rfl (hb hby at_251) rfl (XT.i0_ne_f (by decide : (0 : Int32) = (0 : Int32))) (Steps.refl _)) ?_
                    show own_G p.tables e below _ (T19.setTop (mkF m 254 #[.val (.int x0), .val (.int x1), .val (.int x2), .val (.int x3), .val (.int la), .val (.int lb), .val (.int c0), .val (.int c1), .val (.int d0), .val (.int d1), .val (.int va1), .val (.int vf1), .val (.int va2), .val (.int vf2), .val (.ref b1), .val (.int sl), .unset, .unset, .unset] []))
                    refine own_fs (XS.iconst X19.here hx rfl (hb hby at_254) (Steps.refl _)) ?_
                    show own_G p.tables e below _ (T19.setTop (mkF m 255 #[.val (.int x0), .val (.int x1), .val (.int x2), .val (.int x3), .val (.int la), .val (.int lb), .val (.int c0), .val (.int c1), .val (.int d0), .val (.int d1), .val (.int va1), .val (.int vf1), .val (.int va2), .val (.int vf2), .val (.ref b1), .val (.int sl), .unset, .unset, .unset] [(.int (1 : Int32))]))
                    refine own_fs (XS.goto X19.here hx rfl (pc0 := 255) (pc' := 259) rfl (hb hby at_255) (by decide) (by decide) (Steps.refl _)) ?_
                    show own_G p.tables e below _ (T19.setTop (mkF m 259 #[.val (.int x0), .val (.int x1), .val (.int x2), .val (.int x3), .val (.int la), .val (.int lb), .val (.int c0), .val (.int c1), .val (.int d0), .val (.int d1), .val (.int va1), .val (.int vf1), .val (.int va2), .val (.int vf2), .val (.ref b1), .val (.int sl), .unset, .unset, .unset] [(.int (1 : Int32))]))
                    exact own_retNW X19 hx (t := .boolean) Bd.returns hlk (by simp) (hb hby at_259) (by decide) (by decide) e19 hS5 (Nat.le_trans (Nat.le_refl _) K8.1) (by rw [hh]; exact RR10.trans (CHv.at X19 hZ hEL CH10)) ⟨rfl, N19⟩
                  · refine own_fs (XS.icmpYes X8.here hx rfl (pc0 := 242) (pc' := 260) rfl (hb hby at_242) rfl (XT.ii_ne_t hc242) (by decide) (by decide) (Steps.refl _)) ?_
                    show own_G p.tables e below _ (T8.setTop (mkF m 260 #[.val (.int x0), .val (.int x1), .val (.int x2), .val (.int x3), .val (.int la), .val (.int lb), .val (.int c0), .val (.int c1), .val (.int d0), .val (.int d1), .val (.int va1), .val (.int vf1), .val (.int va2), .val (.int vf2), .val (.ref b1), .val (.int sl), .unset, .unset, .unset] []))
                    refine own_fs (XS.iload X8.here hx rfl (hb hby at_260) rfl (Steps.refl _)) ?_
                    show own_G p.tables e below _ (T8.setTop (mkF m 262 #[.val (.int x0), .val (.int x1), .val (.int x2), .val (.int x3), .val (.int la), .val (.int lb), .val (.int c0), .val (.int c1), .val (.int d0), .val (.int d1), .val (.int va1), .val (.int vf1), .val (.int va2), .val (.int vf2), .val (.ref b1), .val (.int sl), .unset, .unset, .unset] [(.int sl)]))
                    refine own_fs (XS.iconst X8.here hx rfl (hb hby at_262) (Steps.refl _)) ?_
                    show own_G p.tables e below _ (T8.setTop (mkF m 263 #[.val (.int x0), .val (.int x1), .val (.int x2), .val (.int x3), .val (.int la), .val (.int lb), .val (.int c0), .val (.int c1), .val (.int d0), .val (.int d1), .val (.int va1), .val (.int vf1), .val (.int va2), .val (.int vf2), .val (.ref b1), .val (.int sl), .unset, .unset, .unset] [(.int (3 : Int32)), (.int sl)]))
                    by_cases hc263 : sl = (3 : Int32)
                    · refine own_fs (XS.icmpNo X8.here hx rfl (hb hby at_263) rfl (XT.ii_ne_f hc263) (Steps.refl _)) ?_
                      show own_G p.tables e below _ (T8.setTop (mkF m 266 #[.val (.int x0), .val (.int x1), .val (.int x2), .val (.int x3), .val (.int la), .val (.int lb), .val (.int c0), .val (.int c1), .val (.int d0), .val (.int d1), .val (.int va1), .val (.int vf1), .val (.int va2), .val (.int vf2), .val (.ref b1), .val (.int sl), .unset, .unset, .unset] []))
                      refine own_fs (XS.aload X8.here hx rfl (hb hby at_266) rfl rfl (Steps.refl _)) ?_
                      show own_G p.tables e below _ (T8.setTop (mkF m 268 #[.val (.int x0), .val (.int x1), .val (.int x2), .val (.int x3), .val (.int la), .val (.int lb), .val (.int c0), .val (.int c1), .val (.int d0), .val (.int d1), .val (.int va1), .val (.int vf1), .val (.int va2), .val (.int vf2), .val (.ref b1), .val (.int sl), .unset, .unset, .unset] [(.ref b1)]))
                      refine own_fs (XS.aload X8.here hx rfl (hb hby at_268) rfl rfl (Steps.refl _)) ?_
                      show own_G p.tables e below _ (T8.setTop (mkF m 270 #[.val (.int x0), .val (.int x1), .val (.int x2), .val (.int x3), .val (.int la), .val (.int lb), .val (.int c0), .val (.int c1), .val (.int d0), .val (.int d1), .val (.int va1), .val (.int vf1), .val (.int va2), .val (.int vf2), .val (.ref b1), .val (.int sl), .unset, .unset, .unset] [(.ref b1), (.ref b1)]))
                      have Zs23 : n0 ≤ h8.size := (Nat.le_trans (Nat.le_trans (Nat.le_trans Z0 E1.1) K5.1) K8.1)
                      obtain ⟨cq22, kq22, q22a, q22b, q22c⟩ := isOf hZ e8 ((A1.keep K5).keep K8)
                      obtain ⟨_, _, ⟨T22, L22, k22, n22⟩, -, X22, ⟨Lc22, hQ22, l22, y22, z22⟩, st22⟩ := X8.virtualBack hx (y := (⟨"com/example/diligent_tableau/diligenttableau/logic/Individual", "equals", "(Ljava/lang/Object;)Z"⟩ : MethodName)) (z := (⟨"com/example/diligent_tableau/diligenttableau/logic/Individual", "equals", "(Ljava/lang/Object;)Z"⟩ : MethodName)) hown (mvT hZ (hw _ (List.mem_of_getElem? (i := 52) rfl))) (mvT hZ (hw _ (List.mem_of_getElem? (i := 53) rfl))) (notFace_of_selects (args := #[]) (mvT hZ (hw _ (List.mem_of_getElem? (i := 55) rfl)))) (mvT hZ (hw _ (List.mem_of_getElem? (i := 55) rfl))) (mvT hZ (hw _ (List.mem_of_getElem? (i := 54) rfl))) (by decide) (backOf (W := 0) (own_eqcn l Z a0 hw [] b1 b1 (nar .boolean va1) (nar .boolean va1) (nar .boolean vf1) (nar .boolean vf1) ar3 ar3 tt3 tt3 kt3 kt3 (own_cs la c0 c1) (own_cs la c0 c1) cz h8 n0 Zs23 ((A1.keep K5).keep K8) P7_1 P7_1 P7_2 P7_2 P7_0 P7_0 (P4_0.keep K8) (P4_1.keep K8 (ninS (Ne.symm (Nat.ne_of_lt (Nat.lt_of_lt_of_le (Exa.lt A1) P4_4))) nin0)) (P4_2.keep K8 (ninS (Ne.symm (Nat.ne_of_lt (Nat.lt_of_lt_of_le (Exa.lt A1) P4_4))) nin0)) (P4_3.keep K8 (ninS (Ne.symm (Exa.neArv (A1.keep K5) P4_3 (hw _ (List.mem_of_getElem? (i := 1) rfl)))) nin0)) (own_cs_rng hc0 hc1) (own_cs_len la c0 c1) (P4_0.keep K8) (P4_1.keep K8 (ninS (Ne.symm (Nat.ne_of_lt (Nat.lt_of_lt_of_le (Exa.lt A1) P4_4))) nin0)) (P4_2.keep K8 (ninS (Ne.symm (Nat.ne_of_lt (Nat.lt_of_lt_of_le (Exa.lt A1) P4_4))) nin0)) (P4_3.keep K8 (ninS (Ne.symm (Exa.neArv (A1.keep K5) P4_3 (hw _ (List.mem_of_getElem? (i := 1) rfl)))) nin0)) (own_cs_rng hc0 hc1) (own_cs_len la c0 c1) hSc hcz (Old.keep (Old.keep (Old.ext hOld E1) K5 all0) K8 (allS ge_b1 all0))) hZ (hw _ (List.mem_of_getElem? (i := 56) rfl)) (hw _ (List.mem_of_getElem? (i := 2) rfl)) (by decide) (by decide)) q22a q22c (g := (mkF m 270 #[.val (.int x0), .val (.int x1), .val (.int x2), .val (.int x3), .val (.int la), .val (.int lb), .val (.int c0), .val (.int c1), .val (.int d0), .val (.int d1), .val (.int va1), .val (.int vf1), .val (.int va2), .val (.int vf2), .val (.ref b1), .val (.int sl), .unset, .unset, .unset] [(.ref b1), (.ref b1)])) rfl (by rw [hml]; rfl) (Steps.refl _) (argsL := [(.ref b1)]) (rest := []) (lenOf own_pd3 rfl) rfl (by show 2 * 0 + _ ≤ _; exact Nat.le_of_eq rfl) (hb hby at_270) (fun _ _ => ⟨rfl, e8, (by decide : 7 + 0 ≤ _), (by decide : 15 + 0 ≤ _)⟩)
                      dsimp only [Pt.U, Pt.locs, Pt.cells, Pt.slots] at X22 l22 y22 z22 st22 hQ22
                      subst l22 y22 z22
                      obtain ⟨rfl, Nq22, e22⟩ := hQ22
                      have N22 := Fr.app N8 Nq22
                      refine own_fs st22 ?_
                      show own_G p.tables e below _ (T22.setTop (mkF m 273 #[.val (.int x0), .val (.int x1), .val (.int x2), .val (.int x3), .val (.int la), .val (.int lb), .val (.int c0), .val (.int c1), .val (.int d0), .val (.int d1), .val (.int va1), .val (.int vf1), .val (.int va2), .val (.int vf2), .val (.ref b1), .val (.int sl), .unset, .unset, .unset] [(.int (own_eqi (nar .boolean va1) (nar .boolean va1) (nar .boolean vf1) (nar .boolean vf1) (own_cs la c0 c1) (own_cs la c0 c1)))]))
                      exact own_retNW X22 hx (t := .boolean) Bd.returns hlk (by simp) (hb hby at_273) (by decide) (by decide) e22 hS5 (Nat.le_trans (Nat.le_refl _) K8.1) (by rw [hh]; exact RR10.trans (CHv.at X22 hZ hEL CH10)) ⟨(by rw [own_eqiS]; rfl), N22⟩
                    · refine own_fs (XS.icmpYes X8.here hx rfl (pc0 := 263) (pc' := 274) rfl (hb hby at_263) rfl (XT.ii_ne_t hc263) (by decide) (by decide) (Steps.refl _)) ?_
                      show own_G p.tables e below _ (T8.setTop (mkF m 274 #[.val (.int x0), .val (.int x1), .val (.int x2), .val (.int x3), .val (.int la), .val (.int lb), .val (.int c0), .val (.int c1), .val (.int d0), .val (.int d1), .val (.int va1), .val (.int vf1), .val (.int va2), .val (.int vf2), .val (.ref b1), .val (.int sl), .unset, .unset, .unset] []))
                      obtain ⟨T24, h24, X24, e24, E24, A24, D24, -, st24⟩ := newO X8 hx hZ hown (hw _ (List.mem_of_getElem? (i := 0) rfl)) (hw _ (List.mem_of_getElem? (i := 1) rfl)) (hw _ (List.mem_of_getElem? (i := 2) rfl)) e8 (g := (mkF m 274 #[.val (.int x0), .val (.int x1), .val (.int x2), .val (.int x3), .val (.int la), .val (.int lb), .val (.int c0), .val (.int c1), .val (.int d0), .val (.int d1), .val (.int va1), .val (.int vf1), .val (.int va2), .val (.int vf2), .val (.ref b1), .val (.int sl), .unset, .unset, .unset] [])) rfl (hb hby at_274) (by decide) (by decide)
                      obtain ⟨b24, g24⟩ : ∃ z, z = h8.size := ⟨_, rfl⟩
                      rw [← g24] at A24 D24 st24
                      have ge_b24 : n0 ≤ b24 := Nat.le_trans (Nat.le_trans (Nat.le_trans (Nat.le_trans Z0 E1.1) K5.1) K8.1) (Nat.le_of_eq g24.symm)
                      have gz_b24 : h0.size ≤ b24 := Nat.le_trans (Nat.le_trans (Nat.le_trans (Nat.le_trans (Nat.le_refl _) E1.1) K5.1) K8.1) (Nat.le_of_eq g24.symm)
                      have Sf_b24 : Safe Z own_EL T5.vm h8 b24 := Safe.new (Nat.le_of_eq g24.symm)
                      have CH25 := CHv.ext E24 CH10
                      have RR25 := CHr.trans RR10 (CHr.ext E24 CH10)
                      have Sf25_b1 := Safe.ext E24 CH10 Sf10_b1
                      have Sf25_b24 := Safe.ext E24 CH10 Sf_b24
                      have F_name_b24 : Fld Z h24 b24 "com/example/diligent_tableau/diligenttableau/logic/Individual" "name" "Ljava/lang/String;" .null := D24 (Or.inr (hw _ (List.mem_of_getElem? (i := 47) rfl))) (ty := (.object "java/lang/String")) (by decide)
                      have F_anonymous_b24 : Fld Z h24 b24 "com/example/diligent_tableau/diligenttableau/logic/Individual" "anonymous" "Z" (.int (0 : Int32)) := D24 (Or.inr (hw _ (List.mem_of_getElem? (i := 49) rfl))) (ty := .boolean) (by decide)
                      have F_fresh_b24 : Fld Z h24 b24 "com/example/diligent_tableau/diligenttableau/logic/Individual" "fresh" "Z" (.int (0 : Int32)) := D24 (Or.inr (hw _ (List.mem_of_getElem? (i := 51) rfl))) (ty := .boolean) (by decide)
                      refine own_fs (st24 _ (Steps.refl _)) ?_
                      show own_G p.tables e below _ (T24.setTop (mkF m 277 #[.val (.int x0), .val (.int x1), .val (.int x2), .val (.int x3), .val (.int la), .val (.int lb), .val (.int c0), .val (.int c1), .val (.int d0), .val (.int d1), .val (.int va1), .val (.int vf1), .val (.int va2), .val (.int vf2), .val (.ref b1), .val (.int sl), .unset, .unset, .unset] [(.ref b24)]))
                      refine own_fs (XS.dup X24.here hx rfl (hb hby at_277) rfl rfl (Steps.refl _)) ?_
                      show own_G p.tables e below _ (T24.setTop (mkF m 278 #[.val (.int x0), .val (.int x1), .val (.int x2), .val (.int x3), .val (.int la), .val (.int lb), .val (.int c0), .val (.int c1), .val (.int d0), .val (.int d1), .val (.int va1), .val (.int vf1), .val (.int va2), .val (.int vf2), .val (.ref b1), .val (.int sl), .unset, .unset, .unset] [(.ref b24), (.ref b24)]))
                      refine own_fs (XS.iload X24.here hx rfl (hb hby at_278) rfl (Steps.refl _)) ?_
                      show own_G p.tables e below _ (T24.setTop (mkF m 280 #[.val (.int x0), .val (.int x1), .val (.int x2), .val (.int x3), .val (.int la), .val (.int lb), .val (.int c0), .val (.int c1), .val (.int d0), .val (.int d1), .val (.int va1), .val (.int vf1), .val (.int va2), .val (.int vf2), .val (.ref b1), .val (.int sl), .unset, .unset, .unset] [(.int lb), (.ref b24), (.ref b24)]))
                      refine own_fs (XS.iload X24.here hx rfl (hb hby at_280) rfl (Steps.refl _)) ?_
                      show own_G p.tables e below _ (T24.setTop (mkF m 282 #[.val (.int x0), .val (.int x1), .val (.int x2), .val (.int x3), .val (.int la), .val (.int lb), .val (.int c0), .val (.int c1), .val (.int d0), .val (.int d1), .val (.int va1), .val (.int vf1), .val (.int va2), .val (.int vf2), .val (.ref b1), .val (.int sl), .unset, .unset, .unset] [(.int d0), (.int lb), (.ref b24), (.ref b24)]))
                      refine own_fs (XS.iload X24.here hx rfl (hb hby at_282) rfl (Steps.refl _)) ?_
                      show own_G p.tables e below _ (T24.setTop (mkF m 284 #[.val (.int x0), .val (.int x1), .val (.int x2), .val (.int x3), .val (.int la), .val (.int lb), .val (.int c0), .val (.int c1), .val (.int d0), .val (.int d1), .val (.int va1), .val (.int vf1), .val (.int va2), .val (.int vf2), .val (.ref b1), .val (.int sl), .unset, .unset, .unset] [(.int d1), (.int d0), (.int lb), (.ref b24), (.ref b24)]))
                      have Zs29 : n0 ≤ h24.size := (Nat.le_trans (Nat.le_trans (Nat.le_trans (Nat.le_trans Z0 E1.1) K5.1) K8.1) E24.1)
                      obtain ⟨_, _, ⟨T28, L28, k28, n28⟩, -, X28', hS28', gr28, ⟨Lc28, hQ28, l28, y28, z28, hR28⟩, st28⟩ := callSS X24 hx (y := (⟨"com/example/diligent_tableau/diligenttableau/logic/IndividualEqualsPinLaw", "str", "(ICC)Ljava/lang/String;"⟩ : MethodName)) hown (mvT hZ (hw _ (List.mem_of_getElem? (i := 3) rfl))) (mvT hZ (hw _ (List.mem_of_getElem? (i := 4) rfl))) (mvT hZ (hw _ (List.mem_of_getElem? (i := 5) rfl))) (mvT hZ (hw _ (List.mem_of_getElem? (i := 6) rfl))) (by decide) (backOfSH (s := s) (vm0 := T5.vm) (W := 2) (own_str l Z a0 hw [] lb d0 d1 cz h24 n0 Zs29 hSc hcz (Old.ext (Old.keep (Old.keep (Old.ext hOld E1) K5 all0) K8 (allS ge_b1 all0)) E24) hd0 hd1) hZ (hw _ (List.mem_of_getElem? (i := 6) rfl)) (hw _ (List.mem_of_getElem? (i := 5) rfl)) (by decide) (by decide) hEL CH25) (g := (mkF m 284 #[.val (.int x0), .val (.int x1), .val (.int x2), .val (.int x3), .val (.int la), .val (.int lb), .val (.int c0), .val (.int c1), .val (.int d0), .val (.int d1), .val (.int va1), .val (.int vf1), .val (.int va2), .val (.int vf2), .val (.ref b1), .val (.int sl), .unset, .unset, .unset] [(.int d1), (.int d0), (.int lb), (.ref b24), (.ref b24)])) rfl (by rw [hml]; rfl) (argsL := [(.int lb), (.int d0), (.int d1)]) (rest := [(.ref b24), (.ref b24)]) (lenOf own_pd4 rfl) rfl (by show 2 * 0 + _ ≤ _; exact Nat.le_of_eq rfl) (hb hby at_284) (fun _ _ => ⟨rfl, e24, (by decide : 8 + 6 ≤ _), (by decide : 18 + 12 ≤ _)⟩)
                      dsimp only [Pt.U, Pt.locs, Pt.cells, Pt.slots] at X28' hS28' gr28 l28 y28 z28 st28 hQ28 hR28
                      subst l28 y28 z28
                      obtain ⟨X28, hS28, hZ, hown⟩ := rebS hS5 (by rw [e24]; exact (Nat.le_trans (Nat.le_trans (Nat.le_refl _) K8.1) E24.1)) X28' hS28' gr28 hZ hown
                      obtain ⟨h28, e28⟩ : ∃ h, T28.heap = h := ⟨_, rfl⟩
                      rw [e28] at hQ28 hS28 hR28
                      obtain ⟨ar26, tt26, kt26, rfl, Nq28, K28, P27_0, P27_1, P27_2, P27_3, P27_4⟩ := hQ28
                      have Sf28_b1 := CHr.safe hR28 (Exa.lt (Exa.ext E24 ((A1.keep K5).keep K8))) Sf25_b1
                      have Sf28_b24 := CHr.safe hR28 (Exa.lt A24) Sf25_b24
                      have RR28 := CHr.trans RR25 hR28
                      have CH28 := hR28.1
                      have N28 := Fr.app N8 Nq28
                      have ge_ar26 : n0 ≤ ar26 := Nat.le_trans (Nat.le_trans (Nat.le_trans (Nat.le_trans (Nat.le_trans Z0 E1.1) K5.1) K8.1) E24.1) P27_4
                      have gz_ar26 : h0.size ≤ ar26 := Nat.le_trans (Nat.le_trans (Nat.le_trans (Nat.le_trans (Nat.le_trans (Nat.le_refl _) E1.1) K5.1) K8.1) E24.1) P27_4
                      refine own_fs st28 ?_
                      show own_G p.tables e below _ (T28.setTop (mkF m 287 #[.val (.int x0), .val (.int x1), .val (.int x2), .val (.int x3), .val (.int la), .val (.int lb), .val (.int c0), .val (.int c1), .val (.int d0), .val (.int d1), .val (.int va1), .val (.int vf1), .val (.int va2), .val (.int vf2), .val (.ref b1), .val (.int sl), .unset, .unset, .unset] [(.ref ar26), (.ref b24), (.ref b24)]))
                      refine own_fs (XS.iload X28.here hx rfl (hb hby at_287) rfl (Steps.refl _)) ?_
                      show own_G p.tables e below _ (T28.setTop (mkF m 289 #[.val (.int x0), .val (.int x1), .val (.int x2), .val (.int x3), .val (.int la), .val (.int lb), .val (.int c0), .val (.int c1), .val (.int d0), .val (.int d1), .val (.int va1), .val (.int vf1), .val (.int va2), .val (.int vf2), .val (.ref b1), .val (.int sl), .unset, .unset, .unset] [(.int va2), (.ref ar26), (.ref b24), (.ref b24)]))
                      refine own_fs (XS.iload X28.here hx rfl (hb hby at_289) rfl (Steps.refl _)) ?_
                      show own_G p.tables e below _ (T28.setTop (mkF m 291 #[.val (.int x0), .val (.int x1), .val (.int x2), .val (.int x3), .val (.int la), .val (.int lb), .val (.int c0), .val (.int c1), .val (.int d0), .val (.int d1), .val (.int va1), .val (.int vf1), .val (.int va2), .val (.int vf2), .val (.ref b1), .val (.int sl), .unset, .unset, .unset] [(.int vf2), (.int va2), (.ref ar26), (.ref b24), (.ref b24)]))
                      have Zs32 : n0 ≤ h28.size := (Nat.le_trans (Nat.le_trans (Nat.le_trans (Nat.le_trans (Nat.le_trans Z0 E1.1) K5.1) K8.1) E24.1) K28.1)
                      obtain ⟨_, _, ⟨T31, L31, k31, n31⟩, -, X31, ⟨Lc31, hQ31, l31, y31, z31⟩, st31⟩ := X28.specialBack hx (y := (⟨"com/example/diligent_tableau/diligenttableau/logic/Individual", "<init>", "(Ljava/lang/String;ZZ)V"⟩ : MethodName)) rfl hown (mvT hZ (hw _ (List.mem_of_getElem? (i := 37) rfl))) (mvT hZ (hw _ (List.mem_of_getElem? (i := 38) rfl))) (mvT hZ (hw _ (List.mem_of_getElem? (i := 39) rfl))) (by decide) (backOf (W := 1) (own_i_CN l Z a0 hw [] b24 ar26 va2 vf2 (.null) (0 : Int32) (0 : Int32) h28 n0 Zs32 (A24.keep K28) (F_name_b24.keep K28 nin0) (F_anonymous_b24.keep K28 nin0) (F_fresh_b24.keep K28 nin0) ge_b24) hZ (hw _ (List.mem_of_getElem? (i := 39) rfl)) (hw _ (List.mem_of_getElem? (i := 2) rfl)) (by decide) (by decide)) (g := (mkF m 291 #[.val (.int x0), .val (.int x1), .val (.int x2), .val (.int x3), .val (.int la), .val (.int lb), .val (.int c0), .val (.int c1), .val (.int d0), .val (.int d1), .val (.int va1), .val (.int vf1), .val (.int va2), .val (.int vf2), .val (.ref b1), .val (.int sl), .unset, .unset, .unset] [(.int vf2), (.int va2), (.ref ar26), (.ref b24), (.ref b24)])) rfl (by rw [hml]; rfl) (Steps.refl _) (a := b24) (argsL := [(.ref ar26), (.int va2), (.int vf2)]) (rest := [(.ref b24)]) (lenOf own_pd5 rfl) rfl (by show 2 * 0 + _ ≤ _; exact Nat.le_of_eq rfl) (hb hby at_291) (fun _ _ => ⟨rfl, e28, (by decide : 14 + 0 ≤ _), (by decide : 30 + 0 ≤ _)⟩)
                      dsimp only [Pt.U, Pt.locs, Pt.cells, Pt.slots] at X31 l31 y31 z31 st31 hQ31
                      subst l31 y31 z31
                      obtain ⟨h31, e31⟩ : ∃ h, T31.heap = h := ⟨_, rfl⟩
                      rw [e31] at hQ31
                      obtain ⟨rfl, Nq31, K31, P30_0, P30_1, P30_2⟩ := hQ31
                      have CH33 := CHv.keep K31 (sfS (Safe.exa (vm := T28.vm) hZ.alike (A24.keep K28) (by decide) (by decide)) sf0) CH28
                      have RR33 := CHr.trans RR28 (CHr.keep K31 (sfS (Safe.exa (vm := T28.vm) hZ.alike (A24.keep K28) (by decide) (by decide)) sf0) CH28)
                      have Sf33_b1 := Safe.keep K31 (sfS (Safe.exa (vm := T28.vm) hZ.alike (A24.keep K28) (by decide) (by decide)) sf0) CH28 Sf28_b1
                      have Sf33_b24 := Safe.keep K31 (sfS (Safe.exa (vm := T28.vm) hZ.alike (A24.keep K28) (by decide) (by decide)) sf0) CH28 Sf28_b24
                      have N31 := Fr.app N28 Nq31
                      refine own_fs st31 ?_
                      show own_G p.tables e below _ (T31.setTop (mkF m 294 #[.val (.int x0), .val (.int x1), .val (.int x2), .val (.int x3), .val (.int la), .val (.int lb), .val (.int c0), .val (.int c1), .val (.int d0), .val (.int d1), .val (.int va1), .val (.int vf1), .val (.int va2), .val (.int vf2), .val (.ref b1), .val (.int sl), .unset, .unset, .unset] [(.ref b24)]))
                      refine own_fs (XS.astore X31.here hx rfl (hb hby at_294) rfl rfl (l' := #[.val (.int x0), .val (.int x1), .val (.int x2), .val (.int x3), .val (.int la), .val (.int lb), .val (.int c0), .val (.int c1), .val (.int d0), .val (.int d1), .val (.int va1), .val (.int vf1), .val (.int va2), .val (.int vf2), .val (.ref b1), .val (.int sl), .val (.ref b24), .unset, .unset]) rfl (Steps.refl _)) ?_
                      have J334 : ∀ (sm : Int32) (hsm : sm = own_sm la c0 c1 lb d0 d1), own_G p.tables e below (own_PW Z own_EL s (own_law_Q Z x0 x1 x2 x3 cz h0 n0) room_1.cells room_1.slots) (T31.setTop (mkF m 334 #[.val (.int x0), .val (.int x1), .val (.int x2), .val (.int x3), .val (.int la), .val (.int lb), .val (.int c0), .val (.int c1), .val (.int d0), .val (.int d1), .val (.int va1), .val (.int vf1), .val (.int va2), .val (.int vf2), .val (.ref b1), .val (.int sl), .val (.ref b24), .unset, .unset] [(.int sm)])) := by
                        intro sm hsm
                        show own_G p.tables e below _ (T31.setTop (mkF m 334 #[.val (.int x0), .val (.int x1), .val (.int x2), .val (.int x3), .val (.int la), .val (.int lb), .val (.int c0), .val (.int c1), .val (.int d0), .val (.int d1), .val (.int va1), .val (.int vf1), .val (.int va2), .val (.int vf2), .val (.ref b1), .val (.int sl), .val (.ref b24), .unset, .unset] [(.int sm)]))
                        refine own_fs (XS.istore X31.here hx rfl (hb hby at_334) rfl (l' := #[.val (.int x0), .val (.int x1), .val (.int x2), .val (.int x3), .val (.int la), .val (.int lb), .val (.int c0), .val (.int c1), .val (.int d0), .val (.int d1), .val (.int va1), .val (.int vf1), .val (.int va2), .val (.int vf2), .val (.ref b1), .val (.int sl), .val (.ref b24), .val (.int sm), .unset]) rfl (Steps.refl _)) ?_
                        have J360 : ∀ (ex : Int32) (hex : ex = own_ex va1 va2 vf1 vf2 sm), own_G p.tables e below (own_PW Z own_EL s (own_law_Q Z x0 x1 x2 x3 cz h0 n0) room_1.cells room_1.slots) (T31.setTop (mkF m 360 #[.val (.int x0), .val (.int x1), .val (.int x2), .val (.int x3), .val (.int la), .val (.int lb), .val (.int c0), .val (.int c1), .val (.int d0), .val (.int d1), .val (.int va1), .val (.int vf1), .val (.int va2), .val (.int vf2), .val (.ref b1), .val (.int sl), .val (.ref b24), .val (.int sm), .unset] [(.int ex)])) := by
                          intro ex hex
                          show own_G p.tables e below _ (T31.setTop (mkF m 360 #[.val (.int x0), .val (.int x1), .val (.int x2), .val (.int x3), .val (.int la), .val (.int lb), .val (.int c0), .val (.int c1), .val (.int d0), .val (.int d1), .val (.int va1), .val (.int vf1), .val (.int va2), .val (.int vf2), .val (.ref b1), .val (.int sl), .val (.ref b24), .val (.int sm), .unset] [(.int ex)]))
                          refine own_fs (XS.istore X31.here hx rfl (hb hby at_360) rfl (l' := #[.val (.int x0), .val (.int x1), .val (.int x2), .val (.int x3), .val (.int la), .val (.int lb), .val (.int c0), .val (.int c1), .val (.int d0), .val (.int d1), .val (.int va1), .val (.int vf1), .val (.int va2), .val (.int vf2), .val (.ref b1), .val (.int sl), .val (.ref b24), .val (.int sm), .val (.int ex)]) rfl (Steps.refl _)) ?_
                          show own_G p.tables e below _ (T31.setTop (mkF m 362 #[.val (.int x0), .val (.int x1), .val (.int x2), .val (.int x3), .val (.int la), .val (.int lb), .val (.int c0), .val (.int c1), .val (.int d0), .val (.int d1), .val (.int va1), .val (.int vf1), .val (.int va2), .val (.int vf2), .val (.ref b1), .val (.int sl), .val (.ref b24), .val (.int sm), .val (.int ex)] []))
                          refine own_fs (XS.aload X31.here hx rfl (hb hby at_362) rfl rfl (Steps.refl _)) ?_
                          show own_G p.tables e below _ (T31.setTop (mkF m 364 #[.val (.int x0), .val (.int x1), .val (.int x2), .val (.int x3), .val (.int la), .val (.int lb), .val (.int c0), .val (.int c1), .val (.int d0), .val (.int d1), .val (.int va1), .val (.int vf1), .val (.int va2), .val (.int vf2), .val (.ref b1), .val (.int sl), .val (.ref b24), .val (.int sm), .val (.int ex)] [(.ref b1)]))
                          refine own_fs (XS.aload X31.here hx rfl (hb hby at_364) rfl rfl (Steps.refl _)) ?_
                          show own_G p.tables e below _ (T31.setTop (mkF m 366 #[.val (.int x0), .val (.int x1), .val (.int x2), .val (.int x3), .val (.int la), .val (.int lb), .val (.int c0), .val (.int c1), .val (.int d0), .val (.int d1), .val (.int va1), .val (.int vf1), .val (.int va2), .val (.int vf2), .val (.ref b1), .val (.int sl), .val (.ref b24), .val (.int sm), .val (.int ex)] [(.ref b24), (.ref b1)]))
                          have Zs36 : n0 ≤ h31.size := (Nat.le_trans (Nat.le_trans (Nat.le_trans (Nat.le_trans (Nat.le_trans (Nat.le_trans Z0 E1.1) K5.1) K8.1) E24.1) K28.1) K31.1)
                          obtain ⟨cq35, kq35, q35a, q35b, q35c⟩ := isOf hZ e31 (((Exa.ext E24 ((A1.keep K5).keep K8)).keep K28).keep K31)
                          obtain ⟨_, _, ⟨T35, L35, k35, n35⟩, -, X35, ⟨Lc35, hQ35, l35, y35, z35⟩, st35⟩ := X31.virtualBack hx (y := (⟨"com/example/diligent_tableau/diligenttableau/logic/Individual", "equals", "(Ljava/lang/Object;)Z"⟩ : MethodName)) (z := (⟨"com/example/diligent_tableau/diligenttableau/logic/Individual", "equals", "(Ljava/lang/Object;)Z"⟩ : MethodName)) hown (mvT hZ (hw _ (List.mem_of_getElem? (i := 52) rfl))) (mvT hZ (hw _ (List.mem_of_getElem? (i := 53) rfl))) (notFace_of_selects (args := #[]) (mvT hZ (hw _ (List.mem_of_getElem? (i := 55) rfl)))) (mvT hZ (hw _ (List.mem_of_getElem? (i := 55) rfl))) (mvT hZ (hw _ (List.mem_of_getElem? (i := 54) rfl))) (by decide) (backOf (W := 0) (own_eqcn l Z a0 hw [] b1 b24 (nar .boolean va1) (nar .boolean va2) (nar .boolean vf1) (nar .boolean vf2) ar3 ar26 tt3 tt26 kt3 kt26 (own_cs la c0 c1) (own_cs lb d0 d1) cz h31 n0 Zs36 ((A24.keep K28).keep K31) (((Fld.ext E24 P7_1).keep K28 nin0).keep K31 (ninS (Nat.ne_of_lt (Nat.lt_of_lt_of_le (Exa.lt ((A1.keep K5).keep K8)) (Nat.le_of_eq g24.symm))) nin0)) P30_1 (((Fld.ext E24 P7_2).keep K28 nin0).keep K31 (ninS (Nat.ne_of_lt (Nat.lt_of_lt_of_le (Exa.lt ((A1.keep K5).keep K8)) (Nat.le_of_eq g24.symm))) nin0)) P30_2 (((Fld.ext E24 P7_0).keep K28 nin0).keep K31 (ninS (Nat.ne_of_lt (Nat.lt_of_lt_of_le (Exa.lt ((A1.keep K5).keep K8)) (Nat.le_of_eq g24.symm))) nin0)) P30_0 (((Exa.ext E24 (P4_0.keep K8)).keep K28).keep K31) (((Fld.ext E24 (P4_1.keep K8 (ninS (Ne.symm (Nat.ne_of_lt (Nat.lt_of_lt_of_le (Exa.lt A1) P4_4))) nin0))).keep K28 nin0).keep K31 (ninS (Nat.ne_of_lt (Nat.lt_of_lt_of_le (Exa.lt (P4_0.keep K8)) (Nat.le_of_eq g24.symm))) nin0)) (((Fld.ext E24 (P4_2.keep K8 (ninS (Ne.symm (Nat.ne_of_lt (Nat.lt_of_lt_of_le (Exa.lt A1) P4_4))) nin0))).keep K28 nin0).keep K31 (ninS (Nat.ne_of_lt (Nat.lt_of_lt_of_le (Exa.lt (P4_0.keep K8)) (Nat.le_of_eq g24.symm))) nin0)) ((((P4_3.keep K8 (ninS (Ne.symm (Exa.neArv (A1.keep K5) P4_3 (hw _ (List.mem_of_getElem? (i := 1) rfl)))) nin0)).ext E24).keep K28 nin0).keep K31 (ninS (Nat.ne_of_lt (Nat.lt_of_lt_of_le (Arv.lt (P4_3.keep K8 (ninS (Ne.symm (Exa.neArv (A1.keep K5) P4_3 (hw _ (List.mem_of_getElem? (i := 1) rfl)))) nin0))) (Nat.le_of_eq g24.symm))) nin0)) (own_cs_rng hc0 hc1) (own_cs_len la c0 c1) (P27_0.keep K31) (P27_1.keep K31 (ninS (Ne.symm (Nat.ne_of_lt (Nat.lt_of_lt_of_le (Exa.lt A24) P27_4))) nin0)) (P27_2.keep K31 (ninS (Ne.symm (Nat.ne_of_lt (Nat.lt_of_lt_of_le (Exa.lt A24) P27_4))) nin0)) (P27_3.keep K31 (ninS (Ne.symm (Exa.neArv (A24.keep K28) P27_3 (hw _ (List.mem_of_getElem? (i := 1) rfl)))) nin0)) (own_cs_rng hd0 hd1) (own_cs_len lb d0 d1) hSc hcz (Old.keep (Old.keep (Old.ext (Old.keep (Old.keep (Old.ext hOld E1) K5 all0) K8 (allS ge_b1 all0)) E24) K28 all0) K31 (allS ge_b24 all0))) hZ (hw _ (List.mem_of_getElem? (i := 56) rfl)) (hw _ (List.mem_of_getElem? (i := 2) rfl)) (by decide) (by decide)) q35a q35c (g := (mkF m 366 #[.val (.int x0), .val (.int x1), .val (.int x2), .val (.int x3), .val (.int la), .val (.int lb), .val (.int c0), .val (.int c1), .val (.int d0), .val (.int d1), .val (.int va1), .val (.int vf1), .val (.int va2), .val (.int vf2), .val (.ref b1), .val (.int sl), .val (.ref b24), .val (.int sm), .val (.int ex)] [(.ref b24), (.ref b1)])) rfl (by rw [hml]; rfl) (Steps.refl _) (argsL := [(.ref b24)]) (rest := []) (lenOf own_pd3 rfl) rfl (by show 2 * 0 + _ ≤ _; exact Nat.le_of_eq rfl) (hb hby at_366) (fun _ _ => ⟨rfl, e31, (by decide : 14 + 0 ≤ _), (by decide : 30 + 0 ≤ _)⟩)
                          dsimp only [Pt.U, Pt.locs, Pt.cells, Pt.slots] at X35 l35 y35 z35 st35 hQ35
                          subst l35 y35 z35
                          obtain ⟨rfl, Nq35, e35⟩ := hQ35
                          have N35 := Fr.app N31 Nq35
                          refine own_fs st35 ?_
                          show own_G p.tables e below _ (T35.setTop (mkF m 369 #[.val (.int x0), .val (.int x1), .val (.int x2), .val (.int x3), .val (.int la), .val (.int lb), .val (.int c0), .val (.int c1), .val (.int d0), .val (.int d1), .val (.int va1), .val (.int vf1), .val (.int va2), .val (.int vf2), .val (.ref b1), .val (.int sl), .val (.ref b24), .val (.int sm), .val (.int ex)] [(.int (own_eqi (nar .boolean va1) (nar .boolean va2) (nar .boolean vf1) (nar .boolean vf2) (own_cs la c0 c1) (own_cs lb d0 d1)))]))
                          refine own_fs (XS.iload X35.here hx rfl (hb hby at_369) rfl (Steps.refl _)) ?_
                          show own_G p.tables e below _ (T35.setTop (mkF m 371 #[.val (.int x0), .val (.int x1), .val (.int x2), .val (.int x3), .val (.int la), .val (.int lb), .val (.int c0), .val (.int c1), .val (.int d0), .val (.int d1), .val (.int va1), .val (.int vf1), .val (.int va2), .val (.int vf2), .val (.ref b1), .val (.int sl), .val (.ref b24), .val (.int sm), .val (.int ex)] [(.int ex), (.int (own_eqi (nar .boolean va1) (nar .boolean va2) (nar .boolean vf1) (nar .boolean vf2) (own_cs la c0 c1) (own_cs lb d0 d1)))]))
                          refine own_fs (XS.icmpNo X35.here hx rfl (hb hby at_371) rfl (XT.ii_ne_f (own_f1 hva1 hva2 hvf1 hvf2 (own_smEq hsm hla hlb hc0 hc1 hd0 hd1) hex)) (Steps.refl _)) ?_
                          show own_G p.tables e below _ (T35.setTop (mkF m 374 #[.val (.int x0), .val (.int x1), .val (.int x2), .val (.int x3), .val (.int la), .val (.int lb), .val (.int c0), .val (.int c1), .val (.int d0), .val (.int d1), .val (.int va1), .val (.int vf1), .val (.int va2), .val (.int vf2), .val (.ref b1), .val (.int sl), .val (.ref b24), .val (.int sm), .val (.int ex)] []))
                          refine own_fs (XS.aload X35.here hx rfl (hb hby at_374) rfl rfl (Steps.refl _)) ?_
                          show own_G p.tables e below _ (T35.setTop (mkF m 376 #[.val (.int x0), .val (.int x1), .val (.int x2), .val (.int x3), .val (.int la), .val (.int lb), .val (.int c0), .val (.int c1), .val (.int d0), .val (.int d1), .val (.int va1), .val (.int vf1), .val (.int va2), .val (.int vf2), .val (.ref b1), .val (.int sl), .val (.ref b24), .val (.int sm), .val (.int ex)] [(.ref b24)]))
                          refine own_fs (XS.aload X35.here hx rfl (hb hby at_376) rfl rfl (Steps.refl _)) ?_
                          show own_G p.tables e below _ (T35.setTop (mkF m 378 #[.val (.int x0), .val (.int x1), .val (.int x2), .val (.int x3), .val (.int la), .val (.int lb), .val (.int c0), .val (.int c1), .val (.int d0), .val (.int d1), .val (.int va1), .val (.int vf1), .val (.int va2), .val (.int vf2), .val (.ref b1), .val (.int sl), .val (.ref b24), .val (.int sm), .val (.int ex)] [(.ref b1), (.ref b24)]))
                          have Zs39 : n0 ≤ h31.size := (Nat.le_trans (Nat.le_trans (Nat.le_trans (Nat.le_trans (Nat.le_trans (Nat.le_trans Z0 E1.1) K5.1) K8.1) E24.1) K28.1) K31.1)
                          obtain ⟨cq38, kq38, q38a, q38b, q38c⟩ := isOf hZ e35 ((A24.keep K28).keep K31)
                          obtain ⟨_, _, ⟨T38, L38, k38, n38⟩, -, X38, ⟨Lc38, hQ38, l38, y38, z38⟩, st38⟩ := X35.virtualBack hx (y := (⟨"com/example/diligent_tableau/diligenttableau/logic/Individual", "equals", "(Ljava/lang/Object;)Z"⟩ : MethodName)) (z := (⟨"com/example/diligent_tableau/diligenttableau/logic/Individual", "equals", "(Ljava/lang/Object;)Z"⟩ : MethodName)) hown (mvT hZ (hw _ (List.mem_of_getElem? (i := 52) rfl))) (mvT hZ (hw _ (List.mem_of_getElem? (i := 53) rfl))) (notFace_of_selects (args := #[]) (mvT hZ (hw _ (List.mem_of_getElem? (i := 55) rfl)))) (mvT hZ (hw _ (List.mem_of_getElem? (i := 55) rfl))) (mvT hZ (hw _ (List.mem_of_getElem? (i := 54) rfl))) (by decide) (backOf (W := 0) (own_eqcn l Z a0 hw [] b24 b1 (nar .boolean va2) (nar .boolean va1) (nar .boolean vf2) (nar .boolean vf1) ar26 ar3 tt26 tt3 kt26 kt3 (own_cs lb d0 d1) (own_cs la c0 c1) cz h31 n0 Zs39 (((Exa.ext E24 ((A1.keep K5).keep K8)).keep K28).keep K31) P30_1 (((Fld.ext E24 P7_1).keep K28 nin0).keep K31 (ninS (Nat.ne_of_lt (Nat.lt_of_lt_of_le (Exa.lt ((A1.keep K5).keep K8)) (Nat.le_of_eq g24.symm))) nin0)) P30_2 (((Fld.ext E24 P7_2).keep K28 nin0).keep K31 (ninS (Nat.ne_of_lt (Nat.lt_of_lt_of_le (Exa.lt ((A1.keep K5).keep K8)) (Nat.le_of_eq g24.symm))) nin0)) P30_0 (((Fld.ext E24 P7_0).keep K28 nin0).keep K31 (ninS (Nat.ne_of_lt (Nat.lt_of_lt_of_le (Exa.lt ((A1.keep K5).keep K8)) (Nat.le_of_eq g24.symm))) nin0)) (P27_0.keep K31) (P27_1.keep K31 (ninS (Ne.symm (Nat.ne_of_lt (Nat.lt_of_lt_of_le (Exa.lt A24) P27_4))) nin0)) (P27_2.keep K31 (ninS (Ne.symm (Nat.ne_of_lt (Nat.lt_of_lt_of_le (Exa.lt A24) P27_4))) nin0)) (P27_3.keep K31 (ninS (Ne.symm (Exa.neArv (A24.keep K28) P27_3 (hw _ (List.mem_of_getElem? (i := 1) rfl)))) nin0)) (own_cs_rng hd0 hd1) (own_cs_len lb d0 d1) (((Exa.ext E24 (P4_0.keep K8)).keep K28).keep K31) (((Fld.ext E24 (P4_1.keep K8 (ninS (Ne.symm (Nat.ne_of_lt (Nat.lt_of_lt_of_le (Exa.lt A1) P4_4))) nin0))).keep K28 nin0).keep K31 (ninS (Nat.ne_of_lt (Nat.lt_of_lt_of_le (Exa.lt (P4_0.keep K8)) (Nat.le_of_eq g24.symm))) nin0)) (((Fld.ext E24 (P4_2.keep K8 (ninS (Ne.symm (Nat.ne_of_lt (Nat.lt_of_lt_of_le (Exa.lt A1) P4_4))) nin0))).keep K28 nin0).keep K31 (ninS (Nat.ne_of_lt (Nat.lt_of_lt_of_le (Exa.lt (P4_0.keep K8)) (Nat.le_of_eq g24.symm))) nin0)) ((((P4_3.keep K8 (ninS (Ne.symm (Exa.neArv (A1.keep K5) P4_3 (hw _ (List.mem_of_getElem? (i := 1) rfl)))) nin0)).ext E24).keep K28 nin0).keep K31 (ninS (Nat.ne_of_lt (Nat.lt_of_lt_of_le (Arv.lt (P4_3.keep K8 (ninS (Ne.symm (Exa.neArv (A1.keep K5) P4_3 (hw _ (List.mem_of_getElem? (i := 1) rfl)))) nin0))) (Nat.le_of_eq g24.symm))) nin0)) (own_cs_rng hc0 hc1) (own_cs_len la c0 c1) hSc hcz (Old.keep (Old.keep (Old.ext (Old.keep (Old.keep (Old.ext hOld E1) K5 all0) K8 (allS ge_b1 all0)) E24) K28 all0) K31 (allS ge_b24 all0))) hZ (hw _ (List.mem_of_getElem? (i := 56) rfl)) (hw _ (List.mem_of_getElem? (i := 2) rfl)) (by decide) (by decide)) q38a q38c (g := (mkF m 378 #[.val (.int x0), .val (.int x1), .val (.int x2), .val (.int x3), .val (.int la), .val (.int lb), .val (.int c0), .val (.int c1), .val (.int d0), .val (.int d1), .val (.int va1), .val (.int vf1), .val (.int va2), .val (.int vf2), .val (.ref b1), .val (.int sl), .val (.ref b24), .val (.int sm), .val (.int ex)] [(.ref b1), (.ref b24)])) rfl (by rw [hml]; rfl) (Steps.refl _) (argsL := [(.ref b1)]) (rest := []) (lenOf own_pd3 rfl) rfl (by show 2 * 0 + _ ≤ _; exact Nat.le_of_eq rfl) (hb hby at_378) (fun _ _ => ⟨rfl, e35, (by decide : 14 + 0 ≤ _), (by decide : 30 + 0 ≤ _)⟩)
                          dsimp only [Pt.U, Pt.locs, Pt.cells, Pt.slots] at X38 l38 y38 z38 st38 hQ38
                          subst l38 y38 z38
                          obtain ⟨rfl, Nq38, e38⟩ := hQ38
                          have N38 := Fr.app N35 Nq38
                          refine own_fs st38 ?_
                          show own_G p.tables e below _ (T38.setTop (mkF m 381 #[.val (.int x0), .val (.int x1), .val (.int x2), .val (.int x3), .val (.int la), .val (.int lb), .val (.int c0), .val (.int c1), .val (.int d0), .val (.int d1), .val (.int va1), .val (.int vf1), .val (.int va2), .val (.int vf2), .val (.ref b1), .val (.int sl), .val (.ref b24), .val (.int sm), .val (.int ex)] [(.int (own_eqi (nar .boolean va2) (nar .boolean va1) (nar .boolean vf2) (nar .boolean vf1) (own_cs lb d0 d1) (own_cs la c0 c1)))]))
                          refine own_fs (XS.iload X38.here hx rfl (hb hby at_381) rfl (Steps.refl _)) ?_
                          show own_G p.tables e below _ (T38.setTop (mkF m 383 #[.val (.int x0), .val (.int x1), .val (.int x2), .val (.int x3), .val (.int la), .val (.int lb), .val (.int c0), .val (.int c1), .val (.int d0), .val (.int d1), .val (.int va1), .val (.int vf1), .val (.int va2), .val (.int vf2), .val (.ref b1), .val (.int sl), .val (.ref b24), .val (.int sm), .val (.int ex)] [(.int ex), (.int (own_eqi (nar .boolean va2) (nar .boolean va1) (nar .boolean vf2) (nar .boolean vf1) (own_cs lb d0 d1) (own_cs la c0 c1)))]))
                          refine own_fs (XS.icmpNo X38.here hx rfl (hb hby at_383) rfl (XT.ii_ne_f (own_f2 hva1 hva2 hvf1 hvf2 (own_smEq hsm hla hlb hc0 hc1 hd0 hd1) hex)) (Steps.refl _)) ?_
                          show own_G p.tables e below _ (T38.setTop (mkF m 386 #[.val (.int x0), .val (.int x1), .val (.int x2), .val (.int x3), .val (.int la), .val (.int lb), .val (.int c0), .val (.int c1), .val (.int d0), .val (.int d1), .val (.int va1), .val (.int vf1), .val (.int va2), .val (.int vf2), .val (.ref b1), .val (.int sl), .val (.ref b24), .val (.int sm), .val (.int ex)] []))
                          refine own_fs (XS.iconst X38.here hx rfl (hb hby at_386) (Steps.refl _)) ?_
                          show own_G p.tables e below _ (T38.setTop (mkF m 387 #[.val (.int x0), .val (.int x1), .val (.int x2), .val (.int x3), .val (.int la), .val (.int lb), .val (.int c0), .val (.int c1), .val (.int d0), .val (.int d1), .val (.int va1), .val (.int vf1), .val (.int va2), .val (.int vf2), .val (.ref b1), .val (.int sl), .val (.ref b24), .val (.int sm), .val (.int ex)] [(.int (1 : Int32))]))
                          refine own_fs (XS.goto X38.here hx rfl (pc0 := 387) (pc' := 391) rfl (hb hby at_387) (by decide) (by decide) (Steps.refl _)) ?_
                          show own_G p.tables e below _ (T38.setTop (mkF m 391 #[.val (.int x0), .val (.int x1), .val (.int x2), .val (.int x3), .val (.int la), .val (.int lb), .val (.int c0), .val (.int c1), .val (.int d0), .val (.int d1), .val (.int va1), .val (.int vf1), .val (.int va2), .val (.int vf2), .val (.ref b1), .val (.int sl), .val (.ref b24), .val (.int sm), .val (.int ex)] [(.int (1 : Int32))]))
                          exact own_retNW X38 hx (t := .boolean) Bd.returns hlk (by simp) (hb hby at_391) (by decide) (by decide) e38 hS28 (Nat.le_trans (Nat.le_refl _) K31.1) (by rw [hh]; exact RR33.trans (CHv.at X38 hZ hEL CH33)) ⟨rfl, N38⟩
                        show own_G p.tables e below _ (T31.setTop (mkF m 336 #[.val (.int x0), .val (.int x1), .val (.int x2), .val (.int x3), .val (.int la), .val (.int lb), .val (.int c0), .val (.int c1), .val (.int d0), .val (.int d1), .val (.int va1), .val (.int vf1), .val (.int va2), .val (.int vf2), .val (.ref b1), .val (.int sl), .val (.ref b24), .val (.int sm), .unset] []))
                        refine own_fs (XS.iload X31.here hx rfl (hb hby at_336) rfl (Steps.refl _)) ?_
                        show own_G p.tables e below _ (T31.setTop (mkF m 338 #[.val (.int x0), .val (.int x1), .val (.int x2), .val (.int x3), .val (.int la), .val (.int lb), .val (.int c0), .val (.int c1), .val (.int d0), .val (.int d1), .val (.int va1), .val (.int vf1), .val (.int va2), .val (.int vf2), .val (.ref b1), .val (.int sl), .val (.ref b24), .val (.int sm), .unset] [(.int va1)]))
                        refine own_fs (XS.iload X31.here hx rfl (hb hby at_338) rfl (Steps.refl _)) ?_
                        show own_G p.tables e below _ (T31.setTop (mkF m 340 #[.val (.int x0), .val (.int x1), .val (.int x2), .val (.int x3), .val (.int la), .val (.int lb), .val (.int c0), .val (.int c1), .val (.int d0), .val (.int d1), .val (.int va1), .val (.int vf1), .val (.int va2), .val (.int vf2), .val (.ref b1), .val (.int sl), .val (.ref b24), .val (.int sm), .unset] [(.int va2), (.int va1)]))
                        by_cases hc340 : va1 = va2
                        · refine own_fs (XS.icmpNo X31.here hx rfl (hb hby at_340) rfl (XT.ii_ne_f hc340) (Steps.refl _)) ?_
                          show own_G p.tables e below _ (T31.setTop (mkF m 343 #[.val (.int x0), .val (.int x1), .val (.int x2), .val (.int x3), .val (.int la), .val (.int lb), .val (.int c0), .val (.int c1), .val (.int d0), .val (.int d1), .val (.int va1), .val (.int vf1), .val (.int va2), .val (.int vf2), .val (.ref b1), .val (.int sl), .val (.ref b24), .val (.int sm), .unset] []))
                          refine own_fs (XS.iload X31.here hx rfl (hb hby at_343) rfl (Steps.refl _)) ?_
                          show own_G p.tables e below _ (T31.setTop (mkF m 345 #[.val (.int x0), .val (.int x1), .val (.int x2), .val (.int x3), .val (.int la), .val (.int lb), .val (.int c0), .val (.int c1), .val (.int d0), .val (.int d1), .val (.int va1), .val (.int vf1), .val (.int va2), .val (.int vf2), .val (.ref b1), .val (.int sl), .val (.ref b24), .val (.int sm), .unset] [(.int vf1)]))
                          refine own_fs (XS.iload X31.here hx rfl (hb hby at_345) rfl (Steps.refl _)) ?_
                          show own_G p.tables e below _ (T31.setTop (mkF m 347 #[.val (.int x0), .val (.int x1), .val (.int x2), .val (.int x3), .val (.int la), .val (.int lb), .val (.int c0), .val (.int c1), .val (.int d0), .val (.int d1), .val (.int va1), .val (.int vf1), .val (.int va2), .val (.int vf2), .val (.ref b1), .val (.int sl), .val (.ref b24), .val (.int sm), .unset] [(.int vf2), (.int vf1)]))
                          by_cases hc347 : vf1 = vf2
                          · refine own_fs (XS.icmpNo X31.here hx rfl (hb hby at_347) rfl (XT.ii_ne_f hc347) (Steps.refl _)) ?_
                            show own_G p.tables e below _ (T31.setTop (mkF m 350 #[.val (.int x0), .val (.int x1), .val (.int x2), .val (.int x3), .val (.int la), .val (.int lb), .val (.int c0), .val (.int c1), .val (.int d0), .val (.int d1), .val (.int va1), .val (.int vf1), .val (.int va2), .val (.int vf2), .val (.ref b1), .val (.int sl), .val (.ref b24), .val (.int sm), .unset] []))
                            refine own_fs (XS.iload X31.here hx rfl (hb hby at_350) rfl (Steps.refl _)) ?_
                            show own_G p.tables e below _ (T31.setTop (mkF m 352 #[.val (.int x0), .val (.int x1), .val (.int x2), .val (.int x3), .val (.int la), .val (.int lb), .val (.int c0), .val (.int c1), .val (.int d0), .val (.int d1), .val (.int va1), .val (.int vf1), .val (.int va2), .val (.int vf2), .val (.ref b1), .val (.int sl), .val (.ref b24), .val (.int sm), .unset] [(.int sm)]))
                            by_cases hc352 : sm = (0 : Int32)
                            · refine own_fs (XS.ifYes X31.here hx rfl (pc0 := 352) (pc' := 359) rfl (hb hby at_352) rfl (XT.i0_eq_t hc352) (by decide) (by decide) (Steps.refl _)) ?_
                              show own_G p.tables e below _ (T31.setTop (mkF m 359 #[.val (.int x0), .val (.int x1), .val (.int x2), .val (.int x3), .val (.int la), .val (.int lb), .val (.int c0), .val (.int c1), .val (.int d0), .val (.int d1), .val (.int va1), .val (.int vf1), .val (.int va2), .val (.int vf2), .val (.ref b1), .val (.int sl), .val (.ref b24), .val (.int sm), .unset] []))
                              refine own_fs (XS.iconst X31.here hx rfl (hb hby at_359) (Steps.refl _)) ?_
                              exact J360 _ (by show (0 : Int32) = _; simp only [own_ex, if_pos hc340, if_pos hc347, if_pos hc352])
                            · refine own_fs (XS.ifNo X31.here hx rfl (hb hby at_352) rfl (XT.i0_eq_f hc352) (Steps.refl _)) ?_
                              show own_G p.tables e below _ (T31.setTop (mkF m 355 #[.val (.int x0), .val (.int x1), .val (.int x2), .val (.int x3), .val (.int la), .val (.int lb), .val (.int c0), .val (.int c1), .val (.int d0), .val (.int d1), .val (.int va1), .val (.int vf1), .val (.int va2), .val (.int vf2), .val (.ref b1), .val (.int sl), .val (.ref b24), .val (.int sm), .unset] []))
                              refine own_fs (XS.iconst X31.here hx rfl (hb hby at_355) (Steps.refl _)) ?_
                              show own_G p.tables e below _ (T31.setTop (mkF m 356 #[.val (.int x0), .val (.int x1), .val (.int x2), .val (.int x3), .val (.int la), .val (.int lb), .val (.int c0), .val (.int c1), .val (.int d0), .val (.int d1), .val (.int va1), .val (.int vf1), .val (.int va2), .val (.int vf2), .val (.ref b1), .val (.int sl), .val (.ref b24), .val (.int sm), .unset] [(.int (1 : Int32))]))
                              refine own_fs (XS.goto X31.here hx rfl (pc0 := 356) (pc' := 360) rfl (hb hby at_356) (by decide) (by decide) (Steps.refl _)) ?_
                              exact J360 _ (by show (1 : Int32) = _; simp only [own_ex, if_neg hc352, if_pos hc340, if_pos hc347])
                          · refine own_fs (XS.icmpYes X31.here hx rfl (pc0 := 347) (pc' := 359) rfl (hb hby at_347) rfl (XT.ii_ne_t hc347) (by decide) (by decide) (Steps.refl _)) ?_
                            show own_G p.tables e below _ (T31.setTop (mkF m 359 #[.val (.int x0), .val (.int x1), .val (.int x2), .val (.int x3), .val (.int la), .val (.int lb), .val (.int c0), .val (.int c1), .val (.int d0), .val (.int d1), .val (.int va1), .val (.int vf1), .val (.int va2), .val (.int vf2), .val (.ref b1), .val (.int sl), .val (.ref b24), .val (.int sm), .unset] []))
                            refine own_fs (XS.iconst X31.here hx rfl (hb hby at_359) (Steps.refl _)) ?_
                            exact J360 _ (by show (0 : Int32) = _; simp only [own_ex, if_neg hc347, if_pos hc340])
                        · refine own_fs (XS.icmpYes X31.here hx rfl (pc0 := 340) (pc' := 359) rfl (hb hby at_340) rfl (XT.ii_ne_t hc340) (by decide) (by decide) (Steps.refl _)) ?_
                          show own_G p.tables e below _ (T31.setTop (mkF m 359 #[.val (.int x0), .val (.int x1), .val (.int x2), .val (.int x3), .val (.int la), .val (.int lb), .val (.int c0), .val (.int c1), .val (.int d0), .val (.int d1), .val (.int va1), .val (.int vf1), .val (.int va2), .val (.int vf2), .val (.ref b1), .val (.int sl), .val (.ref b24), .val (.int sm), .unset] []))
                          refine own_fs (XS.iconst X31.here hx rfl (hb hby at_359) (Steps.refl _)) ?_
                          exact J360 _ (by show (0 : Int32) = _; simp only [own_ex, if_neg hc340])
                      show own_G p.tables e below _ (T31.setTop (mkF m 296 #[.val (.int x0), .val (.int x1), .val (.int x2), .val (.int x3), .val (.int la), .val (.int lb), .val (.int c0), .val (.int c1), .val (.int d0), .val (.int d1), .val (.int va1), .val (.int vf1), .val (.int va2), .val (.int vf2), .val (.ref b1), .val (.int sl), .val (.ref b24), .unset, .unset] []))
                      refine own_fs (XS.iload X31.here hx rfl (hb hby at_296) rfl (Steps.refl _)) ?_
                      show own_G p.tables e below _ (T31.setTop (mkF m 298 #[.val (.int x0), .val (.int x1), .val (.int x2), .val (.int x3), .val (.int la), .val (.int lb), .val (.int c0), .val (.int c1), .val (.int d0), .val (.int d1), .val (.int va1), .val (.int vf1), .val (.int va2), .val (.int vf2), .val (.ref b1), .val (.int sl), .val (.ref b24), .unset, .unset] [(.int la)]))
                      refine own_fs (XS.iload X31.here hx rfl (hb hby at_298) rfl (Steps.refl _)) ?_
                      show own_G p.tables e below _ (T31.setTop (mkF m 300 #[.val (.int x0), .val (.int x1), .val (.int x2), .val (.int x3), .val (.int la), .val (.int lb), .val (.int c0), .val (.int c1), .val (.int d0), .val (.int d1), .val (.int va1), .val (.int vf1), .val (.int va2), .val (.int vf2), .val (.ref b1), .val (.int sl), .val (.ref b24), .unset, .unset] [(.int lb), (.int la)]))
                      by_cases hc300 : la = lb
                      · refine own_fs (XS.icmpNo X31.here hx rfl (hb hby at_300) rfl (XT.ii_ne_f hc300) (Steps.refl _)) ?_
                        show own_G p.tables e below _ (T31.setTop (mkF m 303 #[.val (.int x0), .val (.int x1), .val (.int x2), .val (.int x3), .val (.int la), .val (.int lb), .val (.int c0), .val (.int c1), .val (.int d0), .val (.int d1), .val (.int va1), .val (.int vf1), .val (.int va2), .val (.int vf2), .val (.ref b1), .val (.int sl), .val (.ref b24), .unset, .unset] []))
                        refine own_fs (XS.iload X31.here hx rfl (hb hby at_303) rfl (Steps.refl _)) ?_
                        show own_G p.tables e below _ (T31.setTop (mkF m 305 #[.val (.int x0), .val (.int x1), .val (.int x2), .val (.int x3), .val (.int la), .val (.int lb), .val (.int c0), .val (.int c1), .val (.int d0), .val (.int d1), .val (.int va1), .val (.int vf1), .val (.int va2), .val (.int vf2), .val (.ref b1), .val (.int sl), .val (.ref b24), .unset, .unset] [(.int la)]))
                        refine own_fs (XS.iconst X31.here hx rfl (hb hby at_305) (Steps.refl _)) ?_
                        show own_G p.tables e below _ (T31.setTop (mkF m 306 #[.val (.int x0), .val (.int x1), .val (.int x2), .val (.int x3), .val (.int la), .val (.int lb), .val (.int c0), .val (.int c1), .val (.int d0), .val (.int d1), .val (.int va1), .val (.int vf1), .val (.int va2), .val (.int vf2), .val (.ref b1), .val (.int sl), .val (.ref b24), .unset, .unset] [(.int (1 : Int32)), (.int la)]))
                        by_cases hc306 : la < (1 : Int32)
                        · refine own_fs (XS.icmpYes X31.here hx rfl (pc0 := 306) (pc' := 316) rfl (hb hby at_306) rfl (XT.ii_lt_t hc306) (by decide) (by decide) (Steps.refl _)) ?_
                          show own_G p.tables e below _ (T31.setTop (mkF m 316 #[.val (.int x0), .val (.int x1), .val (.int x2), .val (.int x3), .val (.int la), .val (.int lb), .val (.int c0), .val (.int c1), .val (.int d0), .val (.int d1), .val (.int va1), .val (.int vf1), .val (.int va2), .val (.int vf2), .val (.ref b1), .val (.int sl), .val (.ref b24), .unset, .unset] []))
                          refine own_fs (XS.iload X31.here hx rfl (hb hby at_316) rfl (Steps.refl _)) ?_
                          show own_G p.tables e below _ (T31.setTop (mkF m 318 #[.val (.int x0), .val (.int x1), .val (.int x2), .val (.int x3), .val (.int la), .val (.int lb), .val (.int c0), .val (.int c1), .val (.int d0), .val (.int d1), .val (.int va1), .val (.int vf1), .val (.int va2), .val (.int vf2), .val (.ref b1), .val (.int sl), .val (.ref b24), .unset, .unset] [(.int la)]))
                          refine own_fs (XS.iconst X31.here hx rfl (hb hby at_318) (Steps.refl _)) ?_
                          show own_G p.tables e below _ (T31.setTop (mkF m 319 #[.val (.int x0), .val (.int x1), .val (.int x2), .val (.int x3), .val (.int la), .val (.int lb), .val (.int c0), .val (.int c1), .val (.int d0), .val (.int d1), .val (.int va1), .val (.int vf1), .val (.int va2), .val (.int vf2), .val (.ref b1), .val (.int sl), .val (.ref b24), .unset, .unset] [(.int (2 : Int32)), (.int la)]))
                          by_cases hc319 : la < (2 : Int32)
                          · refine own_fs (XS.icmpYes X31.here hx rfl (pc0 := 319) (pc' := 329) rfl (hb hby at_319) rfl (XT.ii_lt_t hc319) (by decide) (by decide) (Steps.refl _)) ?_
                            show own_G p.tables e below _ (T31.setTop (mkF m 329 #[.val (.int x0), .val (.int x1), .val (.int x2), .val (.int x3), .val (.int la), .val (.int lb), .val (.int c0), .val (.int c1), .val (.int d0), .val (.int d1), .val (.int va1), .val (.int vf1), .val (.int va2), .val (.int vf2), .val (.ref b1), .val (.int sl), .val (.ref b24), .unset, .unset] []))
                            refine own_fs (XS.iconst X31.here hx rfl (hb hby at_329) (Steps.refl _)) ?_
                            show own_G p.tables e below _ (T31.setTop (mkF m 330 #[.val (.int x0), .val (.int x1), .val (.int x2), .val (.int x3), .val (.int la), .val (.int lb), .val (.int c0), .val (.int c1), .val (.int d0), .val (.int d1), .val (.int va1), .val (.int vf1), .val (.int va2), .val (.int vf2), .val (.ref b1), .val (.int sl), .val (.ref b24), .unset, .unset] [(.int (1 : Int32))]))
                            refine own_fs (XS.goto X31.here hx rfl (pc0 := 330) (pc' := 334) rfl (hb hby at_330) (by decide) (by decide) (Steps.refl _)) ?_
                            exact J334 _ (by show (1 : Int32) = _; simp only [own_sm, if_pos hc300, if_pos hc306, if_pos hc319])
                          · refine own_fs (XS.icmpNo X31.here hx rfl (hb hby at_319) rfl (XT.ii_lt_f hc319) (Steps.refl _)) ?_
                            show own_G p.tables e below _ (T31.setTop (mkF m 322 #[.val (.int x0), .val (.int x1), .val (.int x2), .val (.int x3), .val (.int la), .val (.int lb), .val (.int c0), .val (.int c1), .val (.int d0), .val (.int d1), .val (.int va1), .val (.int vf1), .val (.int va2), .val (.int vf2), .val (.ref b1), .val (.int sl), .val (.ref b24), .unset, .unset] []))
                            refine own_fs (XS.iload X31.here hx rfl (hb hby at_322) rfl (Steps.refl _)) ?_
                            show own_G p.tables e below _ (T31.setTop (mkF m 324 #[.val (.int x0), .val (.int x1), .val (.int x2), .val (.int x3), .val (.int la), .val (.int lb), .val (.int c0), .val (.int c1), .val (.int d0), .val (.int d1), .val (.int va1), .val (.int vf1), .val (.int va2), .val (.int vf2), .val (.ref b1), .val (.int sl), .val (.ref b24), .unset, .unset] [(.int c1)]))
                            refine own_fs (XS.iload X31.here hx rfl (hb hby at_324) rfl (Steps.refl _)) ?_
                            show own_G p.tables e below _ (T31.setTop (mkF m 326 #[.val (.int x0), .val (.int x1), .val (.int x2), .val (.int x3), .val (.int la), .val (.int lb), .val (.int c0), .val (.int c1), .val (.int d0), .val (.int d1), .val (.int va1), .val (.int vf1), .val (.int va2), .val (.int vf2), .val (.ref b1), .val (.int sl), .val (.ref b24), .unset, .unset] [(.int d1), (.int c1)]))
                            by_cases hc326 : c1 = d1
                            · refine own_fs (XS.icmpNo X31.here hx rfl (hb hby at_326) rfl (XT.ii_ne_f hc326) (Steps.refl _)) ?_
                              show own_G p.tables e below _ (T31.setTop (mkF m 329 #[.val (.int x0), .val (.int x1), .val (.int x2), .val (.int x3), .val (.int la), .val (.int lb), .val (.int c0), .val (.int c1), .val (.int d0), .val (.int d1), .val (.int va1), .val (.int vf1), .val (.int va2), .val (.int vf2), .val (.ref b1), .val (.int sl), .val (.ref b24), .unset, .unset] []))
                              refine own_fs (XS.iconst X31.here hx rfl (hb hby at_329) (Steps.refl _)) ?_
                              show own_G p.tables e below _ (T31.setTop (mkF m 330 #[.val (.int x0), .val (.int x1), .val (.int x2), .val (.int x3), .val (.int la), .val (.int lb), .val (.int c0), .val (.int c1), .val (.int d0), .val (.int d1), .val (.int va1), .val (.int vf1), .val (.int va2), .val (.int vf2), .val (.ref b1), .val (.int sl), .val (.ref b24), .unset, .unset] [(.int (1 : Int32))]))
                              refine own_fs (XS.goto X31.here hx rfl (pc0 := 330) (pc' := 334) rfl (hb hby at_330) (by decide) (by decide) (Steps.refl _)) ?_
                              exact J334 _ (by show (1 : Int32) = _; simp only [own_sm, if_neg hc319, if_pos hc300, if_pos hc306, if_pos hc326])
                            · refine own_fs (XS.icmpYes X31.here hx rfl (pc0 := 326) (pc' := 333) rfl (hb hby at_326) rfl (XT.ii_ne_t hc326) (by decide) (by decide) (Steps.refl _)) ?_
                              show own_G p.tables e below _ (T31.setTop (mkF m 333 #[.val (.int x0), .val (.int x1), .val (.int x2), .val (.int x3), .val (.int la), .val (.int lb), .val (.int c0), .val (.int c1), .val (.int d0), .val (.int d1), .val (.int va1), .val (.int vf1), .val (.int va2), .val (.int vf2), .val (.ref b1), .val (.int sl), .val (.ref b24), .unset, .unset] []))
                              refine own_fs (XS.iconst X31.here hx rfl (hb hby at_333) (Steps.refl _)) ?_
                              exact J334 _ (by show (0 : Int32) = _; simp only [own_sm, if_neg hc319, if_neg hc326, if_pos hc300, if_pos hc306])
                        · refine own_fs (XS.icmpNo X31.here hx rfl (hb hby at_306) rfl (XT.ii_lt_f hc306) (Steps.refl _)) ?_
                          show own_G p.tables e below _ (T31.setTop (mkF m 309 #[.val (.int x0), .val (.int x1), .val (.int x2), .val (.int x3), .val (.int la), .val (.int lb), .val (.int c0), .val (.int c1), .val (.int d0), .val (.int d1), .val (.int va1), .val (.int vf1), .val (.int va2), .val (.int vf2), .val (.ref b1), .val (.int sl), .val (.ref b24), .unset, .unset] []))
                          refine own_fs (XS.iload X31.here hx rfl (hb hby at_309) rfl (Steps.refl _)) ?_
                          show own_G p.tables e below _ (T31.setTop (mkF m 311 #[.val (.int x0), .val (.int x1), .val (.int x2), .val (.int x3), .val (.int la), .val (.int lb), .val (.int c0), .val (.int c1), .val (.int d0), .val (.int d1), .val (.int va1), .val (.int vf1), .val (.int va2), .val (.int vf2), .val (.ref b1), .val (.int sl), .val (.ref b24), .unset, .unset] [(.int c0)]))
                          refine own_fs (XS.iload X31.here hx rfl (hb hby at_311) rfl (Steps.refl _)) ?_
                          show own_G p.tables e below _ (T31.setTop (mkF m 313 #[.val (.int x0), .val (.int x1), .val (.int x2), .val (.int x3), .val (.int la), .val (.int lb), .val (.int c0), .val (.int c1), .val (.int d0), .val (.int d1), .val (.int va1), .val (.int vf1), .val (.int va2), .val (.int vf2), .val (.ref b1), .val (.int sl), .val (.ref b24), .unset, .unset] [(.int d0), (.int c0)]))
                          by_cases hc313 : c0 = d0
                          · refine own_fs (XS.icmpNo X31.here hx rfl (hb hby at_313) rfl (XT.ii_ne_f hc313) (Steps.refl _)) ?_
                            show own_G p.tables e below _ (T31.setTop (mkF m 316 #[.val (.int x0), .val (.int x1), .val (.int x2), .val (.int x3), .val (.int la), .val (.int lb), .val (.int c0), .val (.int c1), .val (.int d0), .val (.int d1), .val (.int va1), .val (.int vf1), .val (.int va2), .val (.int vf2), .val (.ref b1), .val (.int sl), .val (.ref b24), .unset, .unset] []))
                            refine own_fs (XS.iload X31.here hx rfl (hb hby at_316) rfl (Steps.refl _)) ?_
                            show own_G p.tables e below _ (T31.setTop (mkF m 318 #[.val (.int x0), .val (.int x1), .val (.int x2), .val (.int x3), .val (.int la), .val (.int lb), .val (.int c0), .val (.int c1), .val (.int d0), .val (.int d1), .val (.int va1), .val (.int vf1), .val (.int va2), .val (.int vf2), .val (.ref b1), .val (.int sl), .val (.ref b24), .unset, .unset] [(.int la)]))
                            refine own_fs (XS.iconst X31.here hx rfl (hb hby at_318) (Steps.refl _)) ?_
                            show own_G p.tables e below _ (T31.setTop (mkF m 319 #[.val (.int x0), .val (.int x1), .val (.int x2), .val (.int x3), .val (.int la), .val (.int lb), .val (.int c0), .val (.int c1), .val (.int d0), .val (.int d1), .val (.int va1), .val (.int vf1), .val (.int va2), .val (.int vf2), .val (.ref b1), .val (.int sl), .val (.ref b24), .unset, .unset] [(.int (2 : Int32)), (.int la)]))
                            by_cases hc319 : la < (2 : Int32)
                            · refine own_fs (XS.icmpYes X31.here hx rfl (pc0 := 319) (pc' := 329) rfl (hb hby at_319) rfl (XT.ii_lt_t hc319) (by decide) (by decide) (Steps.refl _)) ?_
                              show own_G p.tables e below _ (T31.setTop (mkF m 329 #[.val (.int x0), .val (.int x1), .val (.int x2), .val (.int x3), .val (.int la), .val (.int lb), .val (.int c0), .val (.int c1), .val (.int d0), .val (.int d1), .val (.int va1), .val (.int vf1), .val (.int va2), .val (.int vf2), .val (.ref b1), .val (.int sl), .val (.ref b24), .unset, .unset] []))
                              refine own_fs (XS.iconst X31.here hx rfl (hb hby at_329) (Steps.refl _)) ?_
                              show own_G p.tables e below _ (T31.setTop (mkF m 330 #[.val (.int x0), .val (.int x1), .val (.int x2), .val (.int x3), .val (.int la), .val (.int lb), .val (.int c0), .val (.int c1), .val (.int d0), .val (.int d1), .val (.int va1), .val (.int vf1), .val (.int va2), .val (.int vf2), .val (.ref b1), .val (.int sl), .val (.ref b24), .unset, .unset] [(.int (1 : Int32))]))
                              refine own_fs (XS.goto X31.here hx rfl (pc0 := 330) (pc' := 334) rfl (hb hby at_330) (by decide) (by decide) (Steps.refl _)) ?_
                              exact J334 _ (by show (1 : Int32) = _; simp only [own_sm, if_neg hc306, if_pos hc300, if_pos hc313, if_pos hc319])
                            · refine own_fs (XS.icmpNo X31.here hx rfl (hb hby at_319) rfl (XT.ii_lt_f hc319) (Steps.refl _)) ?_
                              show own_G p.tables e below _ (T31.setTop (mkF m 322 #[.val (.int x0), .val (.int x1), .val (.int x2), .val (.int x3), .val (.int la), .val (.int lb), .val (.int c0), .val (.int c1), .val (.int d0), .val (.int d1), .val (.int va1), .val (.int vf1), .val (.int va2), .val (.int vf2), .val (.ref b1), .val (.int sl), .val (.ref b24), .unset, .unset] []))
                              refine own_fs (XS.iload X31.here hx rfl (hb hby at_322) rfl (Steps.refl _)) ?_
                              show own_G p.tables e below _ (T31.setTop (mkF m 324 #[.val (.int x0), .val (.int x1), .val (.int x2), .val (.int x3), .val (.int la), .val (.int lb), .val (.int c0), .val (.int c1), .val (.int d0), .val (.int d1), .val (.int va1), .val (.int vf1), .val (.int va2), .val (.int vf2), .val (.ref b1), .val (.int sl), .val (.ref b24), .unset, .unset] [(.int c1)]))
                              refine own_fs (XS.iload X31.here hx rfl (hb hby at_324) rfl (Steps.refl _)) ?_
                              show own_G p.tables e below _ (T31.setTop (mkF m 326 #[.val (.int x0), .val (.int x1), .val (.int x2), .val (.int x3), .val (.int la), .val (.int lb), .val (.int c0), .val (.int c1), .val (.int d0), .val (.int d1), .val (.int va1), .val (.int vf1), .val (.int va2), .val (.int vf2), .val (.ref b1), .val (.int sl), .val (.ref b24), .unset, .unset] [(.int d1), (.int c1)]))
                              by_cases hc326 : c1 = d1
                              · refine own_fs (XS.icmpNo X31.here hx rfl (hb hby at_326) rfl (XT.ii_ne_f hc326) (Steps.refl _)) ?_
                                show own_G p.tables e below _ (T31.setTop (mkF m 329 #[.val (.int x0), .val (.int x1), .val (.int x2), .val (.int x3), .val (.int la), .val (.int lb), .val (.int c0), .val (.int c1), .val (.int d0), .val (.int d1), .val (.int va1), .val (.int vf1), .val (.int va2), .val (.int vf2), .val (.ref b1), .val (.int sl), .val (.ref b24), .unset, .unset] []))
                                refine own_fs (XS.iconst X31.here hx rfl (hb hby at_329) (Steps.refl _)) ?_
                                show own_G p.tables e below _ (T31.setTop (mkF m 330 #[.val (.int x0), .val (.int x1), .val (.int x2), .val (.int x3), .val (.int la), .val (.int lb), .val (.int c0), .val (.int c1), .val (.int d0), .val (.int d1), .val (.int va1), .val (.int vf1), .val (.int va2), .val (.int vf2), .val (.ref b1), .val (.int sl), .val (.ref b24), .unset, .unset] [(.int (1 : Int32))]))
                                refine own_fs (XS.goto X31.here hx rfl (pc0 := 330) (pc' := 334) rfl (hb hby at_330) (by decide) (by decide) (Steps.refl _)) ?_
                                exact J334 _ (by show (1 : Int32) = _; simp only [own_sm, if_neg hc306, if_neg hc319, if_pos hc300, if_pos hc313, if_pos hc326])
                              · refine own_fs (XS.icmpYes X31.here hx rfl (pc0 := 326) (pc' := 333) rfl (hb hby at_326) rfl (XT.ii_ne_t hc326) (by decide) (by decide) (Steps.refl _)) ?_
                                show own_G p.tables e below _ (T31.setTop (mkF m 333 #[.val (.int x0), .val (.int x1), .val (.int x2), .val (.int x3), .val (.int la), .val (.int lb), .val (.int c0), .val (.int c1), .val (.int d0), .val (.int d1), .val (.int va1), .val (.int vf1), .val (.int va2), .val (.int vf2), .val (.ref b1), .val (.int sl), .val (.ref b24), .unset, .unset] []))
                                refine own_fs (XS.iconst X31.here hx rfl (hb hby at_333) (Steps.refl _)) ?_
                                exact J334 _ (by show (0 : Int32) = _; simp only [own_sm, if_neg hc306, if_neg hc319, if_neg hc326, if_pos hc300, if_pos hc313])
                          · refine own_fs (XS.icmpYes X31.here hx rfl (pc0 := 313) (pc' := 333) rfl (hb hby at_313) rfl (XT.ii_ne_t hc313) (by decide) (by decide) (Steps.refl _)) ?_
                            show own_G p.tables e below _ (T31.setTop (mkF m 333 #[.val (.int x0), .val (.int x1), .val (.int x2), .val (.int x3), .val (.int la), .val (.int lb), .val (.int c0), .val (.int c1), .val (.int d0), .val (.int d1), .val (.int va1), .val (.int vf1), .val (.int va2), .val (.int vf2), .val (.ref b1), .val (.int sl), .val (.ref b24), .unset, .unset] []))
                            refine own_fs (XS.iconst X31.here hx rfl (hb hby at_333) (Steps.refl _)) ?_
                            exact J334 _ (by show (0 : Int32) = _; simp only [own_sm, if_neg hc306, if_neg hc313, if_pos hc300])
                      · refine own_fs (XS.icmpYes X31.here hx rfl (pc0 := 300) (pc' := 333) rfl (hb hby at_300) rfl (XT.ii_ne_t hc300) (by decide) (by decide) (Steps.refl _)) ?_
                        show own_G p.tables e below _ (T31.setTop (mkF m 333 #[.val (.int x0), .val (.int x1), .val (.int x2), .val (.int x3), .val (.int la), .val (.int lb), .val (.int c0), .val (.int c1), .val (.int d0), .val (.int d1), .val (.int va1), .val (.int vf1), .val (.int va2), .val (.int vf2), .val (.ref b1), .val (.int sl), .val (.ref b24), .unset, .unset] []))
                        refine own_fs (XS.iconst X31.here hx rfl (hb hby at_333) (Steps.refl _)) ?_
                        exact J334 _ (by show (0 : Int32) = _; simp only [own_sm, if_neg hc300])
              show own_G p.tables e below _ (s₁.setTop (mkF m 153 #[.val (.int x0), .val (.int x1), .val (.int x2), .val (.int x3), .val (.int la), .val (.int lb), .val (.int c0), .val (.int c1), .val (.int d0), .val (.int d1), .val (.int va1), .val (.int vf1), .val (.int va2), .unset, .unset, .unset, .unset, .unset, .unset] []))
              refine own_fs (XS.iloadN X0.here hx rfl (hb hby at_153) rfl (Steps.refl _)) ?_
              show own_G p.tables e below _ (s₁.setTop (mkF m 154 #[.val (.int x0), .val (.int x1), .val (.int x2), .val (.int x3), .val (.int la), .val (.int lb), .val (.int c0), .val (.int c1), .val (.int d0), .val (.int d1), .val (.int va1), .val (.int vf1), .val (.int va2), .unset, .unset, .unset, .unset, .unset, .unset] [(.int x2)]))
              refine own_fs (XS.bipush X0.here hx rfl (hb hby at_154) (Steps.refl _)) ?_
              show own_G p.tables e below _ (s₁.setTop (mkF m 156 #[.val (.int x0), .val (.int x1), .val (.int x2), .val (.int x3), .val (.int la), .val (.int lb), .val (.int c0), .val (.int c1), .val (.int d0), .val (.int d1), .val (.int va1), .val (.int vf1), .val (.int va2), .unset, .unset, .unset, .unset, .unset, .unset] [(.int (9 : Int32)), (.int x2)]))
              refine own_fs (XS.iushr X0.here hx rfl (hb hby at_156) rfl (Steps.refl _)) ?_
              show own_G p.tables e below _ (s₁.setTop (mkF m 157 #[.val (.int x0), .val (.int x1), .val (.int x2), .val (.int x3), .val (.int la), .val (.int lb), .val (.int c0), .val (.int c1), .val (.int d0), .val (.int d1), .val (.int va1), .val (.int vf1), .val (.int va2), .unset, .unset, .unset, .unset, .unset, .unset] [(.int ((x2.toUInt32 >>> ((9 : Int32) &&& 31).toUInt32).toInt32))]))
              refine own_fs (XS.iconst X0.here hx rfl (hb hby at_157) (Steps.refl _)) ?_
              show own_G p.tables e below _ (s₁.setTop (mkF m 158 #[.val (.int x0), .val (.int x1), .val (.int x2), .val (.int x3), .val (.int la), .val (.int lb), .val (.int c0), .val (.int c1), .val (.int d0), .val (.int d1), .val (.int va1), .val (.int vf1), .val (.int va2), .unset, .unset, .unset, .unset, .unset, .unset] [(.int (1 : Int32)), (.int ((x2.toUInt32 >>> ((9 : Int32) &&& 31).toUInt32).toInt32))]))
              refine own_fs (XS.iand X0.here hx rfl (hb hby at_158) rfl (Steps.refl _)) ?_
              show own_G p.tables e below _ (s₁.setTop (mkF m 159 #[.val (.int x0), .val (.int x1), .val (.int x2), .val (.int x3), .val (.int la), .val (.int lb), .val (.int c0), .val (.int c1), .val (.int d0), .val (.int d1), .val (.int va1), .val (.int vf1), .val (.int va2), .unset, .unset, .unset, .unset, .unset, .unset] [(.int (((x2.toUInt32 >>> ((9 : Int32) &&& 31).toUInt32).toInt32) &&& (1 : Int32)))]))
              by_cases hc159 : (((x2.toUInt32 >>> ((9 : Int32) &&& 31).toUInt32).toInt32) &&& (1 : Int32)) = (0 : Int32)
              · refine own_fs (XS.ifYes X0.here hx rfl (pc0 := 159) (pc' := 167) rfl (hb hby at_159) rfl (XT.i0_eq_t hc159) (by decide) (by decide) (Steps.refl _)) ?_
                show own_G p.tables e below _ (s₁.setTop (mkF m 167 #[.val (.int x0), .val (.int x1), .val (.int x2), .val (.int x3), .val (.int la), .val (.int lb), .val (.int c0), .val (.int c1), .val (.int d0), .val (.int d1), .val (.int va1), .val (.int vf1), .val (.int va2), .unset, .unset, .unset, .unset, .unset, .unset] []))
                refine own_fs (XS.iloadN X0.here hx rfl (hb hby at_167) rfl (Steps.refl _)) ?_
                show own_G p.tables e below _ (s₁.setTop (mkF m 168 #[.val (.int x0), .val (.int x1), .val (.int x2), .val (.int x3), .val (.int la), .val (.int lb), .val (.int c0), .val (.int c1), .val (.int d0), .val (.int d1), .val (.int va1), .val (.int vf1), .val (.int va2), .unset, .unset, .unset, .unset, .unset, .unset] [(.int x2)]))
                refine own_fs (XS.bipush X0.here hx rfl (hb hby at_168) (Steps.refl _)) ?_
                show own_G p.tables e below _ (s₁.setTop (mkF m 170 #[.val (.int x0), .val (.int x1), .val (.int x2), .val (.int x3), .val (.int la), .val (.int lb), .val (.int c0), .val (.int c1), .val (.int d0), .val (.int d1), .val (.int va1), .val (.int vf1), .val (.int va2), .unset, .unset, .unset, .unset, .unset, .unset] [(.int (10 : Int32)), (.int x2)]))
                refine own_fs (XS.iushr X0.here hx rfl (hb hby at_170) rfl (Steps.refl _)) ?_
                show own_G p.tables e below _ (s₁.setTop (mkF m 171 #[.val (.int x0), .val (.int x1), .val (.int x2), .val (.int x3), .val (.int la), .val (.int lb), .val (.int c0), .val (.int c1), .val (.int d0), .val (.int d1), .val (.int va1), .val (.int vf1), .val (.int va2), .unset, .unset, .unset, .unset, .unset, .unset] [(.int ((x2.toUInt32 >>> ((10 : Int32) &&& 31).toUInt32).toInt32))]))
                refine own_fs (XS.iconst X0.here hx rfl (hb hby at_171) (Steps.refl _)) ?_
                show own_G p.tables e below _ (s₁.setTop (mkF m 172 #[.val (.int x0), .val (.int x1), .val (.int x2), .val (.int x3), .val (.int la), .val (.int lb), .val (.int c0), .val (.int c1), .val (.int d0), .val (.int d1), .val (.int va1), .val (.int vf1), .val (.int va2), .unset, .unset, .unset, .unset, .unset, .unset] [(.int (1 : Int32)), (.int ((x2.toUInt32 >>> ((10 : Int32) &&& 31).toUInt32).toInt32))]))
                refine own_fs (XS.iand X0.here hx rfl (hb hby at_172) rfl (Steps.refl _)) ?_
                show own_G p.tables e below _ (s₁.setTop (mkF m 173 #[.val (.int x0), .val (.int x1), .val (.int x2), .val (.int x3), .val (.int la), .val (.int lb), .val (.int c0), .val (.int c1), .val (.int d0), .val (.int d1), .val (.int va1), .val (.int vf1), .val (.int va2), .unset, .unset, .unset, .unset, .unset, .unset] [(.int (((x2.toUInt32 >>> ((10 : Int32) &&& 31).toUInt32).toInt32) &&& (1 : Int32)))]))
                by_cases hc173 : (((x2.toUInt32 >>> ((10 : Int32) &&& 31).toUInt32).toInt32) &&& (1 : Int32)) = (0 : Int32)
                · refine own_fs (XS.ifYes X0.here hx rfl (pc0 := 173) (pc' := 180) rfl (hb hby at_173) rfl (XT.i0_eq_t hc173) (by decide) (by decide) (Steps.refl _)) ?_
                  show own_G p.tables e below _ (s₁.setTop (mkF m 180 #[.val (.int x0), .val (.int x1), .val (.int x2), .val (.int x3), .val (.int la), .val (.int lb), .val (.int c0), .val (.int c1), .val (.int d0), .val (.int d1), .val (.int va1), .val (.int vf1), .val (.int va2), .unset, .unset, .unset, .unset, .unset, .unset] []))
                  refine own_fs (XS.iconst X0.here hx rfl (hb hby at_180) (Steps.refl _)) ?_
                  exact J181 _ (by first | exact hvf1 | exact Or.inl rfl | exact Or.inr rfl)
                · refine own_fs (XS.ifNo X0.here hx rfl (hb hby at_173) rfl (XT.i0_eq_f hc173) (Steps.refl _)) ?_
                  show own_G p.tables e below _ (s₁.setTop (mkF m 176 #[.val (.int x0), .val (.int x1), .val (.int x2), .val (.int x3), .val (.int la), .val (.int lb), .val (.int c0), .val (.int c1), .val (.int d0), .val (.int d1), .val (.int va1), .val (.int vf1), .val (.int va2), .unset, .unset, .unset, .unset, .unset, .unset] []))
                  refine own_fs (XS.iconst X0.here hx rfl (hb hby at_176) (Steps.refl _)) ?_
                  show own_G p.tables e below _ (s₁.setTop (mkF m 177 #[.val (.int x0), .val (.int x1), .val (.int x2), .val (.int x3), .val (.int la), .val (.int lb), .val (.int c0), .val (.int c1), .val (.int d0), .val (.int d1), .val (.int va1), .val (.int vf1), .val (.int va2), .unset, .unset, .unset, .unset, .unset, .unset] [(.int (1 : Int32))]))
                  refine own_fs (XS.goto X0.here hx rfl (pc0 := 177) (pc' := 181) rfl (hb hby at_177) (by decide) (by decide) (Steps.refl _)) ?_
                  exact J181 _ (by first | exact hvf1 | exact Or.inl rfl | exact Or.inr rfl)
              · refine own_fs (XS.ifNo X0.here hx rfl (hb hby at_159) rfl (XT.i0_eq_f hc159) (Steps.refl _)) ?_
                show own_G p.tables e below _ (s₁.setTop (mkF m 162 #[.val (.int x0), .val (.int x1), .val (.int x2), .val (.int x3), .val (.int la), .val (.int lb), .val (.int c0), .val (.int c1), .val (.int d0), .val (.int d1), .val (.int va1), .val (.int vf1), .val (.int va2), .unset, .unset, .unset, .unset, .unset, .unset] []))
                refine own_fs (XS.iload X0.here hx rfl (hb hby at_162) rfl (Steps.refl _)) ?_
                show own_G p.tables e below _ (s₁.setTop (mkF m 164 #[.val (.int x0), .val (.int x1), .val (.int x2), .val (.int x3), .val (.int la), .val (.int lb), .val (.int c0), .val (.int c1), .val (.int d0), .val (.int d1), .val (.int va1), .val (.int vf1), .val (.int va2), .unset, .unset, .unset, .unset, .unset, .unset] [(.int vf1)]))
                refine own_fs (XS.goto X0.here hx rfl (pc0 := 164) (pc' := 181) rfl (hb hby at_164) (by decide) (by decide) (Steps.refl _)) ?_
                exact J181 _ (by first | exact hvf1 | exact Or.inl rfl | exact Or.inr rfl)
            show own_G p.tables e below _ (s₁.setTop (mkF m 123 #[.val (.int x0), .val (.int x1), .val (.int x2), .val (.int x3), .val (.int la), .val (.int lb), .val (.int c0), .val (.int c1), .val (.int d0), .val (.int d1), .val (.int va1), .val (.int vf1), .unset, .unset, .unset, .unset, .unset, .unset, .unset] []))
            refine own_fs (XS.iloadN X0.here hx rfl (hb hby at_123) rfl (Steps.refl _)) ?_
            show own_G p.tables e below _ (s₁.setTop (mkF m 124 #[.val (.int x0), .val (.int x1), .val (.int x2), .val (.int x3), .val (.int la), .val (.int lb), .val (.int c0), .val (.int c1), .val (.int d0), .val (.int d1), .val (.int va1), .val (.int vf1), .unset, .unset, .unset, .unset, .unset, .unset, .unset] [(.int x2)]))
            refine own_fs (XS.bipush X0.here hx rfl (hb hby at_124) (Steps.refl _)) ?_
            show own_G p.tables e below _ (s₁.setTop (mkF m 126 #[.val (.int x0), .val (.int x1), .val (.int x2), .val (.int x3), .val (.int la), .val (.int lb), .val (.int c0), .val (.int c1), .val (.int d0), .val (.int d1), .val (.int va1), .val (.int vf1), .unset, .unset, .unset, .unset, .unset, .unset, .unset] [(.int (7 : Int32)), (.int x2)]))
            refine own_fs (XS.iushr X0.here hx rfl (hb hby at_126) rfl (Steps.refl _)) ?_
            show own_G p.tables e below _ (s₁.setTop (mkF m 127 #[.val (.int x0), .val (.int x1), .val (.int x2), .val (.int x3), .val (.int la), .val (.int lb), .val (.int c0), .val (.int c1), .val (.int d0), .val (.int d1), .val (.int va1), .val (.int vf1), .unset, .unset, .unset, .unset, .unset, .unset, .unset] [(.int ((x2.toUInt32 >>> ((7 : Int32) &&& 31).toUInt32).toInt32))]))
            refine own_fs (XS.iconst X0.here hx rfl (hb hby at_127) (Steps.refl _)) ?_
            show own_G p.tables e below _ (s₁.setTop (mkF m 128 #[.val (.int x0), .val (.int x1), .val (.int x2), .val (.int x3), .val (.int la), .val (.int lb), .val (.int c0), .val (.int c1), .val (.int d0), .val (.int d1), .val (.int va1), .val (.int vf1), .unset, .unset, .unset, .unset, .unset, .unset, .unset] [(.int (1 : Int32)), (.int ((x2.toUInt32 >>> ((7 : Int32) &&& 31).toUInt32).toInt32))]))
            refine own_fs (XS.iand X0.here hx rfl (hb hby at_128) rfl (Steps.refl _)) ?_
            show own_G p.tables e below _ (s₁.setTop (mkF m 129 #[.val (.int x0), .val (.int x1), .val (.int x2), .val (.int x3), .val (.int la), .val (.int lb), .val (.int c0), .val (.int c1), .val (.int d0), .val (.int d1), .val (.int va1), .val (.int vf1), .unset, .unset, .unset, .unset, .unset, .unset, .unset] [(.int (((x2.toUInt32 >>> ((7 : Int32) &&& 31).toUInt32).toInt32) &&& (1 : Int32)))]))
            by_cases hc129 : (((x2.toUInt32 >>> ((7 : Int32) &&& 31).toUInt32).toInt32) &&& (1 : Int32)) = (0 : Int32)
            · refine own_fs (XS.ifYes X0.here hx rfl (pc0 := 129) (pc' := 137) rfl (hb hby at_129) rfl (XT.i0_eq_t hc129) (by decide) (by decide) (Steps.refl _)) ?_
              show own_G p.tables e below _ (s₁.setTop (mkF m 137 #[.val (.int x0), .val (.int x1), .val (.int x2), .val (.int x3), .val (.int la), .val (.int lb), .val (.int c0), .val (.int c1), .val (.int d0), .val (.int d1), .val (.int va1), .val (.int vf1), .unset, .unset, .unset, .unset, .unset, .unset, .unset] []))
              refine own_fs (XS.iloadN X0.here hx rfl (hb hby at_137) rfl (Steps.refl _)) ?_
              show own_G p.tables e below _ (s₁.setTop (mkF m 138 #[.val (.int x0), .val (.int x1), .val (.int x2), .val (.int x3), .val (.int la), .val (.int lb), .val (.int c0), .val (.int c1), .val (.int d0), .val (.int d1), .val (.int va1), .val (.int vf1), .unset, .unset, .unset, .unset, .unset, .unset, .unset] [(.int x2)]))
              refine own_fs (XS.bipush X0.here hx rfl (hb hby at_138) (Steps.refl _)) ?_
              show own_G p.tables e below _ (s₁.setTop (mkF m 140 #[.val (.int x0), .val (.int x1), .val (.int x2), .val (.int x3), .val (.int la), .val (.int lb), .val (.int c0), .val (.int c1), .val (.int d0), .val (.int d1), .val (.int va1), .val (.int vf1), .unset, .unset, .unset, .unset, .unset, .unset, .unset] [(.int (8 : Int32)), (.int x2)]))
              refine own_fs (XS.iushr X0.here hx rfl (hb hby at_140) rfl (Steps.refl _)) ?_
              show own_G p.tables e below _ (s₁.setTop (mkF m 141 #[.val (.int x0), .val (.int x1), .val (.int x2), .val (.int x3), .val (.int la), .val (.int lb), .val (.int c0), .val (.int c1), .val (.int d0), .val (.int d1), .val (.int va1), .val (.int vf1), .unset, .unset, .unset, .unset, .unset, .unset, .unset] [(.int ((x2.toUInt32 >>> ((8 : Int32) &&& 31).toUInt32).toInt32))]))
              refine own_fs (XS.iconst X0.here hx rfl (hb hby at_141) (Steps.refl _)) ?_
              show own_G p.tables e below _ (s₁.setTop (mkF m 142 #[.val (.int x0), .val (.int x1), .val (.int x2), .val (.int x3), .val (.int la), .val (.int lb), .val (.int c0), .val (.int c1), .val (.int d0), .val (.int d1), .val (.int va1), .val (.int vf1), .unset, .unset, .unset, .unset, .unset, .unset, .unset] [(.int (1 : Int32)), (.int ((x2.toUInt32 >>> ((8 : Int32) &&& 31).toUInt32).toInt32))]))
              refine own_fs (XS.iand X0.here hx rfl (hb hby at_142) rfl (Steps.refl _)) ?_
              show own_G p.tables e below _ (s₁.setTop (mkF m 143 #[.val (.int x0), .val (.int x1), .val (.int x2), .val (.int x3), .val (.int la), .val (.int lb), .val (.int c0), .val (.int c1), .val (.int d0), .val (.int d1), .val (.int va1), .val (.int vf1), .unset, .unset, .unset, .unset, .unset, .unset, .unset] [(.int (((x2.toUInt32 >>> ((8 : Int32) &&& 31).toUInt32).toInt32) &&& (1 : Int32)))]))
              by_cases hc143 : (((x2.toUInt32 >>> ((8 : Int32) &&& 31).toUInt32).toInt32) &&& (1 : Int32)) = (0 : Int32)
              · refine own_fs (XS.ifYes X0.here hx rfl (pc0 := 143) (pc' := 150) rfl (hb hby at_143) rfl (XT.i0_eq_t hc143) (by decide) (by decide) (Steps.refl _)) ?_
                show own_G p.tables e below _ (s₁.setTop (mkF m 150 #[.val (.int x0), .val (.int x1), .val (.int x2), .val (.int x3), .val (.int la), .val (.int lb), .val (.int c0), .val (.int c1), .val (.int d0), .val (.int d1), .val (.int va1), .val (.int vf1), .unset, .unset, .unset, .unset, .unset, .unset, .unset] []))
                refine own_fs (XS.iconst X0.here hx rfl (hb hby at_150) (Steps.refl _)) ?_
                exact J151 _ (by first | exact hva1 | exact Or.inl rfl | exact Or.inr rfl)
              · refine own_fs (XS.ifNo X0.here hx rfl (hb hby at_143) rfl (XT.i0_eq_f hc143) (Steps.refl _)) ?_
                show own_G p.tables e below _ (s₁.setTop (mkF m 146 #[.val (.int x0), .val (.int x1), .val (.int x2), .val (.int x3), .val (.int la), .val (.int lb), .val (.int c0), .val (.int c1), .val (.int d0), .val (.int d1), .val (.int va1), .val (.int vf1), .unset, .unset, .unset, .unset, .unset, .unset, .unset] []))
                refine own_fs (XS.iconst X0.here hx rfl (hb hby at_146) (Steps.refl _)) ?_
                show own_G p.tables e below _ (s₁.setTop (mkF m 147 #[.val (.int x0), .val (.int x1), .val (.int x2), .val (.int x3), .val (.int la), .val (.int lb), .val (.int c0), .val (.int c1), .val (.int d0), .val (.int d1), .val (.int va1), .val (.int vf1), .unset, .unset, .unset, .unset, .unset, .unset, .unset] [(.int (1 : Int32))]))
                refine own_fs (XS.goto X0.here hx rfl (pc0 := 147) (pc' := 151) rfl (hb hby at_147) (by decide) (by decide) (Steps.refl _)) ?_
                exact J151 _ (by first | exact hva1 | exact Or.inl rfl | exact Or.inr rfl)
            · refine own_fs (XS.ifNo X0.here hx rfl (hb hby at_129) rfl (XT.i0_eq_f hc129) (Steps.refl _)) ?_
              show own_G p.tables e below _ (s₁.setTop (mkF m 132 #[.val (.int x0), .val (.int x1), .val (.int x2), .val (.int x3), .val (.int la), .val (.int lb), .val (.int c0), .val (.int c1), .val (.int d0), .val (.int d1), .val (.int va1), .val (.int vf1), .unset, .unset, .unset, .unset, .unset, .unset, .unset] []))
              refine own_fs (XS.iload X0.here hx rfl (hb hby at_132) rfl (Steps.refl _)) ?_
              show own_G p.tables e below _ (s₁.setTop (mkF m 134 #[.val (.int x0), .val (.int x1), .val (.int x2), .val (.int x3), .val (.int la), .val (.int lb), .val (.int c0), .val (.int c1), .val (.int d0), .val (.int d1), .val (.int va1), .val (.int vf1), .unset, .unset, .unset, .unset, .unset, .unset, .unset] [(.int va1)]))
              refine own_fs (XS.goto X0.here hx rfl (pc0 := 134) (pc' := 151) rfl (hb hby at_134) (by decide) (by decide) (Steps.refl _)) ?_
              exact J151 _ (by first | exact hva1 | exact Or.inl rfl | exact Or.inr rfl)
          show own_G p.tables e below _ (s₁.setTop (mkF m 107 #[.val (.int x0), .val (.int x1), .val (.int x2), .val (.int x3), .val (.int la), .val (.int lb), .val (.int c0), .val (.int c1), .val (.int d0), .val (.int d1), .val (.int va1), .unset, .unset, .unset, .unset, .unset, .unset, .unset, .unset] []))
          refine own_fs (XS.iloadN X0.here hx rfl (hb hby at_107) rfl (Steps.refl _)) ?_
          show own_G p.tables e below _ (s₁.setTop (mkF m 108 #[.val (.int x0), .val (.int x1), .val (.int x2), .val (.int x3), .val (.int la), .val (.int lb), .val (.int c0), .val (.int c1), .val (.int d0), .val (.int d1), .val (.int va1), .unset, .unset, .unset, .unset, .unset, .unset, .unset, .unset] [(.int x2)]))
          refine own_fs (XS.bipush X0.here hx rfl (hb hby at_108) (Steps.refl _)) ?_
          show own_G p.tables e below _ (s₁.setTop (mkF m 110 #[.val (.int x0), .val (.int x1), .val (.int x2), .val (.int x3), .val (.int la), .val (.int lb), .val (.int c0), .val (.int c1), .val (.int d0), .val (.int d1), .val (.int va1), .unset, .unset, .unset, .unset, .unset, .unset, .unset, .unset] [(.int (6 : Int32)), (.int x2)]))
          refine own_fs (XS.iushr X0.here hx rfl (hb hby at_110) rfl (Steps.refl _)) ?_
          show own_G p.tables e below _ (s₁.setTop (mkF m 111 #[.val (.int x0), .val (.int x1), .val (.int x2), .val (.int x3), .val (.int la), .val (.int lb), .val (.int c0), .val (.int c1), .val (.int d0), .val (.int d1), .val (.int va1), .unset, .unset, .unset, .unset, .unset, .unset, .unset, .unset] [(.int ((x2.toUInt32 >>> ((6 : Int32) &&& 31).toUInt32).toInt32))]))
          refine own_fs (XS.iconst X0.here hx rfl (hb hby at_111) (Steps.refl _)) ?_
          show own_G p.tables e below _ (s₁.setTop (mkF m 112 #[.val (.int x0), .val (.int x1), .val (.int x2), .val (.int x3), .val (.int la), .val (.int lb), .val (.int c0), .val (.int c1), .val (.int d0), .val (.int d1), .val (.int va1), .unset, .unset, .unset, .unset, .unset, .unset, .unset, .unset] [(.int (1 : Int32)), (.int ((x2.toUInt32 >>> ((6 : Int32) &&& 31).toUInt32).toInt32))]))
          refine own_fs (XS.iand X0.here hx rfl (hb hby at_112) rfl (Steps.refl _)) ?_
          show own_G p.tables e below _ (s₁.setTop (mkF m 113 #[.val (.int x0), .val (.int x1), .val (.int x2), .val (.int x3), .val (.int la), .val (.int lb), .val (.int c0), .val (.int c1), .val (.int d0), .val (.int d1), .val (.int va1), .unset, .unset, .unset, .unset, .unset, .unset, .unset, .unset] [(.int (((x2.toUInt32 >>> ((6 : Int32) &&& 31).toUInt32).toInt32) &&& (1 : Int32)))]))
          by_cases hc113 : (((x2.toUInt32 >>> ((6 : Int32) &&& 31).toUInt32).toInt32) &&& (1 : Int32)) = (0 : Int32)
          · refine own_fs (XS.ifYes X0.here hx rfl (pc0 := 113) (pc' := 120) rfl (hb hby at_113) rfl (XT.i0_eq_t hc113) (by decide) (by decide) (Steps.refl _)) ?_
            show own_G p.tables e below _ (s₁.setTop (mkF m 120 #[.val (.int x0), .val (.int x1), .val (.int x2), .val (.int x3), .val (.int la), .val (.int lb), .val (.int c0), .val (.int c1), .val (.int d0), .val (.int d1), .val (.int va1), .unset, .unset, .unset, .unset, .unset, .unset, .unset, .unset] []))
            refine own_fs (XS.iconst X0.here hx rfl (hb hby at_120) (Steps.refl _)) ?_
            exact J121 _ (by first | exact Or.inl rfl | exact Or.inr rfl)
          · refine own_fs (XS.ifNo X0.here hx rfl (hb hby at_113) rfl (XT.i0_eq_f hc113) (Steps.refl _)) ?_
            show own_G p.tables e below _ (s₁.setTop (mkF m 116 #[.val (.int x0), .val (.int x1), .val (.int x2), .val (.int x3), .val (.int la), .val (.int lb), .val (.int c0), .val (.int c1), .val (.int d0), .val (.int d1), .val (.int va1), .unset, .unset, .unset, .unset, .unset, .unset, .unset, .unset] []))
            refine own_fs (XS.iconst X0.here hx rfl (hb hby at_116) (Steps.refl _)) ?_
            show own_G p.tables e below _ (s₁.setTop (mkF m 117 #[.val (.int x0), .val (.int x1), .val (.int x2), .val (.int x3), .val (.int la), .val (.int lb), .val (.int c0), .val (.int c1), .val (.int d0), .val (.int d1), .val (.int va1), .unset, .unset, .unset, .unset, .unset, .unset, .unset, .unset] [(.int (1 : Int32))]))
            refine own_fs (XS.goto X0.here hx rfl (pc0 := 117) (pc' := 121) rfl (hb hby at_117) (by decide) (by decide) (Steps.refl _)) ?_
            exact J121 _ (by first | exact Or.inl rfl | exact Or.inr rfl)
        show own_G p.tables e below _ (s₁.setTop (mkF m 92 #[.val (.int x0), .val (.int x1), .val (.int x2), .val (.int x3), .val (.int la), .val (.int lb), .val (.int c0), .val (.int c1), .val (.int d0), .val (.int d1), .unset, .unset, .unset, .unset, .unset, .unset, .unset, .unset, .unset] []))
        refine own_fs (XS.iloadN X0.here hx rfl (hb hby at_92) rfl (Steps.refl _)) ?_
        show own_G p.tables e below _ (s₁.setTop (mkF m 93 #[.val (.int x0), .val (.int x1), .val (.int x2), .val (.int x3), .val (.int la), .val (.int lb), .val (.int c0), .val (.int c1), .val (.int d0), .val (.int d1), .unset, .unset, .unset, .unset, .unset, .unset, .unset, .unset, .unset] [(.int x2)]))
        refine own_fs (XS.iconst X0.here hx rfl (hb hby at_93) (Steps.refl _)) ?_
        show own_G p.tables e below _ (s₁.setTop (mkF m 94 #[.val (.int x0), .val (.int x1), .val (.int x2), .val (.int x3), .val (.int la), .val (.int lb), .val (.int c0), .val (.int c1), .val (.int d0), .val (.int d1), .unset, .unset, .unset, .unset, .unset, .unset, .unset, .unset, .unset] [(.int (5 : Int32)), (.int x2)]))
        refine own_fs (XS.iushr X0.here hx rfl (hb hby at_94) rfl (Steps.refl _)) ?_
        show own_G p.tables e below _ (s₁.setTop (mkF m 95 #[.val (.int x0), .val (.int x1), .val (.int x2), .val (.int x3), .val (.int la), .val (.int lb), .val (.int c0), .val (.int c1), .val (.int d0), .val (.int d1), .unset, .unset, .unset, .unset, .unset, .unset, .unset, .unset, .unset] [(.int ((x2.toUInt32 >>> ((5 : Int32) &&& 31).toUInt32).toInt32))]))
        refine own_fs (XS.iconst X0.here hx rfl (hb hby at_95) (Steps.refl _)) ?_
        show own_G p.tables e below _ (s₁.setTop (mkF m 96 #[.val (.int x0), .val (.int x1), .val (.int x2), .val (.int x3), .val (.int la), .val (.int lb), .val (.int c0), .val (.int c1), .val (.int d0), .val (.int d1), .unset, .unset, .unset, .unset, .unset, .unset, .unset, .unset, .unset] [(.int (1 : Int32)), (.int ((x2.toUInt32 >>> ((5 : Int32) &&& 31).toUInt32).toInt32))]))
        refine own_fs (XS.iand X0.here hx rfl (hb hby at_96) rfl (Steps.refl _)) ?_
        show own_G p.tables e below _ (s₁.setTop (mkF m 97 #[.val (.int x0), .val (.int x1), .val (.int x2), .val (.int x3), .val (.int la), .val (.int lb), .val (.int c0), .val (.int c1), .val (.int d0), .val (.int d1), .unset, .unset, .unset, .unset, .unset, .unset, .unset, .unset, .unset] [(.int (((x2.toUInt32 >>> ((5 : Int32) &&& 31).toUInt32).toInt32) &&& (1 : Int32)))]))
        by_cases hc97 : (((x2.toUInt32 >>> ((5 : Int32) &&& 31).toUInt32).toInt32) &&& (1 : Int32)) = (0 : Int32)
        · refine own_fs (XS.ifYes X0.here hx rfl (pc0 := 97) (pc' := 104) rfl (hb hby at_97) rfl (XT.i0_eq_t hc97) (by decide) (by decide) (Steps.refl _)) ?_
          show own_G p.tables e below _ (s₁.setTop (mkF m 104 #[.val (.int x0), .val (.int x1), .val (.int x2), .val (.int x3), .val (.int la), .val (.int lb), .val (.int c0), .val (.int c1), .val (.int d0), .val (.int d1), .unset, .unset, .unset, .unset, .unset, .unset, .unset, .unset, .unset] []))
          refine own_fs (XS.iconst X0.here hx rfl (hb hby at_104) (Steps.refl _)) ?_
          exact J105 _ (by first | exact Or.inl rfl | exact Or.inr rfl)
        · refine own_fs (XS.ifNo X0.here hx rfl (hb hby at_97) rfl (XT.i0_eq_f hc97) (Steps.refl _)) ?_
          show own_G p.tables e below _ (s₁.setTop (mkF m 100 #[.val (.int x0), .val (.int x1), .val (.int x2), .val (.int x3), .val (.int la), .val (.int lb), .val (.int c0), .val (.int c1), .val (.int d0), .val (.int d1), .unset, .unset, .unset, .unset, .unset, .unset, .unset, .unset, .unset] []))
          refine own_fs (XS.iconst X0.here hx rfl (hb hby at_100) (Steps.refl _)) ?_
          show own_G p.tables e below _ (s₁.setTop (mkF m 101 #[.val (.int x0), .val (.int x1), .val (.int x2), .val (.int x3), .val (.int la), .val (.int lb), .val (.int c0), .val (.int c1), .val (.int d0), .val (.int d1), .unset, .unset, .unset, .unset, .unset, .unset, .unset, .unset, .unset] [(.int (1 : Int32))]))
          refine own_fs (XS.goto X0.here hx rfl (pc0 := 101) (pc' := 105) rfl (hb hby at_101) (by decide) (by decide) (Steps.refl _)) ?_
          exact J105 _ (by first | exact Or.inl rfl | exact Or.inr rfl)
      show own_G p.tables e below _ (s₁.setTop (mkF m 70 #[.val (.int x0), .val (.int x1), .val (.int x2), .val (.int x3), .val (.int la), .val (.int lb), .val (.int c0), .val (.int c1), .val (.int d0), .unset, .unset, .unset, .unset, .unset, .unset, .unset, .unset, .unset, .unset] []))
      refine own_fs (XS.iloadN X0.here hx rfl (hb hby at_70) rfl (Steps.refl _)) ?_
      show own_G p.tables e below _ (s₁.setTop (mkF m 71 #[.val (.int x0), .val (.int x1), .val (.int x2), .val (.int x3), .val (.int la), .val (.int lb), .val (.int c0), .val (.int c1), .val (.int d0), .unset, .unset, .unset, .unset, .unset, .unset, .unset, .unset, .unset, .unset] [(.int x1)]))
      refine own_fs (XS.iconst X0.here hx rfl (hb hby at_71) (Steps.refl _)) ?_
      show own_G p.tables e below _ (s₁.setTop (mkF m 72 #[.val (.int x0), .val (.int x1), .val (.int x2), .val (.int x3), .val (.int la), .val (.int lb), .val (.int c0), .val (.int c1), .val (.int d0), .unset, .unset, .unset, .unset, .unset, .unset, .unset, .unset, .unset, .unset] [(.int (2 : Int32)), (.int x1)]))
      refine own_fs (XS.iand X0.here hx rfl (hb hby at_72) rfl (Steps.refl _)) ?_
      show own_G p.tables e below _ (s₁.setTop (mkF m 73 #[.val (.int x0), .val (.int x1), .val (.int x2), .val (.int x3), .val (.int la), .val (.int lb), .val (.int c0), .val (.int c1), .val (.int d0), .unset, .unset, .unset, .unset, .unset, .unset, .unset, .unset, .unset, .unset] [(.int (x1 &&& (2 : Int32)))]))
      by_cases hc73 : (x1 &&& (2 : Int32)) = (0 : Int32)
      · refine own_fs (XS.ifYes X0.here hx rfl (pc0 := 73) (pc' := 81) rfl (hb hby at_73) rfl (XT.i0_eq_t hc73) (by decide) (by decide) (Steps.refl _)) ?_
        show own_G p.tables e below _ (s₁.setTop (mkF m 81 #[.val (.int x0), .val (.int x1), .val (.int x2), .val (.int x3), .val (.int la), .val (.int lb), .val (.int c0), .val (.int c1), .val (.int d0), .unset, .unset, .unset, .unset, .unset, .unset, .unset, .unset, .unset, .unset] []))
        refine own_fs (XS.iloadN X0.here hx rfl (hb hby at_81) rfl (Steps.refl _)) ?_
        show own_G p.tables e below _ (s₁.setTop (mkF m 82 #[.val (.int x0), .val (.int x1), .val (.int x2), .val (.int x3), .val (.int la), .val (.int lb), .val (.int c0), .val (.int c1), .val (.int d0), .unset, .unset, .unset, .unset, .unset, .unset, .unset, .unset, .unset, .unset] [(.int x1)]))
        refine own_fs (XS.bipush X0.here hx rfl (hb hby at_82) (Steps.refl _)) ?_
        show own_G p.tables e below _ (s₁.setTop (mkF m 84 #[.val (.int x0), .val (.int x1), .val (.int x2), .val (.int x3), .val (.int la), .val (.int lb), .val (.int c0), .val (.int c1), .val (.int d0), .unset, .unset, .unset, .unset, .unset, .unset, .unset, .unset, .unset, .unset] [(.int (16 : Int32)), (.int x1)]))
        refine own_fs (XS.iushr X0.here hx rfl (hb hby at_84) rfl (Steps.refl _)) ?_
        show own_G p.tables e below _ (s₁.setTop (mkF m 85 #[.val (.int x0), .val (.int x1), .val (.int x2), .val (.int x3), .val (.int la), .val (.int lb), .val (.int c0), .val (.int c1), .val (.int d0), .unset, .unset, .unset, .unset, .unset, .unset, .unset, .unset, .unset, .unset] [(.int ((x1.toUInt32 >>> ((16 : Int32) &&& 31).toUInt32).toInt32))]))
        refine own_fs (XS.sipush X0.here hx rfl (hb hby at_85) (Steps.refl _)) ?_
        show own_G p.tables e below _ (s₁.setTop (mkF m 88 #[.val (.int x0), .val (.int x1), .val (.int x2), .val (.int x3), .val (.int la), .val (.int lb), .val (.int c0), .val (.int c1), .val (.int d0), .unset, .unset, .unset, .unset, .unset, .unset, .unset, .unset, .unset, .unset] [(.int (255 : Int32)), (.int ((x1.toUInt32 >>> ((16 : Int32) &&& 31).toUInt32).toInt32))]))
        refine own_fs (XS.iand X0.here hx rfl (hb hby at_88) rfl (Steps.refl _)) ?_
        show own_G p.tables e below _ (s₁.setTop (mkF m 89 #[.val (.int x0), .val (.int x1), .val (.int x2), .val (.int x3), .val (.int la), .val (.int lb), .val (.int c0), .val (.int c1), .val (.int d0), .unset, .unset, .unset, .unset, .unset, .unset, .unset, .unset, .unset, .unset] [(.int (((x1.toUInt32 >>> ((16 : Int32) &&& 31).toUInt32).toInt32) &&& (255 : Int32)))]))
        refine own_fs (XS.i2c X0.here hx rfl (hb hby at_89) rfl (Steps.refl _)) ?_
        exact J90 _ (by first | exact hc1 | exact own_chv _)
      · refine own_fs (XS.ifNo X0.here hx rfl (hb hby at_73) rfl (XT.i0_eq_f hc73) (Steps.refl _)) ?_
        show own_G p.tables e below _ (s₁.setTop (mkF m 76 #[.val (.int x0), .val (.int x1), .val (.int x2), .val (.int x3), .val (.int la), .val (.int lb), .val (.int c0), .val (.int c1), .val (.int d0), .unset, .unset, .unset, .unset, .unset, .unset, .unset, .unset, .unset, .unset] []))
        refine own_fs (XS.iload X0.here hx rfl (hb hby at_76) rfl (Steps.refl _)) ?_
        show own_G p.tables e below _ (s₁.setTop (mkF m 78 #[.val (.int x0), .val (.int x1), .val (.int x2), .val (.int x3), .val (.int la), .val (.int lb), .val (.int c0), .val (.int c1), .val (.int d0), .unset, .unset, .unset, .unset, .unset, .unset, .unset, .unset, .unset, .unset] [(.int c1)]))
        refine own_fs (XS.goto X0.here hx rfl (pc0 := 78) (pc' := 90) rfl (hb hby at_78) (by decide) (by decide) (Steps.refl _)) ?_
        exact J90 _ (by first | exact hc1 | exact own_chv _)
    show own_G p.tables e below _ (s₁.setTop (mkF m 48 #[.val (.int x0), .val (.int x1), .val (.int x2), .val (.int x3), .val (.int la), .val (.int lb), .val (.int c0), .val (.int c1), .unset, .unset, .unset, .unset, .unset, .unset, .unset, .unset, .unset, .unset, .unset] []))
    refine own_fs (XS.iloadN X0.here hx rfl (hb hby at_48) rfl (Steps.refl _)) ?_
    show own_G p.tables e below _ (s₁.setTop (mkF m 49 #[.val (.int x0), .val (.int x1), .val (.int x2), .val (.int x3), .val (.int la), .val (.int lb), .val (.int c0), .val (.int c1), .unset, .unset, .unset, .unset, .unset, .unset, .unset, .unset, .unset, .unset, .unset] [(.int x1)]))
    refine own_fs (XS.iconst X0.here hx rfl (hb hby at_49) (Steps.refl _)) ?_
    show own_G p.tables e below _ (s₁.setTop (mkF m 50 #[.val (.int x0), .val (.int x1), .val (.int x2), .val (.int x3), .val (.int la), .val (.int lb), .val (.int c0), .val (.int c1), .unset, .unset, .unset, .unset, .unset, .unset, .unset, .unset, .unset, .unset, .unset] [(.int (1 : Int32)), (.int x1)]))
    refine own_fs (XS.iand X0.here hx rfl (hb hby at_50) rfl (Steps.refl _)) ?_
    show own_G p.tables e below _ (s₁.setTop (mkF m 51 #[.val (.int x0), .val (.int x1), .val (.int x2), .val (.int x3), .val (.int la), .val (.int lb), .val (.int c0), .val (.int c1), .unset, .unset, .unset, .unset, .unset, .unset, .unset, .unset, .unset, .unset, .unset] [(.int (x1 &&& (1 : Int32)))]))
    by_cases hc51 : (x1 &&& (1 : Int32)) = (0 : Int32)
    · refine own_fs (XS.ifYes X0.here hx rfl (pc0 := 51) (pc' := 59) rfl (hb hby at_51) rfl (XT.i0_eq_t hc51) (by decide) (by decide) (Steps.refl _)) ?_
      show own_G p.tables e below _ (s₁.setTop (mkF m 59 #[.val (.int x0), .val (.int x1), .val (.int x2), .val (.int x3), .val (.int la), .val (.int lb), .val (.int c0), .val (.int c1), .unset, .unset, .unset, .unset, .unset, .unset, .unset, .unset, .unset, .unset, .unset] []))
      refine own_fs (XS.iloadN X0.here hx rfl (hb hby at_59) rfl (Steps.refl _)) ?_
      show own_G p.tables e below _ (s₁.setTop (mkF m 60 #[.val (.int x0), .val (.int x1), .val (.int x2), .val (.int x3), .val (.int la), .val (.int lb), .val (.int c0), .val (.int c1), .unset, .unset, .unset, .unset, .unset, .unset, .unset, .unset, .unset, .unset, .unset] [(.int x1)]))
      refine own_fs (XS.bipush X0.here hx rfl (hb hby at_60) (Steps.refl _)) ?_
      show own_G p.tables e below _ (s₁.setTop (mkF m 62 #[.val (.int x0), .val (.int x1), .val (.int x2), .val (.int x3), .val (.int la), .val (.int lb), .val (.int c0), .val (.int c1), .unset, .unset, .unset, .unset, .unset, .unset, .unset, .unset, .unset, .unset, .unset] [(.int (8 : Int32)), (.int x1)]))
      refine own_fs (XS.iushr X0.here hx rfl (hb hby at_62) rfl (Steps.refl _)) ?_
      show own_G p.tables e below _ (s₁.setTop (mkF m 63 #[.val (.int x0), .val (.int x1), .val (.int x2), .val (.int x3), .val (.int la), .val (.int lb), .val (.int c0), .val (.int c1), .unset, .unset, .unset, .unset, .unset, .unset, .unset, .unset, .unset, .unset, .unset] [(.int ((x1.toUInt32 >>> ((8 : Int32) &&& 31).toUInt32).toInt32))]))
      refine own_fs (XS.sipush X0.here hx rfl (hb hby at_63) (Steps.refl _)) ?_
      show own_G p.tables e below _ (s₁.setTop (mkF m 66 #[.val (.int x0), .val (.int x1), .val (.int x2), .val (.int x3), .val (.int la), .val (.int lb), .val (.int c0), .val (.int c1), .unset, .unset, .unset, .unset, .unset, .unset, .unset, .unset, .unset, .unset, .unset] [(.int (255 : Int32)), (.int ((x1.toUInt32 >>> ((8 : Int32) &&& 31).toUInt32).toInt32))]))
      refine own_fs (XS.iand X0.here hx rfl (hb hby at_66) rfl (Steps.refl _)) ?_
      show own_G p.tables e below _ (s₁.setTop (mkF m 67 #[.val (.int x0), .val (.int x1), .val (.int x2), .val (.int x3), .val (.int la), .val (.int lb), .val (.int c0), .val (.int c1), .unset, .unset, .unset, .unset, .unset, .unset, .unset, .unset, .unset, .unset, .unset] [(.int (((x1.toUInt32 >>> ((8 : Int32) &&& 31).toUInt32).toInt32) &&& (255 : Int32)))]))
      refine own_fs (XS.i2c X0.here hx rfl (hb hby at_67) rfl (Steps.refl _)) ?_
      exact J68 _ (by first | exact hc0 | exact own_chv _)
    · refine own_fs (XS.ifNo X0.here hx rfl (hb hby at_51) rfl (XT.i0_eq_f hc51) (Steps.refl _)) ?_
      show own_G p.tables e below _ (s₁.setTop (mkF m 54 #[.val (.int x0), .val (.int x1), .val (.int x2), .val (.int x3), .val (.int la), .val (.int lb), .val (.int c0), .val (.int c1), .unset, .unset, .unset, .unset, .unset, .unset, .unset, .unset, .unset, .unset, .unset] []))
      refine own_fs (XS.iload X0.here hx rfl (hb hby at_54) rfl (Steps.refl _)) ?_
      show own_G p.tables e below _ (s₁.setTop (mkF m 56 #[.val (.int x0), .val (.int x1), .val (.int x2), .val (.int x3), .val (.int la), .val (.int lb), .val (.int c0), .val (.int c1), .unset, .unset, .unset, .unset, .unset, .unset, .unset, .unset, .unset, .unset, .unset] [(.int c0)]))
      refine own_fs (XS.goto X0.here hx rfl (pc0 := 56) (pc' := 68) rfl (hb hby at_56) (by decide) (by decide) (Steps.refl _)) ?_
      exact J68 _ (by first | exact hc0 | exact own_chv _)
  show own_G p.tables e below _ (s₁.setTop (mkF m 7 #[.val (.int x0), .val (.int x1), .val (.int x2), .val (.int x3), .val (.int la), .unset, .unset, .unset, .unset, .unset, .unset, .unset, .unset, .unset, .unset, .unset, .unset, .unset, .unset] []))
  refine own_fs (XS.iloadN X0.here hx rfl (hb hby at_7) rfl (Steps.refl _)) ?_
  show own_G p.tables e below _ (s₁.setTop (mkF m 8 #[.val (.int x0), .val (.int x1), .val (.int x2), .val (.int x3), .val (.int la), .unset, .unset, .unset, .unset, .unset, .unset, .unset, .unset, .unset, .unset, .unset, .unset, .unset, .unset] [(.int x2)]))
  refine own_fs (XS.iconst X0.here hx rfl (hb hby at_8) (Steps.refl _)) ?_
  show own_G p.tables e below _ (s₁.setTop (mkF m 9 #[.val (.int x0), .val (.int x1), .val (.int x2), .val (.int x3), .val (.int la), .unset, .unset, .unset, .unset, .unset, .unset, .unset, .unset, .unset, .unset, .unset, .unset, .unset, .unset] [(.int (2 : Int32)), (.int x2)]))
  refine own_fs (XS.iushr X0.here hx rfl (hb hby at_9) rfl (Steps.refl _)) ?_
  show own_G p.tables e below _ (s₁.setTop (mkF m 10 #[.val (.int x0), .val (.int x1), .val (.int x2), .val (.int x3), .val (.int la), .unset, .unset, .unset, .unset, .unset, .unset, .unset, .unset, .unset, .unset, .unset, .unset, .unset, .unset] [(.int ((x2.toUInt32 >>> ((2 : Int32) &&& 31).toUInt32).toInt32))]))
  refine own_fs (XS.iconst X0.here hx rfl (hb hby at_10) (Steps.refl _)) ?_
  show own_G p.tables e below _ (s₁.setTop (mkF m 11 #[.val (.int x0), .val (.int x1), .val (.int x2), .val (.int x3), .val (.int la), .unset, .unset, .unset, .unset, .unset, .unset, .unset, .unset, .unset, .unset, .unset, .unset, .unset, .unset] [(.int (1 : Int32)), (.int ((x2.toUInt32 >>> ((2 : Int32) &&& 31).toUInt32).toInt32))]))
  refine own_fs (XS.iand X0.here hx rfl (hb hby at_11) rfl (Steps.refl _)) ?_
  show own_G p.tables e below _ (s₁.setTop (mkF m 12 #[.val (.int x0), .val (.int x1), .val (.int x2), .val (.int x3), .val (.int la), .unset, .unset, .unset, .unset, .unset, .unset, .unset, .unset, .unset, .unset, .unset, .unset, .unset, .unset] [(.int (((x2.toUInt32 >>> ((2 : Int32) &&& 31).toUInt32).toInt32) &&& (1 : Int32)))]))
  by_cases hc12 : (((x2.toUInt32 >>> ((2 : Int32) &&& 31).toUInt32).toInt32) &&& (1 : Int32)) = (0 : Int32)
  · refine own_fs (XS.ifYes X0.here hx rfl (pc0 := 12) (pc' := 20) rfl (hb hby at_12) rfl (XT.i0_eq_t hc12) (by decide) (by decide) (Steps.refl _)) ?_
    show own_G p.tables e below _ (s₁.setTop (mkF m 20 #[.val (.int x0), .val (.int x1), .val (.int x2), .val (.int x3), .val (.int la), .unset, .unset, .unset, .unset, .unset, .unset, .unset, .unset, .unset, .unset, .unset, .unset, .unset, .unset] []))
    refine own_fs (XS.iloadN X0.here hx rfl (hb hby at_20) rfl (Steps.refl _)) ?_
    show own_G p.tables e below _ (s₁.setTop (mkF m 21 #[.val (.int x0), .val (.int x1), .val (.int x2), .val (.int x3), .val (.int la), .unset, .unset, .unset, .unset, .unset, .unset, .unset, .unset, .unset, .unset, .unset, .unset, .unset, .unset] [(.int x2)]))
    refine own_fs (XS.iconst X0.here hx rfl (hb hby at_21) (Steps.refl _)) ?_
    show own_G p.tables e below _ (s₁.setTop (mkF m 22 #[.val (.int x0), .val (.int x1), .val (.int x2), .val (.int x3), .val (.int la), .unset, .unset, .unset, .unset, .unset, .unset, .unset, .unset, .unset, .unset, .unset, .unset, .unset, .unset] [(.int (3 : Int32)), (.int x2)]))
    refine own_fs (XS.iushr X0.here hx rfl (hb hby at_22) rfl (Steps.refl _)) ?_
    show own_G p.tables e below _ (s₁.setTop (mkF m 23 #[.val (.int x0), .val (.int x1), .val (.int x2), .val (.int x3), .val (.int la), .unset, .unset, .unset, .unset, .unset, .unset, .unset, .unset, .unset, .unset, .unset, .unset, .unset, .unset] [(.int ((x2.toUInt32 >>> ((3 : Int32) &&& 31).toUInt32).toInt32))]))
    refine own_fs (XS.iconst X0.here hx rfl (hb hby at_23) (Steps.refl _)) ?_
    show own_G p.tables e below _ (s₁.setTop (mkF m 24 #[.val (.int x0), .val (.int x1), .val (.int x2), .val (.int x3), .val (.int la), .unset, .unset, .unset, .unset, .unset, .unset, .unset, .unset, .unset, .unset, .unset, .unset, .unset, .unset] [(.int (3 : Int32)), (.int ((x2.toUInt32 >>> ((3 : Int32) &&& 31).toUInt32).toInt32))]))
    refine own_fs (XS.iand X0.here hx rfl (hb hby at_24) rfl (Steps.refl _)) ?_
    show own_G p.tables e below _ (s₁.setTop (mkF m 25 #[.val (.int x0), .val (.int x1), .val (.int x2), .val (.int x3), .val (.int la), .unset, .unset, .unset, .unset, .unset, .unset, .unset, .unset, .unset, .unset, .unset, .unset, .unset, .unset] [(.int (((x2.toUInt32 >>> ((3 : Int32) &&& 31).toUInt32).toInt32) &&& (3 : Int32)))]))
    refine own_fs (XS.iconst X0.here hx rfl (hb hby at_25) (Steps.refl _)) ?_
    show own_G p.tables e below _ (s₁.setTop (mkF m 26 #[.val (.int x0), .val (.int x1), .val (.int x2), .val (.int x3), .val (.int la), .unset, .unset, .unset, .unset, .unset, .unset, .unset, .unset, .unset, .unset, .unset, .unset, .unset, .unset] [(.int (3 : Int32)), (.int (((x2.toUInt32 >>> ((3 : Int32) &&& 31).toUInt32).toInt32) &&& (3 : Int32)))]))
    refine own_fs (iremM (g := (mkF m 26 #[.val (.int x0), .val (.int x1), .val (.int x2), .val (.int x3), .val (.int la), .unset, .unset, .unset, .unset, .unset, .unset, .unset, .unset, .unset, .unset, .unset, .unset, .unset, .unset] [(.int (3 : Int32)), (.int (((x2.toUInt32 >>> ((3 : Int32) &&& 31).toUInt32).toInt32) &&& (3 : Int32)))])) X0 hx rfl (hb hby at_26) rfl (by decide) (Steps.refl _)) ?_
    exact J27 _ (by first | exact hla | exact own_m3 _)
  · refine own_fs (XS.ifNo X0.here hx rfl (hb hby at_12) rfl (XT.i0_eq_f hc12) (Steps.refl _)) ?_
    show own_G p.tables e below _ (s₁.setTop (mkF m 15 #[.val (.int x0), .val (.int x1), .val (.int x2), .val (.int x3), .val (.int la), .unset, .unset, .unset, .unset, .unset, .unset, .unset, .unset, .unset, .unset, .unset, .unset, .unset, .unset] []))
    refine own_fs (XS.iload X0.here hx rfl (hb hby at_15) rfl (Steps.refl _)) ?_
    show own_G p.tables e below _ (s₁.setTop (mkF m 17 #[.val (.int x0), .val (.int x1), .val (.int x2), .val (.int x3), .val (.int la), .unset, .unset, .unset, .unset, .unset, .unset, .unset, .unset, .unset, .unset, .unset, .unset, .unset, .unset] [(.int la)]))
    refine own_fs (XS.goto X0.here hx rfl (pc0 := 17) (pc' := 27) rfl (hb hby at_17) (by decide) (by decide) (Steps.refl _)) ?_
    exact J27 _ (by first | exact hla | exact own_m3 _)
set_option maxRecDepth 65536 in
set_option maxHeartbeats 40000000 in
theorem comes_1 {Post : Tables → Env → Array Value → State → Outcome → State → Prop} (hpost : ∀ tb e args s v u, (limb_1_1.after args s (.returned v) u = true ∧ limb_1_2.after args s (.returned v) u = true ∧ True) → Jvm.D.FramedW s (.returned v) u (Jvm.fieldLocs frame_1_writes args s ++ Jvm.arrayLocs frame_1_arrays args s ++ Jvm.staticLocs frame_1_statics s) 32 1152 → Post tb e args s (.returned v) u) :
    ArmFor flags0 classFile x code maxLocals ret World_1 tables_1 room_1 Calls_1 rest_1 Pre_1 Post := by
  intro l hfl _ _ p e ha hc hk s m args below hf hA hF happ hP
  obtain ⟨hcalls, hrest, hpre⟩ := hP
  obtain ⟨-, -, -, hnamed, -, -, -, hat⟩ := (Spec.applies_iff hf).mp happ
  obtain ⟨hg, hn⟩ := and_e (Cond.before_iff.mp (show (Jvm.Cond.and given_1 narrow_1).before args s = true from hpre))
  obtain ⟨hcount, hg0⟩ := and_e hg
  obtain ⟨ga0, hg1⟩ := and_e hg0
  obtain ⟨ga1, hg2⟩ := and_e hg1
  obtain ⟨ga2, hg3⟩ := and_e hg2
  obtain ⟨w0, w1, w2, w3, rfl⟩ : ∃ w0 w1 w2 w3 : Value, args = #[w0, w1, w2, w3] := by
    have hs : args.size = 4 := by simpa [Cond.value, given_1] using hcount
    obtain ⟨L⟩ := args
    match L, hs with
    | [w0, w1, w2, w3], _ => exact ⟨w0, w1, w2, w3, rfl⟩
  have hw := fun d (hd : d ∈ tables_1) => atoms_spec (ws := Jvm.Cond.code x code maxLocals ret :: tables_1) hat d (List.mem_cons_of_mem _ hd)
  have hfit : Fit s := fun {y c} hc i hi => by
    obtain ⟨ha, rfl⟩ := Array.getElem?_eq_some_iff.mp hc
    have q := List.all_eq_true.mp ((Array.all_eq_true_iff_forall_mem.mp hF) _ (Array.getElem_mem ha)) i (List.mem_range.mpr hi)
    simpa [Array.getElem?_eq_getElem hi] using q
  obtain ⟨hsets, hown0⟩ := atoms_of _ (rest_1_c_eq ▸ (show rest_1_c.before _ s = true from hrest))
  have hr0 := Cond.before_iff.mp hown0
  obtain ⟨i0, ei0⟩ := is_v ga0
  obtain rfl : w0 = (.int i0) := Option.some.inj ei0
  obtain ⟨i1, ei1⟩ := is_v ga1
  obtain rfl : w1 = (.int i1) := Option.some.inj ei1
  obtain ⟨i2, ei2⟩ := is_v ga2
  obtain rfl : w2 = (.int i2) := Option.some.inj ei2
  obtain ⟨i3, ei3⟩ := is_v hg3
  obtain rfl : w3 = (.int i3) := Option.some.inj ei3
  obtain ⟨cz, eCz⟩ := is_v (Cond.before_iff.mp (hsets _ (List.mem_of_getElem? (i := 1) rfl)))
  have hSc : Sta s s.heap "java/lang/String" "COMPACT_STRINGS" "Z" (.int cz) := Sta.start eCz (Or.inl (hsets _ (List.mem_of_getElem? (i := 0) rfl)))
  have hcz : ¬ (cz = (0 : Int32)) := gotF (Cond.eq_ints eCz (Term.int_eval (0))) (not_v (Cond.before_iff.mp (hsets _ (List.mem_of_getElem? (i := 2) rfl))))
  have hCH : CHv s own_EL s.vm s.heap := CHv.start (own_ew hw) hcalls.1 (show Jvm.Lit.compactW.before _ s = true from (hsets _ (List.mem_of_getElem? (i := 2) rfl))) (hw _ (List.mem_of_getElem? (i := 26) rfl)) (hw _ (List.mem_of_getElem? (i := 8) rfl))
  obtain ⟨n, o, h1, h2, h3, _, L, rfl, ⟨rfl, N⟩, -, hq⟩ := own_law l s _ hw tables_1 i0 i1 i2 i3 cz s.heap s.heap.size (Nat.le_refl _) hSc hcz (Old.start s) p e ha hc hk s m _ below hf ((Spec.applies_iff_loose hf).mp happ).1 ⟨rfl, State.Warmed39.refl s, rfl, hCH⟩ trivial
  refine ⟨n, _, h1, h2, h3, hpost _ _ _ _ _ _ ⟨Cond.after_iff.mpr rfl, Cond.after_iff.mpr (eq_i res_at (Term.int_eval (1)) rfl), trivial⟩ ⟨hq.1, hq.2.1, hq.2.2.1, (hq.2.2.2.sift fun y hy => Or.inr (N y hy)).mono (by decide) (by decide)⟩⟩
theorem main_1_1 : Claimed_1_1 := comes_1 fun _ _ _ _ _ _ h hF => ⟨h.1, hF⟩
theorem main_1_2 : Claimed_1_2 := comes_1 fun _ _ _ _ _ _ h hF => ⟨h.2.1, hF⟩
end Jvm.Pilot.@@N@@
namespace Jvm.Pilot.@@N@@
open Jvm Jvm.ClassFile Sem Op Lib Jvm.Free Jvm.Stand Jvm.Pilot.@@N@@.Jvm.D
/-! MADE BY PROGRAM (witnessworld.py) out of the Statement's table words and the real class files: 21 classes; the members and pool entries that the words name. The judged class is class 1, her method 2. -/
namespace start1
open Jvm.ClassFile
def u (s : String) : CpInfo := .utf8 (stringToUtf16 s)
/-- a pool by its gaps: so many unusable entries, then the entry; so many at the end -/
def gap : Nat → List CpInfo → List CpInfo
  | 0, r => r
  | n + 1, r => .unusable :: gap n r
def poolList (es : List (Nat × CpInfo)) (last : Nat) : List CpInfo := es.foldr (fun e r => gap e.1 (e.2 :: r)) (gap last [])
def pool (es : List (Nat × CpInfo)) (last : Nat) : Array CpInfo := ⟨poolList es last⟩
def fileOf (pool : Array CpInfo) (this : Nat) (attrs : Array Attribute := #[]) (ms : Array MethodInfo := #[]) (fl : Nat := 33) (sup : Nat := 0) (ifs : Array Nat := #[]) (fds : Array FieldInfo := #[]) : ClassFile where
  minorVersion := 0
  majorVersion := 65
  constantPool := pool
  accessFlags := fl
  thisClass := this
  superClass := sup
  interfaces := ifs
  fields := fds
  methods := ms
  attributes := attrs
def plain (name : String) (sup : Option ClassId) : Class where
  name := name
  kind := .ordinary
  loader := none
  accessFlags := 33
  super := sup
  interfaces := #[]
  cf := none
  fields := #[]
  methods := #[]
  instanceTypes := #[]
  staticTypes := #[]
  resolved := #[]
  callSites := []
  init := .initialized
  statics := none
  mirror := none

def pool0 : Array CpInfo := pool [(5, u "<init>"), (0, u "()V"), (1, .class_ 10), (1, u "java/lang/Object")] 113

def k0c0 : Code := { maxStack := 0, maxLocals := 1, code := object_method_1_code, exceptionTable := #[], attributes := #[] }
def k0m0 : Method := { name := "<init>", desc := "()V", sig := { parameters := [], returnType := none }, accessFlags := 1, code := some k0c0 }
/-- java/lang/Object -/
def k0 : Class := { plain "java/lang/Object" none with
  accessFlags := 33
  interfaces := #[]
  cf := some (fileOf pool0 8 #[] #[{ accessFlags := 1, nameIndex := 5, descriptorIndex := 6, attributes := #[] }] 33 0 #[] #[])
  fields := #[]
  methods := #[k0m0]
  instanceTypes := #[]
  staticTypes := #[]
  resolved := Array.replicate 124 none
  statics := none }

def pool1 : Array CpInfo := pool [(2, .class_ 4), (1, u "java/lang/Object"), (0, u "<init>"), (0, u "()V"), (0, .class_ 8), (0, u "java/lang/String"), (0, .methodref 7 10), (0, .nameAndType 5 11), (0, u "([C)V"), (0, .class_ 13), (0, u "com/example/diligent_tableau/diligenttableau/logic/Individual"), (0, .methodref 15 16), (0, .class_ 17), (0, .nameAndType 18 19), (0, u "com/example/diligent_tableau/diligenttableau/logic/IndividualEqualsPinLaw"), (0, u "str"), (0, u "(ICC)Ljava/lang/String;"), (0, .methodref 12 21), (0, .nameAndType 5 22), (0, u "(Ljava/lang/String;ZZ)V"), (0, .methodref 12 24), (0, .nameAndType 25 26), (0, u "equals"), (0, u "(Ljava/lang/Object;)Z"), (3, u "law"), (0, u "(IIII)Z")] 2

def k1m0 : Method := { name := "<init>", desc := "()V", sig := { parameters := [], returnType := none }, accessFlags := 1, code := none }
def k1c1 : Code := { maxStack := 6, maxLocals := 3, code := method_2_code, exceptionTable := #[], attributes := #[] }
def k1m1 : Method := { name := "str", desc := "(ICC)Ljava/lang/String;", sig := { parameters := [.int, .char, .char], returnType := some (.object "java/lang/String") }, accessFlags := 10, code := some k1c1 }
def k1c2 : Code := { maxStack := 5, maxLocals := 19, code := code, exceptionTable := #[], attributes := #[] }
def k1m2 : Method := { name := "law", desc := "(IIII)Z", sig := { parameters := [.int, .int, .int, .int], returnType := some .boolean }, accessFlags := 9, code := some k1c2 }
/-- com/example/diligent_tableau/diligenttableau/logic/IndividualEqualsPinLaw -/
def k1 : Class := { plain "com/example/diligent_tableau/diligenttableau/logic/IndividualEqualsPinLaw" (some 0) with
  accessFlags := 49
  interfaces := #[]
  cf := some (fileOf pool1 15 #[] #[{ accessFlags := 1, nameIndex := 5, descriptorIndex := 6, attributes := #[] }, { accessFlags := 10, nameIndex := 18, descriptorIndex := 19, attributes := #[] }, { accessFlags := 9, nameIndex := 30, descriptorIndex := 31, attributes := #[] }] 49 2 #[] #[])
  fields := #[]
  methods := #[k1m0, k1m1, k1m2]
  instanceTypes := #[]
  staticTypes := #[]
  resolved := Array.replicate 34 none
  statics := none }

def pool2 : Array CpInfo := pool [(1, .methodref 2 3), (0, .class_ 4), (0, .nameAndType 5 6), (0, u "java/lang/Object"), (0, u "<init>"), (0, u "()V"), (0, .class_ 8), (0, u "java/lang/Record")] 13

def k2c0 : Code := { maxStack := 1, maxLocals := 1, code := jdk_30_method_1_code, exceptionTable := #[], attributes := #[] }
def k2m0 : Method := { name := "<init>", desc := "()V", sig := { parameters := [], returnType := none }, accessFlags := 4, code := some k2c0 }
/-- java/lang/Record -/
def k2 : Class := { plain "java/lang/Record" (some 0) with
  accessFlags := 1057
  interfaces := #[]
  cf := some (fileOf pool2 7 #[] #[{ accessFlags := 4, nameIndex := 5, descriptorIndex := 6, attributes := #[] }] 1057 2 #[] #[])
  fields := #[]
  methods := #[k2m0]
  instanceTypes := #[]
  staticTypes := #[]
  resolved := Array.replicate 22 none
  statics := none }

def pool3 : Array CpInfo := pool [(1, .methodref 2 3), (0, .class_ 4), (0, .nameAndType 5 6), (0, u "java/lang/Record"), (0, u "<init>"), (0, u "()V"), (0, .fieldref 8 9), (0, .class_ 10), (0, .nameAndType 11 12), (0, u "com/example/diligent_tableau/diligenttableau/logic/Individual"), (0, u "name"), (0, u "Ljava/lang/String;"), (0, .fieldref 8 14), (0, .nameAndType 15 16), (0, u "anonymous"), (0, u "Z"), (0, .fieldref 8 18), (0, .nameAndType 19 16), (0, u "fresh"), (5, u "(Ljava/lang/String;ZZ)V"), (0, .methodref 27 28), (0, .class_ 29), (0, .nameAndType 30 31), (0, u "java/lang/String"), (0, u "equals"), (0, u "(Ljava/lang/Object;)Z")] 43

def k3c0 : Code := { maxStack := 2, maxLocals := 4, code := prog_22_method_3_code, exceptionTable := #[], attributes := #[] }
def k3m0 : Method := { name := "<init>", desc := "(Ljava/lang/String;ZZ)V", sig := { parameters := [(.object "java/lang/String"), .boolean, .boolean], returnType := none }, accessFlags := 1, code := some k3c0 }
def k3c1 : Code := { maxStack := 2, maxLocals := 3, code := prog_22_method_5_code, exceptionTable := #[], attributes := #[] }
def k3m1 : Method := { name := "equals", desc := "(Ljava/lang/Object;)Z", sig := { parameters := [(.object "java/lang/Object")], returnType := some .boolean }, accessFlags := 1, code := some k3c1 }
/-- com/example/diligent_tableau/diligenttableau/logic/Individual -/
def k3 : Class := { plain "com/example/diligent_tableau/diligenttableau/logic/Individual" (some 2) with
  accessFlags := 49
  interfaces := #[]
  cf := some (fileOf pool3 8 #[] #[{ accessFlags := 1, nameIndex := 5, descriptorIndex := 25, attributes := #[] }, { accessFlags := 1, nameIndex := 30, descriptorIndex := 31, attributes := #[] }] 49 2 #[] #[{ accessFlags := 18, nameIndex := 11, descriptorIndex := 12, attributes := #[] }, { accessFlags := 18, nameIndex := 15, descriptorIndex := 16, attributes := #[] }, { accessFlags := 18, nameIndex := 19, descriptorIndex := 16, attributes := #[] }])
  fields := #[{ name := "name", type := (.object "java/lang/String"), accessFlags := 18, slot := 0, constantValue := 0 }, { name := "anonymous", type := .boolean, accessFlags := 18, slot := 1, constantValue := 0 }, { name := "fresh", type := .boolean, accessFlags := 18, slot := 2, constantValue := 0 }]
  methods := #[k3m0, k3m1]
  instanceTypes := #[(.object "java/lang/String"), .boolean, .boolean]
  staticTypes := #[]
  resolved := Array.replicate 75 none
  statics := none }

def pool4 : Array CpInfo := pool [(1, .class_ 2), (0, u "java/io/Serializable"), (0, .class_ 4), (0, u "java/lang/Object")] 2

/-- java/io/Serializable -/
def k4 : Class := { plain "java/io/Serializable" (some 0) with
  accessFlags := 1537
  interfaces := #[]
  cf := some (fileOf pool4 1 #[] #[] 1537 3 #[] #[])
  fields := #[]
  methods := #[]
  instanceTypes := #[]
  staticTypes := #[]
  resolved := Array.replicate 7 none
  statics := none }

def pool5 : Array CpInfo := pool [(1, .class_ 2), (0, u "java/lang/Comparable"), (0, .class_ 4), (0, u "java/lang/Object")] 7

/-- java/lang/Comparable -/
def k5 : Class := { plain "java/lang/Comparable" (some 0) with
  accessFlags := 1537
  interfaces := #[]
  cf := some (fileOf pool5 1 #[] #[] 1537 3 #[] #[])
  fields := #[]
  methods := #[]
  instanceTypes := #[]
  staticTypes := #[]
  resolved := Array.replicate 12 none
  statics := none }

def pool6 : Array CpInfo := pool [(2, .class_ 4), (1, u "java/lang/CharSequence"), (42, .class_ 48), (0, u "java/lang/CharSequence$1CodePointIterator"), (10, .class_ 60), (0, u "java/lang/CharSequence$1CharIterator"), (5, .class_ 67), (0, u "java/lang/Object")] 63

/-- java/lang/CharSequence -/
def k6 : Class := { plain "java/lang/CharSequence" (some 0) with
  accessFlags := 1537
  interfaces := #[]
  cf := some (fileOf pool6 2 #[.nestMembers #[47, 59]] #[] 1537 66 #[] #[])
  fields := #[]
  methods := #[]
  instanceTypes := #[]
  staticTypes := #[]
  resolved := Array.replicate 131 none
  statics := none }

def pool7 : Array CpInfo := pool [(1, .class_ 2), (0, u "java/lang/constant/Constable"), (0, .class_ 4), (0, u "java/lang/Object")] 6

/-- java/lang/constant/Constable -/
def k7 : Class := { plain "java/lang/constant/Constable" (some 0) with
  accessFlags := 1537
  interfaces := #[]
  cf := some (fileOf pool7 1 #[] #[] 1537 3 #[] #[])
  fields := #[]
  methods := #[]
  instanceTypes := #[]
  staticTypes := #[]
  resolved := Array.replicate 11 none
  statics := none }

def pool8 : Array CpInfo := pool [(1, .class_ 2), (0, u "java/lang/constant/ConstantDesc"), (0, .class_ 4), (0, u "java/lang/Object")] 32

/-- java/lang/constant/ConstantDesc -/
def k8 : Class := { plain "java/lang/constant/ConstantDesc" (some 0) with
  accessFlags := 1537
  interfaces := #[]
  cf := some (fileOf pool8 1 #[] #[] 1537 3 #[] #[])
  fields := #[]
  methods := #[]
  instanceTypes := #[]
  staticTypes := #[]
  resolved := Array.replicate 37 none
  statics := none }

def pool9 : Array CpInfo := pool [(1, .methodref 2 3), (0, .class_ 4), (0, .nameAndType 5 6), (0, u "java/lang/Object"), (0, u "<init>"), (0, u "()V"), (0, .string 8), (0, u ""), (0, .fieldref 10 11), (0, .class_ 12), (0, .nameAndType 13 14), (0, u "java/lang/String"), (0, u "value"), (0, u "[B"), (0, .fieldref 10 16), (0, .nameAndType 17 18), (0, u "coder"), (0, u "B"), (2, u "hash"), (0, u "I"), (2, u "hashIsZero"), (0, u "Z"), (0, .methodref 10 28), (0, .nameAndType 5 29), (0, u "([CIILjava/lang/Void;)V"), (8, .fieldref 10 39), (0, .nameAndType 40 26), (0, u "COMPACT_STRINGS"), (1, .class_ 44), (1, u "java/lang/StringUTF16"), (0, u "compress"), (1, .methodref 42 48), (0, .nameAndType 49 50), (0, u "coderFromArrayLen"), (0, u "([BI)B"), (56, .class_ 109), (1, u "java/lang/StringLatin1"), (67, .methodref 42 178), (0, .nameAndType 45 179), (0, u "([CII)[B"), (361, .methodref 107 542), (0, .nameAndType 543 544), (0, u "equals"), (0, u "([B[B)Z"), (28, u "(Ljava/lang/Object;)Z"), (1, .class_ 576), (0, u "java/lang/CharSequence"), (22, u "CASE_INSENSITIVE_ORDER"), (0, u "Ljava/util/Comparator;"), (409, u "([C)V"), (90, u "serialPersistentFields"), (0, u "[Ljava/io/ObjectStreamField;"), (0, .class_ 1104), (0, u "java/lang/String$CaseInsensitiveComparator"), (1, .class_ 1107), (0, u "java/io/Serializable"), (0, .class_ 1109), (0, u "java/lang/Comparable"), (0, .class_ 1111), (0, u "java/lang/constant/Constable"), (0, .class_ 1113), (0, u "java/lang/constant/ConstantDesc"), (2, u "serialVersionUID"), (0, u "J"), (3, u "REPL"), (0, u "C"), (2, u "LATIN1"), (1, u "UTF16")] 323

def k9m0 : Method := { name := "<init>", desc := "()V", sig := { parameters := [], returnType := none }, accessFlags := 1, code := none }
def k9c1 : Code := { maxStack := 5, maxLocals := 2, code := jdk_42_method_3_code, exceptionTable := #[], attributes := #[] }
def k9m1 : Method := { name := "<init>", desc := "([C)V", sig := { parameters := [(.array .char)], returnType := none }, accessFlags := 1, code := some k9c1 }
def k9c2 : Code := { maxStack := 2, maxLocals := 3, code := jdk_42_method_66_code, exceptionTable := #[], attributes := #[] }
def k9m2 : Method := { name := "equals", desc := "(Ljava/lang/Object;)Z", sig := { parameters := [(.object "java/lang/Object")], returnType := some .boolean }, accessFlags := 1, code := some k9c2 }
def k9c3 : Code := { maxStack := 4, maxLocals := 6, code := jdk_42_method_149_code, exceptionTable := #[], attributes := #[] }
def k9m3 : Method := { name := "<init>", desc := "([CIILjava/lang/Void;)V", sig := { parameters := [(.array .char), .int, .int, (.object "java/lang/Void")], returnType := none }, accessFlags := 2, code := some k9c3 }
/-- java/lang/String -/
def k9 : Class := { plain "java/lang/String" (some 0) with
  accessFlags := 49
  interfaces := #[4, 5, 6, 7, 8]
  cf := some (fileOf pool9 10 #[.nestMembers #[1103]] #[{ accessFlags := 1, nameIndex := 5, descriptorIndex := 6, attributes := #[] }, { accessFlags := 1, nameIndex := 5, descriptorIndex := 1010, attributes := #[] }, { accessFlags := 1, nameIndex := 543, descriptorIndex := 573, attributes := #[] }, { accessFlags := 2, nameIndex := 5, descriptorIndex := 29, attributes := #[] }] 49 2 #[1106, 1108, 575, 1110, 1112] #[{ accessFlags := 18, nameIndex := 13, descriptorIndex := 14, attributes := #[] }, { accessFlags := 18, nameIndex := 17, descriptorIndex := 18, attributes := #[] }, { accessFlags := 2, nameIndex := 21, descriptorIndex := 22, attributes := #[] }, { accessFlags := 2, nameIndex := 25, descriptorIndex := 26, attributes := #[] }, { accessFlags := 26, nameIndex := 1116, descriptorIndex := 1117, attributes := #[] }, { accessFlags := 24, nameIndex := 40, descriptorIndex := 26, attributes := #[] }, { accessFlags := 26, nameIndex := 1101, descriptorIndex := 1102, attributes := #[] }, { accessFlags := 26, nameIndex := 1121, descriptorIndex := 1122, attributes := #[] }, { accessFlags := 25, nameIndex := 599, descriptorIndex := 600, attributes := #[] }, { accessFlags := 24, nameIndex := 1125, descriptorIndex := 18, attributes := #[] }, { accessFlags := 24, nameIndex := 1127, descriptorIndex := 18, attributes := #[] }])
  fields := #[{ name := "value", type := (.array .byte), accessFlags := 18, slot := 0, constantValue := 0 }, { name := "coder", type := .byte, accessFlags := 18, slot := 1, constantValue := 0 }, { name := "hash", type := .int, accessFlags := 2, slot := 2, constantValue := 0 }, { name := "hashIsZero", type := .boolean, accessFlags := 2, slot := 3, constantValue := 0 }, { name := "serialVersionUID", type := .long, accessFlags := 26, slot := 0, constantValue := 0 }, { name := "COMPACT_STRINGS", type := .boolean, accessFlags := 24, slot := 1, constantValue := 0 }, { name := "serialPersistentFields", type := (.array (.object "java/io/ObjectStreamField")), accessFlags := 26, slot := 2, constantValue := 0 }, { name := "REPL", type := .char, accessFlags := 26, slot := 3, constantValue := 0 }, { name := "CASE_INSENSITIVE_ORDER", type := (.object "java/util/Comparator"), accessFlags := 25, slot := 4, constantValue := 0 }, { name := "LATIN1", type := .byte, accessFlags := 24, slot := 5, constantValue := 0 }, { name := "UTF16", type := .byte, accessFlags := 24, slot := 6, constantValue := 0 }]
  methods := #[k9m0, k9m1, k9m2, k9m3]
  instanceTypes := #[(.array .byte), .byte, .int, .boolean]
  staticTypes := #[.long, .boolean, (.array (.object "java/io/ObjectStreamField")), .char, (.object "java/util/Comparator"), .byte, .byte]
  resolved := Array.replicate 1451 none
  statics := some 0 }

def pool10 : Array CpInfo := pool [(6, .class_ 8), (1, u "java/lang/Object"), (0, u "<init>"), (0, u "()V"), (1, .class_ 14), (1, u "java/lang/StringUTF16"), (31, u "$assertionsDisabled"), (0, u "Z"), (13, u "HI_BYTE_SHIFT"), (0, u "I"), (2, u "LO_BYTE_SHIFT"), (49, .methodref 12 116), (0, .nameAndType 117 118), (0, u "compress"), (0, u "([CI[BII)I"), (3, u "([CII)[B"), (138, u "coderFromArrayLen"), (0, u "([BI)B"), (106, .class_ 371), (1, u "java/lang/StringUTF16$LinesSpliterator"), (58, u "MAX_LENGTH"), (196, .class_ 628), (0, u "java/lang/StringUTF16$CodePointsSpliterator"), (0, .class_ 630), (0, u "java/lang/StringUTF16$CharsSpliterator")] 4

def k10m0 : Method := { name := "<init>", desc := "()V", sig := { parameters := [], returnType := none }, accessFlags := 0, code := none }
def k10c1 : Code := { maxStack := 2, maxLocals := 2, code := jdk_52_method_15_code, exceptionTable := #[], attributes := #[] }
def k10m1 : Method := { name := "coderFromArrayLen", desc := "([BI)B", sig := { parameters := [(.array .byte), .int], returnType := some .byte }, accessFlags := 8, code := some k10c1 }
def k10c2 : Code := { maxStack := 5, maxLocals := 6, code := jdk_52_method_16_code, exceptionTable := #[], attributes := #[] }
def k10m2 : Method := { name := "compress", desc := "([CII)[B", sig := { parameters := [(.array .char), .int, .int], returnType := some (.array .byte) }, accessFlags := 9, code := some k10c2 }
def k10c3 : Code := { maxStack := 3, maxLocals := 7, code := jdk_52_method_21_code, exceptionTable := #[], attributes := #[] }
def k10m3 : Method := { name := "compress", desc := "([CI[BII)I", sig := { parameters := [(.array .char), .int, (.array .byte), .int, .int], returnType := some .int }, accessFlags := 9, code := some k10c3 }
/-- java/lang/StringUTF16 -/
def k10 : Class := { plain "java/lang/StringUTF16" (some 0) with
  accessFlags := 48
  interfaces := #[]
  cf := some (fileOf pool10 12 #[.nestMembers #[627, 629, 369]] #[{ accessFlags := 0, nameIndex := 9, descriptorIndex := 10, attributes := #[] }, { accessFlags := 8, nameIndex := 261, descriptorIndex := 262, attributes := #[] }, { accessFlags := 9, nameIndex := 117, descriptorIndex := 122, attributes := #[] }, { accessFlags := 9, nameIndex := 117, descriptorIndex := 118, attributes := #[] }] 48 6 #[] #[{ accessFlags := 26, nameIndex := 61, descriptorIndex := 62, attributes := #[] }, { accessFlags := 26, nameIndex := 65, descriptorIndex := 62, attributes := #[] }, { accessFlags := 24, nameIndex := 430, descriptorIndex := 62, attributes := #[] }, { accessFlags := 4120, nameIndex := 46, descriptorIndex := 47, attributes := #[] }])
  fields := #[{ name := "HI_BYTE_SHIFT", type := .int, accessFlags := 26, slot := 0, constantValue := 0 }, { name := "LO_BYTE_SHIFT", type := .int, accessFlags := 26, slot := 1, constantValue := 0 }, { name := "MAX_LENGTH", type := .int, accessFlags := 24, slot := 2, constantValue := 0 }, { name := "$assertionsDisabled", type := .boolean, accessFlags := 4120, slot := 3, constantValue := 0 }]
  methods := #[k10m0, k10m1, k10m2, k10m3]
  instanceTypes := #[]
  staticTypes := #[.int, .int, .int, .boolean]
  resolved := Array.replicate 635 none
  statics := none }

def pool11 : Array CpInfo := pool [(4, .class_ 6), (1, u "java/lang/Object"), (0, u "<init>"), (0, u "()V"), (5, .class_ 16), (1, u "java/lang/StringLatin1"), (104, u "$assertionsDisabled"), (0, u "Z"), (98, .class_ 223), (1, u "java/lang/StringLatin1$LinesSpliterator"), (57, u "equals"), (0, u "([B[B)Z"), (107, .class_ 391), (0, u "java/lang/StringLatin1$CharsSpliterator")] 3

def k11m0 : Method := { name := "<init>", desc := "()V", sig := { parameters := [], returnType := none }, accessFlags := 0, code := none }
def k11c1 : Code := { maxStack := 3, maxLocals := 3, code := jdk_43_method_13_code, exceptionTable := #[], attributes := #[] }
def k11m1 : Method := { name := "equals", desc := "([B[B)Z", sig := { parameters := [(.array .byte), (.array .byte)], returnType := some .boolean }, accessFlags := 9, code := some k11c1 }
/-- java/lang/StringLatin1 -/
def k11 : Class := { plain "java/lang/StringLatin1" (some 0) with
  accessFlags := 48
  interfaces := #[]
  cf := some (fileOf pool11 14 #[.nestMembers #[390, 221]] #[{ accessFlags := 0, nameIndex := 7, descriptorIndex := 8, attributes := #[] }, { accessFlags := 9, nameIndex := 281, descriptorIndex := 282, attributes := #[] }] 48 4 #[] #[{ accessFlags := 4120, nameIndex := 121, descriptorIndex := 122, attributes := #[] }])
  fields := #[{ name := "$assertionsDisabled", type := .boolean, accessFlags := 4120, slot := 0, constantValue := 0 }]
  methods := #[k11m0, k11m1]
  instanceTypes := #[]
  staticTypes := #[.boolean]
  resolved := Array.replicate 395 none
  statics := none }

def pool12 : Array CpInfo := pool [(2, .class_ 4), (1, u "java/lang/Object"), (0, u "<init>"), (0, u "()V"), (17, .class_ 26), (1, u "jdk/internal/util/Preconditions"), (28, .class_ 56), (0, u "jdk/internal/util/Preconditions$4"), (57, .class_ 115), (0, u "jdk/internal/util/Preconditions$1"), (7, u "SIOOBE_FORMATTER"), (0, u "Ljava/util/function/BiFunction;"), (0, .class_ 126), (0, u "jdk/internal/util/Preconditions$2"), (3, u "AIOOBE_FORMATTER"), (0, .class_ 132), (0, u "jdk/internal/util/Preconditions$3"), (3, u "IOOBE_FORMATTER")] 57

def k12m0 : Method := { name := "<init>", desc := "()V", sig := { parameters := [], returnType := none }, accessFlags := 1, code := none }
/-- jdk/internal/util/Preconditions -/
def k12 : Class := { plain "jdk/internal/util/Preconditions" (some 0) with
  accessFlags := 33
  interfaces := #[]
  cf := some (fileOf pool12 24 #[.nestMembers #[55, 131, 125, 114]] #[{ accessFlags := 1, nameIndex := 5, descriptorIndex := 6, attributes := #[] }] 33 2 #[] #[{ accessFlags := 25, nameIndex := 123, descriptorIndex := 124, attributes := #[] }, { accessFlags := 25, nameIndex := 130, descriptorIndex := 124, attributes := #[] }, { accessFlags := 25, nameIndex := 136, descriptorIndex := 124, attributes := #[] }])
  fields := #[{ name := "SIOOBE_FORMATTER", type := (.object "java/util/function/BiFunction"), accessFlags := 25, slot := 0, constantValue := 0 }, { name := "AIOOBE_FORMATTER", type := (.object "java/util/function/BiFunction"), accessFlags := 25, slot := 1, constantValue := 0 }, { name := "IOOBE_FORMATTER", type := (.object "java/util/function/BiFunction"), accessFlags := 25, slot := 2, constantValue := 0 }]
  methods := #[k12m0]
  instanceTypes := #[]
  staticTypes := #[(.object "java/util/function/BiFunction"), (.object "java/util/function/BiFunction"), (.object "java/util/function/BiFunction")]
  resolved := Array.replicate 194 none
  statics := some 1 }

def pool13 : Array CpInfo := pool [(9, u "<init>"), (6, .class_ 18), (1, u "java/lang/Object"), (0, u "()V"), (1, .class_ 23), (1, u "jdk/internal/util/ArraysSupport"), (0, u "LOG2_ARRAY_LONG_INDEX_SCALE"), (0, u "I"), (2, u "U"), (0, u "Ljdk/internal/misc/Unsafe;"), (8, u "BIG_ENDIAN"), (0, u "Z"), (8, u "LOG2_BYTE_BIT_SIZE"), (4, u "LOG2_ARRAY_INT_INDEX_SCALE"), (54, u "JLA"), (0, u "Ljdk/internal/access/JavaLangAccess;"), (11, u "LOG2_ARRAY_BOOLEAN_INDEX_SCALE"), (9, u "LOG2_ARRAY_BYTE_INDEX_SCALE"), (5, u "LOG2_ARRAY_CHAR_INDEX_SCALE"), (5, u "LOG2_ARRAY_SHORT_INDEX_SCALE"), (18, u "LOG2_ARRAY_FLOAT_INDEX_SCALE"), (24, u "LOG2_ARRAY_DOUBLE_INDEX_SCALE"), (89, u "T_BOOLEAN"), (2, u "T_CHAR"), (1, u "T_FLOAT"), (1, u "T_DOUBLE"), (1, u "T_BYTE"), (1, u "T_SHORT"), (1, u "T_INT"), (1, u "T_LONG"), (1, u "SOFT_MAX_ARRAY_LENGTH")] 83

def k13m0 : Method := { name := "<init>", desc := "()V", sig := { parameters := [], returnType := none }, accessFlags := 2, code := none }
/-- jdk/internal/util/ArraysSupport -/
def k13 : Class := { plain "jdk/internal/util/ArraysSupport" (some 0) with
  accessFlags := 33
  interfaces := #[]
  cf := some (fileOf pool13 21 #[] #[{ accessFlags := 2, nameIndex := 9, descriptorIndex := 19, attributes := #[] }] 33 16 #[] #[{ accessFlags := 24, nameIndex := 28, descriptorIndex := 29, attributes := #[] }, { accessFlags := 26, nameIndex := 38, descriptorIndex := 39, attributes := #[] }, { accessFlags := 25, nameIndex := 121, descriptorIndex := 25, attributes := #[] }, { accessFlags := 25, nameIndex := 131, descriptorIndex := 25, attributes := #[] }, { accessFlags := 25, nameIndex := 137, descriptorIndex := 25, attributes := #[] }, { accessFlags := 25, nameIndex := 143, descriptorIndex := 25, attributes := #[] }, { accessFlags := 25, nameIndex := 53, descriptorIndex := 25, attributes := #[] }, { accessFlags := 25, nameIndex := 24, descriptorIndex := 25, attributes := #[] }, { accessFlags := 25, nameIndex := 162, descriptorIndex := 25, attributes := #[] }, { accessFlags := 25, nameIndex := 187, descriptorIndex := 25, attributes := #[] }, { accessFlags := 26, nameIndex := 48, descriptorIndex := 25, attributes := #[] }, { accessFlags := 25, nameIndex := 277, descriptorIndex := 25, attributes := #[] }, { accessFlags := 25, nameIndex := 280, descriptorIndex := 25, attributes := #[] }, { accessFlags := 25, nameIndex := 282, descriptorIndex := 25, attributes := #[] }, { accessFlags := 25, nameIndex := 284, descriptorIndex := 25, attributes := #[] }, { accessFlags := 25, nameIndex := 286, descriptorIndex := 25, attributes := #[] }, { accessFlags := 25, nameIndex := 288, descriptorIndex := 25, attributes := #[] }, { accessFlags := 25, nameIndex := 290, descriptorIndex := 25, attributes := #[] }, { accessFlags := 25, nameIndex := 292, descriptorIndex := 25, attributes := #[] }, { accessFlags := 26, nameIndex := 108, descriptorIndex := 109, attributes := #[] }, { accessFlags := 25, nameIndex := 294, descriptorIndex := 25, attributes := #[] }])
  fields := #[{ name := "U", type := (.object "jdk/internal/misc/Unsafe"), accessFlags := 24, slot := 0, constantValue := 0 }, { name := "BIG_ENDIAN", type := .boolean, accessFlags := 26, slot := 1, constantValue := 0 }, { name := "LOG2_ARRAY_BOOLEAN_INDEX_SCALE", type := .int, accessFlags := 25, slot := 2, constantValue := 0 }, { name := "LOG2_ARRAY_BYTE_INDEX_SCALE", type := .int, accessFlags := 25, slot := 3, constantValue := 0 }, { name := "LOG2_ARRAY_CHAR_INDEX_SCALE", type := .int, accessFlags := 25, slot := 4, constantValue := 0 }, { name := "LOG2_ARRAY_SHORT_INDEX_SCALE", type := .int, accessFlags := 25, slot := 5, constantValue := 0 }, { name := "LOG2_ARRAY_INT_INDEX_SCALE", type := .int, accessFlags := 25, slot := 6, constantValue := 0 }, { name := "LOG2_ARRAY_LONG_INDEX_SCALE", type := .int, accessFlags := 25, slot := 7, constantValue := 0 }, { name := "LOG2_ARRAY_FLOAT_INDEX_SCALE", type := .int, accessFlags := 25, slot := 8, constantValue := 0 }, { name := "LOG2_ARRAY_DOUBLE_INDEX_SCALE", type := .int, accessFlags := 25, slot := 9, constantValue := 0 }, { name := "LOG2_BYTE_BIT_SIZE", type := .int, accessFlags := 26, slot := 10, constantValue := 0 }, { name := "T_BOOLEAN", type := .int, accessFlags := 25, slot := 11, constantValue := 0 }, { name := "T_CHAR", type := .int, accessFlags := 25, slot := 12, constantValue := 0 }, { name := "T_FLOAT", type := .int, accessFlags := 25, slot := 13, constantValue := 0 }, { name := "T_DOUBLE", type := .int, accessFlags := 25, slot := 14, constantValue := 0 }, { name := "T_BYTE", type := .int, accessFlags := 25, slot := 15, constantValue := 0 }, { name := "T_SHORT", type := .int, accessFlags := 25, slot := 16, constantValue := 0 }, { name := "T_INT", type := .int, accessFlags := 25, slot := 17, constantValue := 0 }, { name := "T_LONG", type := .int, accessFlags := 25, slot := 18, constantValue := 0 }, { name := "JLA", type := (.object "jdk/internal/access/JavaLangAccess"), accessFlags := 26, slot := 19, constantValue := 0 }, { name := "SOFT_MAX_ARRAY_LENGTH", type := .int, accessFlags := 25, slot := 20, constantValue := 0 }]
  methods := #[k13m0]
  instanceTypes := #[]
  staticTypes := #[(.object "jdk/internal/misc/Unsafe"), .boolean, .int, .int, .int, .int, .int, .int, .int, .int, .int, .int, .int, .int, .int, .int, .int, .int, .int, (.object "jdk/internal/access/JavaLangAccess"), .int]
  resolved := Array.replicate 378 none
  statics := none }

def pool14 : Array CpInfo := pool [(1, u "java/lang/Cloneable"), (0, .class_ 1), (0, u "java/lang/Object"), (0, .class_ 3)] 3

/-- java/lang/Cloneable -/
def k14 : Class := { plain "java/lang/Cloneable" (some 0) with
  accessFlags := 1537
  interfaces := #[]
  cf := some (fileOf pool14 2 #[] #[] 1537 4 #[] #[])
  fields := #[]
  methods := #[]
  instanceTypes := #[]
  staticTypes := #[]
  resolved := Array.replicate 8 none
  statics := none }

/-- the primitive byte -/
def k15 : Class := { plain "byte" none with kind := .primitive 'B', accessFlags := 0x411 }
/-- [B -/
def k16 : Class := { plain "[B" (some 0) with kind := .array 15 .byte, interfaces := #[14, 4], accessFlags := 1041 }

/-- the primitive char -/
def k17 : Class := { plain "char" none with kind := .primitive 'C', accessFlags := 0x411 }
/-- [C -/
def k18 : Class := { plain "[C" (some 0) with kind := .array 17 .char, interfaces := #[14, 4], accessFlags := 1041 }

/-- the primitive int -/
def k19 : Class := { plain "int" none with kind := .primitive 'I', accessFlags := 0x411 }
/-- [I -/
def k20 : Class := { plain "[I" (some 0) with kind := .array 19 .int, interfaces := #[14, 4], accessFlags := 1041 }

def heap : Heap := #[{ cls := 9, slots := #[.long 0, .int 1, .null, .int 0, .null, .int 0, .int 0], vm := .statics 9 },
  { cls := 12, slots := #[.null, .null, .null], vm := .statics 12 }]
def classes : Array Class := #[k0, k1, k2, k3, k4, k5, k6, k7, k8, k9, k10, k11, k12, k13, k14, k15, k16, k17, k18, k19, k20]
def interned : List (Array UInt16 × Addr) := []
def slotsUsed : Nat := 10
def theMethod : MethodId := ⟨1, 2⟩
def args0 : Array Value := #[.int 5, .int 6, .int 7, .int 8]
def aboutOver (below : List Frame) : State where
  vm := { classes := classes, interned := interned.toArray }
  heap := heap
  slotsUsed := slotsUsed
  threads := #[{ frames := .invoking theMethod args0 :: below }]
def below0 : List Frame := [.native { method := ⟨0, 0⟩, args := #[] }]
def about1 : State := aboutOver below0
def p0 : Program := .bare "" "" ""
def e0 : Env := launch0.env 0 0 0
theorem w_frames : about1.frames = Frame.invoking theMethod args0 :: below0 := rfl
set_option maxRecDepth 65536 in
theorem w_args : argsFit about1.vm theMethod args0 = true := by decide +kernel
set_option maxRecDepth 65536 in
theorem w_heap : heapFits about1 = true := by decide +kernel
set_option maxRecDepth 65536 in
theorem w_runnable : about1.curStatus? = some .runnable := by decide +kernel
set_option maxRecDepth 65536 in
theorem w_alone : about1.alone = true := by decide +kernel
set_option maxRecDepth 65536 in
theorem w_named : about1.methodNamed? x = some theMethod := by decide +kernel
set_option maxRecDepth 65536 in
theorem w_hears : about1.hears theMethod below0 = true := by decide +kernel
set_option maxRecDepth 65536 in
theorem w_ripe : about1.ripe theMethod args0 below0 = true := by decide +kernel
theorem w_running : about1.status = .running := rfl
set_option maxRecDepth 65536 in
theorem w_room : about1.hasRoom e0.platform room_1 = true :=
  launch0.hasRoom_least _ room_1 (by decide +kernel) (by decide +kernel) (by decide +kernel) (by decide +kernel) (by decide +kernel) (by decide +kernel)
theorem allAtoms_all (ts : List Jvm.Cond) (a : Array Jvm.Value) (st : Jvm.State) : (allAtoms ts).before a st = ts.all (fun c => c.before a st) := by
  induction ts with
  | nil => rfl
  | cons c t ih =>
    show (Jvm.Cond.and c (allAtoms t)).before a st = _
    rw [Jvm.Cond.before_and, ih, List.all_cons]
def words1 : List Jvm.Cond := Jvm.Cond.code x code maxLocals ret :: tables_1
/-- a 'code' word, met by the world's own term for the bytes: nothing is compared byte by byte -/
theorem code_word {y : MethodName} {bytes : ByteArray} {mx : Nat} {rt : Option FieldType} {a : Array Value} {s : State} {m : MethodId} {meth : Method} {c : Code} (h1 : s.methodNamed? y = some m) (h2 : s.vm.method? m = some meth) (h3 : meth.code = some c) (h4 : c.code = bytes)
    (h5 : (c.maxLocals == mx && c.exceptionTable.isEmpty && decide (c.maxStack ≤ mostOperands) && decide (meth.sig.returnType = rt) && !meth.locks && decide (parseMethodDescriptor y.desc = some meth.sig)) = true) : (Jvm.Cond.code y bytes mx rt).before a s = true := by
  simp only [Bool.and_eq_true, beq_iff_eq, Bool.not_eq_true', decide_eq_true_eq] at h5
  obtain ⟨⟨⟨⟨⟨g1, g2⟩, g3⟩, g4⟩, g5⟩, g6⟩ := h5
  simp [Cond.before, Cond.holds, Cond.value, h1, h2, h3, h4, g1, g2, g3, g4, g5, g6]
def isCode : Jvm.Cond → Bool
  | .code _ _ _ _ => true
  | _ => false
theorem all_split {L : List Jvm.Cond} {P : Jvm.Cond → Bool} (h1 : L.all (fun c => isCode c || P c) = true) (h2 : ∀ c ∈ L.filter isCode, P c = true) : L.all P = true := by
  refine List.all_eq_true.mpr fun c hc => ?_
  have h := List.all_eq_true.mp h1 c hc
  rcases Bool.eq_false_or_eq_true (isCode c) with hi | hi
  · exact h2 c (List.mem_filter.mpr ⟨hc, hi⟩)
  · simpa [hi] using h
set_option maxRecDepth 65536 in
theorem w_c0 : (Jvm.Cond.code x code maxLocals ret).before args0 about1 = true := code_word (m := ⟨1, 2⟩) (meth := k1m2) (c := k1c2) (by decide +kernel) rfl rfl rfl (by decide +kernel)
set_option maxRecDepth 65536 in
theorem w_c1 : (Jvm.Cond.code ({ cls := "com/example/diligent_tableau/diligenttableau/logic/IndividualEqualsPinLaw", name := "str", desc := "(ICC)Ljava/lang/String;" } : Jvm.MethodName) method_2_code (3 : Nat) (Option.some (Jvm.ClassFile.FieldType.object "java/lang/String"))).before args0 about1 = true := code_word (m := ⟨1, 1⟩) (meth := k1m1) (c := k1c1) (by decide +kernel) rfl rfl rfl (by decide +kernel)
set_option maxRecDepth 65536 in
theorem w_c2 : (Jvm.Cond.code ({ cls := "java/lang/String", name := "<init>", desc := "([C)V" } : Jvm.MethodName) jdk_42_method_3_code (2 : Nat) (Option.none : Option Jvm.ClassFile.FieldType)).before args0 about1 = true := code_word (m := ⟨9, 1⟩) (meth := k9m1) (c := k9c1) (by decide +kernel) rfl rfl rfl (by decide +kernel)
set_option maxRecDepth 65536 in
theorem w_c3 : (Jvm.Cond.code ({ cls := "java/lang/String", name := "<init>", desc := "([CIILjava/lang/Void;)V" } : Jvm.MethodName) jdk_42_method_149_code (6 : Nat) (Option.none : Option Jvm.ClassFile.FieldType)).before args0 about1 = true := code_word (m := ⟨9, 3⟩) (meth := k9m3) (c := k9c3) (by decide +kernel) rfl rfl rfl (by decide +kernel)
set_option maxRecDepth 65536 in
theorem w_c4 : (Jvm.Cond.code ({ cls := "java/lang/Object", name := "<init>", desc := "()V" } : Jvm.MethodName) object_method_1_code (1 : Nat) (Option.none : Option Jvm.ClassFile.FieldType)).before args0 about1 = true := code_word (m := ⟨0, 0⟩) (meth := k0m0) (c := k0c0) (by decide +kernel) rfl rfl rfl (by decide +kernel)
set_option maxRecDepth 65536 in
theorem w_c5 : (Jvm.Cond.code ({ cls := "java/lang/StringUTF16", name := "compress", desc := "([CII)[B" } : Jvm.MethodName) jdk_52_method_16_code (6 : Nat) (Option.some (Jvm.ClassFile.FieldType.array Jvm.ClassFile.FieldType.byte))).before args0 about1 = true := code_word (m := ⟨10, 2⟩) (meth := k10m2) (c := k10c2) (by decide +kernel) rfl rfl rfl (by decide +kernel)
set_option maxRecDepth 65536 in
theorem w_c6 : (Jvm.Cond.code ({ cls := "java/lang/StringUTF16", name := "compress", desc := "([CI[BII)I" } : Jvm.MethodName) jdk_52_method_21_code (7 : Nat) (Option.some Jvm.ClassFile.FieldType.int)).before args0 about1 = true := code_word (m := ⟨10, 3⟩) (meth := k10m3) (c := k10c3) (by decide +kernel) rfl rfl rfl (by decide +kernel)
set_option maxRecDepth 65536 in
theorem w_c7 : (Jvm.Cond.code ({ cls := "java/lang/StringUTF16", name := "coderFromArrayLen", desc := "([BI)B" } : Jvm.MethodName) jdk_52_method_15_code (2 : Nat) (Option.some Jvm.ClassFile.FieldType.byte)).before args0 about1 = true := code_word (m := ⟨10, 1⟩) (meth := k10m1) (c := k10c1) (by decide +kernel) rfl rfl rfl (by decide +kernel)
set_option maxRecDepth 65536 in
theorem w_c8 : (Jvm.Cond.code ({ cls := "com/example/diligent_tableau/diligenttableau/logic/Individual", name := "<init>", desc := "(Ljava/lang/String;ZZ)V" } : Jvm.MethodName) prog_22_method_3_code (4 : Nat) (Option.none : Option Jvm.ClassFile.FieldType)).before args0 about1 = true := code_word (m := ⟨3, 0⟩) (meth := k3m0) (c := k3c0) (by decide +kernel) rfl rfl rfl (by decide +kernel)
set_option maxRecDepth 65536 in
theorem w_c9 : (Jvm.Cond.code ({ cls := "java/lang/Record", name := "<init>", desc := "()V" } : Jvm.MethodName) jdk_30_method_1_code (1 : Nat) (Option.none : Option Jvm.ClassFile.FieldType)).before args0 about1 = true := code_word (m := ⟨2, 0⟩) (meth := k2m0) (c := k2c0) (by decide +kernel) rfl rfl rfl (by decide +kernel)
set_option maxRecDepth 65536 in
theorem w_c10 : (Jvm.Cond.code ({ cls := "com/example/diligent_tableau/diligenttableau/logic/Individual", name := "equals", desc := "(Ljava/lang/Object;)Z" } : Jvm.MethodName) prog_22_method_5_code (3 : Nat) (Option.some Jvm.ClassFile.FieldType.boolean)).before args0 about1 = true := code_word (m := ⟨3, 1⟩) (meth := k3m1) (c := k3c1) (by decide +kernel) rfl rfl rfl (by decide +kernel)
set_option maxRecDepth 65536 in
theorem w_c11 : (Jvm.Cond.code ({ cls := "java/lang/String", name := "equals", desc := "(Ljava/lang/Object;)Z" } : Jvm.MethodName) jdk_42_method_66_code (3 : Nat) (Option.some Jvm.ClassFile.FieldType.boolean)).before args0 about1 = true := code_word (m := ⟨9, 2⟩) (meth := k9m2) (c := k9c2) (by decide +kernel) rfl rfl rfl (by decide +kernel)
set_option maxRecDepth 65536 in
theorem w_c12 : (Jvm.Cond.code ({ cls := "java/lang/StringLatin1", name := "equals", desc := "([B[B)Z" } : Jvm.MethodName) jdk_43_method_13_code (3 : Nat) (Option.some Jvm.ClassFile.FieldType.boolean)).before args0 about1 = true := code_word (m := ⟨11, 1⟩) (meth := k11m1) (c := k11c1) (by decide +kernel) rfl rfl rfl (by decide +kernel)
def codes1 : List Jvm.Cond := [Jvm.Cond.code x code maxLocals ret, Jvm.Cond.code ({ cls := "com/example/diligent_tableau/diligenttableau/logic/IndividualEqualsPinLaw", name := "str", desc := "(ICC)Ljava/lang/String;" } : Jvm.MethodName) method_2_code (3 : Nat) (Option.some (Jvm.ClassFile.FieldType.object "java/lang/String")), Jvm.Cond.code ({ cls := "java/lang/String", name := "<init>", desc := "([C)V" } : Jvm.MethodName) jdk_42_method_3_code (2 : Nat) (Option.none : Option Jvm.ClassFile.FieldType), Jvm.Cond.code ({ cls := "java/lang/String", name := "<init>", desc := "([CIILjava/lang/Void;)V" } : Jvm.MethodName) jdk_42_method_149_code (6 : Nat) (Option.none : Option Jvm.ClassFile.FieldType), Jvm.Cond.code ({ cls := "java/lang/Object", name := "<init>", desc := "()V" } : Jvm.MethodName) object_method_1_code (1 : Nat) (Option.none : Option Jvm.ClassFile.FieldType), Jvm.Cond.code ({ cls := "java/lang/StringUTF16", name := "compress", desc := "([CII)[B" } : Jvm.MethodName) jdk_52_method_16_code (6 : Nat) (Option.some (Jvm.ClassFile.FieldType.array Jvm.ClassFile.FieldType.byte)), Jvm.Cond.code ({ cls := "java/lang/StringUTF16", name := "compress", desc := "([CI[BII)I" } : Jvm.MethodName) jdk_52_method_21_code (7 : Nat) (Option.some Jvm.ClassFile.FieldType.int), Jvm.Cond.code ({ cls := "java/lang/StringUTF16", name := "coderFromArrayLen", desc := "([BI)B" } : Jvm.MethodName) jdk_52_method_15_code (2 : Nat) (Option.some Jvm.ClassFile.FieldType.byte), Jvm.Cond.code ({ cls := "com/example/diligent_tableau/diligenttableau/logic/Individual", name := "<init>", desc := "(Ljava/lang/String;ZZ)V" } : Jvm.MethodName) prog_22_method_3_code (4 : Nat) (Option.none : Option Jvm.ClassFile.FieldType), Jvm.Cond.code ({ cls := "java/lang/Record", name := "<init>", desc := "()V" } : Jvm.MethodName) jdk_30_method_1_code (1 : Nat) (Option.none : Option Jvm.ClassFile.FieldType), Jvm.Cond.code ({ cls := "com/example/diligent_tableau/diligenttableau/logic/Individual", name := "equals", desc := "(Ljava/lang/Object;)Z" } : Jvm.MethodName) prog_22_method_5_code (3 : Nat) (Option.some Jvm.ClassFile.FieldType.boolean), Jvm.Cond.code ({ cls := "java/lang/String", name := "equals", desc := "(Ljava/lang/Object;)Z" } : Jvm.MethodName) jdk_42_method_66_code (3 : Nat) (Option.some Jvm.ClassFile.FieldType.boolean), Jvm.Cond.code ({ cls := "java/lang/StringLatin1", name := "equals", desc := "([B[B)Z" } : Jvm.MethodName) jdk_43_method_13_code (3 : Nat) (Option.some Jvm.ClassFile.FieldType.boolean)]
set_option maxRecDepth 65536 in
theorem codes_eq : words1.filter isCode = codes1 := rfl
theorem w_codes : ∀ c ∈ words1.filter isCode, c.before args0 about1 = true := by
  rw [codes_eq]
  intro c hc
  simp only [codes1, List.mem_cons, List.not_mem_nil, or_false] at hc
  rcases hc with rfl | rfl | rfl | rfl | rfl | rfl | rfl | rfl | rfl | rfl | rfl | rfl | rfl
  · exact w_c0
  · exact w_c1
  · exact w_c2
  · exact w_c3
  · exact w_c4
  · exact w_c5
  · exact w_c6
  · exact w_c7
  · exact w_c8
  · exact w_c9
  · exact w_c10
  · exact w_c11
  · exact w_c12
set_option maxRecDepth 65536 in
theorem w_t1 : (words1.take 24).all (fun c => isCode c || c.before args0 about1) = true := by decide +kernel
set_option maxRecDepth 65536 in
theorem w_t2 : ((words1.drop 24).take 24).all (fun c => isCode c || c.before args0 about1) = true := by decide +kernel
set_option maxRecDepth 65536 in
theorem w_t3 : (((words1.drop 24).drop 24).take 24).all (fun c => isCode c || c.before args0 about1) = true := by decide +kernel
set_option maxRecDepth 65536 in
theorem w_t4 : (((words1.drop 24).drop 24).drop 24).all (fun c => isCode c || c.before args0 about1) = true := by decide +kernel
theorem w_tables : (allAtoms (Jvm.Cond.code x code maxLocals ret :: tables_1)).before args0 about1 = true := by
  rw [allAtoms_all]
  show words1.all (fun c => c.before args0 about1) = true
  refine all_split ?_ w_codes
  rw [← List.take_append_drop 24 words1, List.all_append, w_t1, ← List.take_append_drop 24 (words1.drop 24), List.all_append, w_t2, ← List.take_append_drop 24 ((words1.drop 24).drop 24), List.all_append, w_t3, w_t4]
  rfl
set_option maxRecDepth 65536 in
theorem w_rest : rest_1_c.before args0 about1 = true := by decide +kernel
set_option maxRecDepth 65536 in
theorem w_case : (Jvm.Cond.and given_1 narrow_1).before args0 about1 = true := by decide +kernel
set_option maxRecDepth 65536 in
theorem w_consts : constsHeld consts_1 about1 := Jvm.Lit.constsHeldB_iff.mp (by decide +kernel)
theorem w_applies : (headSpec (Jvm.Cond.code x code maxLocals ret :: tables_1) room_1).applies x e0.platform about1 = true :=
  (Spec.applies_iff w_frames).mpr ⟨w_running, w_runnable, w_alone, w_named, w_hears, w_ripe, w_room, w_tables⟩
theorem atStart : AtStart classFile x code maxLocals ret World_1 tables_1 room_1 Calls_1 rest_1 Pre_1 launch0 p0 e0 about1 theMethod args0 below0 :=
  ⟨lists_1, trivial, launch0.admits_env _ _ _, launch0.least_env, fairChoices_fair.cas, fairChoices_fair.clock, w_frames, w_args, w_heap, w_applies, ⟨w_consts, trivial⟩, w_rest, w_case⟩
end start1
theorem witness_1 : WitnessClaimed_1 := ⟨start1.p0, start1.e0, start1.about1, start1.theMethod, start1.args0, start1.below0, start1.atStart⟩
end Jvm.Pilot.@@N@@
