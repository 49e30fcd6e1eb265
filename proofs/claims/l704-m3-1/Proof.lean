import JvmDerived
import JvmDerived.Pilot.@@N@@Statement
import JvmDerived.Pilot.@@N@@Code
set_option linter.unusedVariables false
set_option linter.unusedSimpArgs false
namespace Jvm.RoadKit
open Sem ClassFile Op Lib Bundle Jvm.Stand Jvm.Free Jvm.LawKit Jvm.Free.SB Jvm.Free.SBG
section New
variable {p : Program} {l : Launch} {e : Env} {R : Room} {s : State} {m : MethodId} {args : Array Value} {below : List Frame} {meth : Method} {c : Code} {T : State} {locs : List Loc} {cells slots : Nat}
theorem retI (X : Stand p l e R s m args below meth c T locs cells slots) (hx : p.tables.exec = Jvm.exec) {pc : Nat} {Ls : Array Slot} {z : Int32} {rest : List Value} (hret : meth.sig.returnType = some .int) (hd : decode c.code pc = .ok (.ireturn, 1)) {fs : List Frame}
    (hl : ∀ (f : JFrame) (acts : List Action), f.method = m → f.locked = none → f.entered = [] → (doReturn e (T.setTop f) acts (some (.int z))).1 = T.setFrames fs) : Steps p.tables e below (T.setTop (mkF m pc Ls (.int z :: rest))) (T.setFrames fs) := by
  have hm' : T.vm.method? m = some meth := X.method'
  have hn : narrow .int (.int z) = .int z := rfl
  show Steps p.tables e below (T.setTop { method := m, pc := pc, locals := Ls, stack := _ :: rest, locked := none }) _
  jvm_step X.here [X.here.top, hx, hd, hm', hret, hn]
  first | (intro acts; rw [hl _ acts rfl rfl rfl]) | rw [hl _ _ rfl rfl rfl]
  exact Steps.refl _
/-- from the state A the body comes to its end, and Q holds there -/
def own_G (tb : Tables) (e : Env) (below : List Frame) (Q : Outcome → State → Prop) (A : State) : Prop := ∃ s₂ o, Steps tb e below A s₂ ∧ s₂.status = .running ∧ Ended s₂ below o ∧ Q o s₂
theorem own_fs {tb : Tables} {Q : Outcome → State → Prop} {A B : State} (h : Steps tb e below A B) (g : own_G tb e below Q B) : own_G tb e below Q A := by
  obtain ⟨s₂, o, h1, r⟩ := g
  exact ⟨s₂, o, h.trans h1, r⟩
/-- what a body's contract says of its end -/
def own_P (s : State) (QQ : Option Value → Heap → List Loc → Prop) (rc rs : Nat) (o : Outcome) (U : State) : Prop := ∃ v L, o = .returned v ∧ QQ v U.heap L ∧ FrameEnd s o U L rc rs
variable {QQ : Option Value → Heap → List Loc → Prop} {rc rs : Nat} {h : Heap}
theorem own_start {tb : Tables} {g g' : JFrame} (q : g = g') (k : own_G tb e below (own_P s QQ rc rs) (T.setTop g')) : ∃ s₂ o, Steps tb e below (T.setTop g) s₂ ∧ s₂.status = .running ∧ Ended s₂ below o ∧ ∃ v L, o = .returned v ∧ QQ v s₂.heap L ∧ FrameEnd s o s₂ L rc rs := q ▸ k
theorem own_retI (X : Stand p l e R s m args below meth c T locs cells slots) (hx : p.tables.exec = Jvm.exec) {pc : Nat} {Ls : Array Slot} {z : Int32} {rest : List Value} (hret : meth.sig.returnType = some .int) (hlk : meth.locks = false) (hd : decode c.code pc = .ok (.ireturn, 1)) (hc : cells ≤ rc) (hs : slots ≤ rs) (eT : T.heap = h) (hQ : QQ (some (.int z)) h locs) :
    own_G p.tables e below (own_P s QQ rc rs) (T.setTop (mkF m pc Ls (.int z :: rest))) := by
  obtain ⟨fs, hr, hrun, hended, hW, hsame⟩ := X.leave (v := some (.int z)) (fun h => by rw [hret] at h; cases h) hlk
  exact ⟨_, _, retI X hx hret hd hr, hrun, hended, _, _, rfl, (by show QQ _ T.heap _; rw [eT]; exact hQ), ⟨_, rfl⟩, hW, hsame.mono hc hs⟩
theorem own_retN (X : Stand p l e R s m args below meth c T locs cells slots) (hx : p.tables.exec = Jvm.exec) {pc : Nat} {Ls : Array Slot} {z : Int32} {t : FieldType} {rest : List Value} (hret : meth.sig.returnType = some t) (hlk : meth.locks = false) (ht : t = .boolean ∨ t = .byte ∨ t = .char ∨ t = .short) (hd : decode c.code pc = .ok (.ireturn, 1)) (hc : cells ≤ rc) (hs : slots ≤ rs) (eT : T.heap = h) (hQ : QQ (some (.int (nar t z))) h locs) :
    own_G p.tables e below (own_P s QQ rc rs) (T.setTop (mkF m pc Ls (.int z :: rest))) := by
  obtain ⟨fs, hr, hrun, hended, hW, hsame⟩ := X.leave (v := some (.int (nar t z))) (fun h => by rw [hret] at h; cases h) hlk
  exact ⟨_, _, retN X hx hret ht hd hr, hrun, hended, _, _, rfl, (by show QQ _ T.heap _; rw [eT]; exact hQ), ⟨_, rfl⟩, hW, hsame.mono hc hs⟩
theorem own_retJ (X : Stand p l e R s m args below meth c T locs cells slots) (hx : p.tables.exec = Jvm.exec) {pc : Nat} {Ls : Array Slot} {z : Int64} {rest : List Value} (hret : meth.sig.returnType = some .long) (hlk : meth.locks = false) (hd : decode c.code pc = .ok (.lreturn, 1)) (hc : cells ≤ rc) (hs : slots ≤ rs) (eT : T.heap = h) (hQ : QQ (some (.long z)) h locs) :
    own_G p.tables e below (own_P s QQ rc rs) (T.setTop (mkF m pc Ls (.long z :: rest))) := by
  obtain ⟨fs, hr, hrun, hended, hW, hsame⟩ := X.leave (v := some (.long z)) (fun h => by rw [hret] at h; cases h) hlk
  exact ⟨_, _, retOut X hx hret rfl (Or.inr (Or.inl ⟨rfl, rfl, z, rfl⟩)) hd hr, hrun, hended, _, _, rfl, (by show QQ _ T.heap _; rw [eT]; exact hQ), ⟨_, rfl⟩, hW, hsame.mono hc hs⟩
theorem own_narR {t : FieldType} {w : Value} (hw : w.isRef = true) : narrow t w = w := by rcases ref_cases hw with rfl | ⟨a, rfl⟩ <;> cases t <;> rfl
theorem own_fitR {t : FieldType} {w : Value} (hw : w.isRef = true) (ht : t.isReference = true := by rfl) : fits t w = true := by rcases ref_cases hw with rfl | ⟨a, rfl⟩ <;> cases t <;> first | rfl | cases ht
theorem own_retA (X : Stand p l e R s m args below meth c T locs cells slots) (hx : p.tables.exec = Jvm.exec) {pc : Nat} {Ls : Array Slot} {w : Value} {t : FieldType} {rest : List Value} (hret : meth.sig.returnType = some t) (hlk : meth.locks = false) (ht : t.isReference = true) (hw : w.isRef = true) (hd : decode c.code pc = .ok (.areturn, 1)) (hc : cells ≤ rc) (hs : slots ≤ rs) (eT : T.heap = h) (hQ : QQ (some w) h locs) :
    own_G p.tables e below (own_P s QQ rc rs) (T.setTop (mkF m pc Ls (w :: rest))) := by
  obtain ⟨fs, hr, hrun, hended, hW, hsame⟩ := X.leave (v := some w) (fun h => by rw [hret] at h; cases h) hlk
  exact ⟨_, _, retOut X hx hret (own_narR hw) (Or.inr (Or.inr (Or.inr (Or.inr ⟨rfl, ht, hw⟩)))) hd hr, hrun, hended, _, _, rfl, (by show QQ _ T.heap _; rw [eT]; exact hQ), ⟨_, rfl⟩, hW, hsame.mono hc hs⟩
theorem own_retV (X : Stand p l e R s m args below meth c T locs cells slots) (hx : p.tables.exec = Jvm.exec) {pc : Nat} {Ls : Array Slot} (hret : meth.sig.returnType = none) (hlk : meth.locks = false) (hd : decode c.code pc = .ok (.return_, 1)) (hc : cells ≤ rc) (hs : slots ≤ rs) (eT : T.heap = h) (hQ : QQ none h locs) :
    own_G p.tables e below (own_P s QQ rc rs) (T.setTop (mkF m pc Ls [])) := by
  obtain ⟨fs, hr, hrun, hended, hW, hsame⟩ := X.leave (v := none) (fun _ => rfl) hlk
  exact ⟨_, _, X.returnOut hx hret hd hr, hrun, hended, _, _, rfl, (by show QQ _ T.heap _; rw [eT]; exact hQ), ⟨_, rfl⟩, hW, hsame.mono hc hs⟩
/-- the same for a body that may load String constants -/
def own_PW (Z : State) (EL : List (String × Nat)) (s : State) (QQ : Option Value → Heap → List Loc → Prop) (rc rs : Nat) (o : Outcome) (U : State) : Prop := ∃ v L, o = .returned v ∧ QQ v U.heap L ∧ CHr Z EL s.vm s.heap U.vm U.heap ∧ ReturnedEndW s o U L rc rs
variable {Z : State} {EL : List (String × Nat)} {vm0 : Vm} {h0 : Heap}
theorem own_startW {tb : Tables} {g g' : JFrame} (hh : s.heap = h0) (q : g = g') (k : own_G tb e below (own_PW Z EL s QQ rc rs) (T.setTop g')) : ∃ s₂ o, Steps tb e below (T.setTop g) s₂ ∧ s₂.status = .running ∧ Ended s₂ below o ∧ ∃ v L, o = .returned v ∧ QQ v s₂.heap L ∧ CHr Z EL s.vm s.heap s₂.vm s₂.heap ∧ ReturnedEndW s o s₂ L rc rs := q ▸ k
theorem own_monoW {o : Outcome} {U : State} {L : List Loc} {k n k' n' : Nat} (h : ReturnedEndW s o U L k n) (hk : k ≤ k') (hn : n ≤ n') : ReturnedEndW s o U L k' n' := ⟨h.1, h.2.1, h.2.2.1, h.2.2.2.mono hk hn⟩
theorem own_retVW (X : Stand p l e R (s.setVm vm0) m args below meth c T locs cells slots) (hx : p.tables.exec = Jvm.exec) {pc : Nat} {Ls : Array Slot} (hret : meth.sig.returnType = none) (hlk : meth.locks = false) (hd : decode c.code pc = .ok (.return_, 1)) (hc : cells ≤ rc) (hs : slots ≤ rs) (eT : T.heap = h) {n : Nat} (hS : s.Since vm0 n) (hn : n ≤ h.size) (hR : CHr Z EL s.vm s.heap T.vm h) (hQ : QQ none h locs) :
    own_G p.tables e below (own_PW Z EL s QQ rc rs) (T.setTop (mkF m pc Ls [])) := by
  obtain ⟨fs, hr, hrun, hended, hW⟩ := X.leaveW hS (by rw [eT]; exact hn) (v := none) (fun _ => rfl) hlk
  exact ⟨_, _, X.returnOut hx hret hd hr, hrun, hended, _, _, rfl, (by show QQ _ T.heap _; rw [eT]; exact hQ), (by show CHr Z EL s.vm s.heap T.vm T.heap; rw [eT]; exact hR), own_monoW hW hc hs⟩
theorem own_retNW (X : Stand p l e R (s.setVm vm0) m args below meth c T locs cells slots) (hx : p.tables.exec = Jvm.exec) {pc : Nat} {Ls : Array Slot} {z : Int32} {t : FieldType} {rest : List Value} (hret : meth.sig.returnType = some t) (hlk : meth.locks = false) (ht : t = .boolean ∨ t = .byte ∨ t = .char ∨ t = .short) (hd : decode c.code pc = .ok (.ireturn, 1)) (hc : cells ≤ rc) (hs : slots ≤ rs) (eT : T.heap = h) {n : Nat} (hS : s.Since vm0 n) (hn : n ≤ h.size) (hR : CHr Z EL s.vm s.heap T.vm h) (hQ : QQ (some (.int (nar t z))) h locs) :
    own_G p.tables e below (own_PW Z EL s QQ rc rs) (T.setTop (mkF m pc Ls (.int z :: rest))) := by
  obtain ⟨fs, hr, hrun, hended, hW⟩ := X.leaveW hS (by rw [eT]; exact hn) (v := some (.int (nar t z))) (fun h => by rw [hret] at h; cases h) hlk
  exact ⟨_, _, retN X hx hret ht hd hr, hrun, hended, _, _, rfl, (by show QQ _ T.heap _; rw [eT]; exact hQ), (by show CHr Z EL s.vm s.heap T.vm T.heap; rw [eT]; exact hR), own_monoW hW hc hs⟩
theorem own_retAW (X : Stand p l e R (s.setVm vm0) m args below meth c T locs cells slots) (hx : p.tables.exec = Jvm.exec) {pc : Nat} {Ls : Array Slot} {w : Value} {t : FieldType} {rest : List Value} (hret : meth.sig.returnType = some t) (hlk : meth.locks = false) (ht : t.isReference = true) (hw : w.isRef = true) (hd : decode c.code pc = .ok (.areturn, 1)) (hc : cells ≤ rc) (hs : slots ≤ rs) (eT : T.heap = h) {n : Nat} (hS : s.Since vm0 n) (hn : n ≤ h.size) (hR : CHr Z EL s.vm s.heap T.vm h) (hQ : QQ (some w) h locs) :
    own_G p.tables e below (own_PW Z EL s QQ rc rs) (T.setTop (mkF m pc Ls (w :: rest))) := by
  obtain ⟨fs, hr, hrun, hended, hW⟩ := X.leaveW hS (by rw [eT]; exact hn) (v := some w) (fun h => by rw [hret] at h; cases h) hlk
  exact ⟨_, _, retOut X hx hret (own_narR hw) (Or.inr (Or.inr (Or.inr (Or.inr ⟨rfl, ht, hw⟩)))) hd hr, hrun, hended, _, _, rfl, (by show QQ _ T.heap _; rw [eT]; exact hQ), (by show CHr Z EL s.vm s.heap T.vm T.heap; rw [eT]; exact hR), own_monoW hW hc hs⟩
theorem own_safe0 {Z : State} {EL : List (String × Nat)} {vm : Vm} {h : Heap} {x : Addr} (hal : Z.vm.Alike vm) (E : Exa Z h x "java/lang/String") (F0 : Fld Z h x "java/lang/String" "value" "[B" .null) : Safe Z EL vm h x := fun B => by
  obtain ⟨p, hp, u, a, hb, q, hqa, F, rfl | rfl⟩ := B
  · obtain ⟨cS, ⟨⟨s1, s2, s3, ⟨cv, kv, iv, s4, s4'⟩, -, s6, -, s8, -⟩, -, -⟩, -⟩ := F
    obtain ⟨kv', z4⟩ := ff_back (U := Wst Z vm h) hal s4
    have G : Fld Z h q.sa "java/lang/String" "value" "[B" (.ref q.sd) := ⟨q.sC, cv, kv', iv, q.fSV, s1, z4, s6, s2, s3, by rw [← hal.assignable]; exact s4', s8⟩
    exact Fld.ne F0 G nofun rfl
  · obtain ⟨cell, k, e1, e2, e3, -, -⟩ := E
    have e4 : h[q.sd]? = some q.SA := F.hd
    cases e4.symm.trans e1
    obtain ⟨cS, -, -, f, -⟩ := F
    have f : vm.findClass "[B" = some q.SA.cls := f
    rw [hal.findClass] at f
    obtain ⟨k1, q1, q2⟩ := Vm.findClass_spec f
    obtain ⟨k2, q3, q4⟩ := Vm.findClass_spec e2
    cases q1.symm.trans q3
    have := q2.symm.trans q4
    exact absurd this (by decide)
theorem own_nar0 : nar .boolean (0 : Int32) = (0 : Int32) := rfl
theorem own_nar1 : nar .boolean (1 : Int32) = (1 : Int32) := rfl
theorem own_nar1s : some (Value.int (nar .boolean (1 : Int32))) = some (Value.int (1 : Int32)) := rfl
end New
end Jvm.RoadKit
/- laws to paste: Road.backV, Road.eqW (cut by pick.py; bodies as the Statement names them) -/
namespace Jvm.Pilot.@@N@@
namespace StrChars
open Jvm Sem ClassFile Op Lib Jvm.Stand Jvm.Free.XT Jvm.Free.ALB Jvm.Free.JM Jvm.Free
open Jvm.Lib.Cold (StaticIs)
/-- a char array whose places are chars -/
def Ch (a : Addr) (A : Cell) (U : State) : Prop := Arr .char a A U ∧ Typed .char A
theorem Ch.mv {a : Addr} {A : Cell} {U U' : State} (h : Ch a A U) (hal : U.vm.Alike U'.vm) (hh : U'.heap = U.heap) : Ch a A U' := ⟨h.1.mv hal hh, h.2⟩
theorem Ch.keep {a : Addr} {A : Cell} {U U' : State} (h : Ch a A U) (hal : U.vm.Alike U'.vm) (hk : U'.heap[a]? = some A) : Ch a A U' := ⟨h.1.keep hal hk, h.2⟩
/-- what place i of a char[]'s cell holds -/
def cv (A : Cell) (i : Nat) : Int32 := match A.slots[i]? with | some (.int x) => x | _ => 0
theorem Ch.get {a : Addr} {A : Cell} {U : State} (h : Ch a A U) {i : Nat} (hi : i < A.slots.size) : A.slots[i]? = some (.int (cv A i)) := by
  have e := Array.getElem?_eq_getElem hi
  have f := h.2 i _ e
  unfold cv; rw [e]
  generalize A.slots[i] = v at f
  cases v <;> simp [fits] at f ⊢
/-- the byte that i2b leaves of a char -/
def lo8 (x : Int32) : Int32 := x.toInt8.toInt32
theorem fits_lo8 (y : Int32) : fits .byte (.int (lo8 y)) = true := by
  have h1 := y.toInt8.le_toInt
  have h2 := y.toInt8.toInt_lt
  simp only [lo8, fits, Bool.and_eq_true, decide_eq_true_eq, Int32.le_iff_toInt_le, Int8.toInt_toInt32, show (-128 : Int32).toInt = -128 from by decide, show (127 : Int32).toInt = 127 from by decide]
  omega
/-- A' is A but that each place j of lo .. hi - 1 holds f j -/
def Laid (A A' : Cell) (lo hi : Nat) (f : Nat → Value) : Prop := A'.cls = A.cls ∧ A'.vm = A.vm ∧ A'.slots.size = A.slots.size ∧ ∀ i, A'.slots[i]? = if lo ≤ i ∧ i < hi then some (f i) else A.slots[i]?
theorem Laid.zero (A : Cell) (lo : Nat) (f : Nat → Value) : Laid A A lo (lo + 0) f := ⟨rfl, rfl, rfl, fun i => by rw [if_neg (by omega)]⟩
theorem Laid.step {A Ak : Cell} {lo k : Nat} {f : Nat → Value} {v : Value} (h : Laid A Ak lo k f) (hlo : lo ≤ k) (hk : k < Ak.slots.size) (hv : v = f k) : Laid A (Ak.setSlot k v) lo (k + 1) f := by
  refine ⟨h.1, h.2.1, by simpa [Cell.setSlot] using h.2.2.1, fun i => ?_⟩
  by_cases e : k = i
  · subst e; rw [Cell.slots_setSlot_self v hk, if_pos (by omega), hv]
  · rw [Cell.slots_setSlot_ne v e, h.2.2.2 i]
    by_cases q : lo ≤ i ∧ i < k
    · rw [if_pos q, if_pos (by omega)]
    · rw [if_neg q, if_neg (by omega)]
def U16 : String := "java/lang/StringUTF16"
namespace Cmp5
def yN : MethodName := ⟨"java/lang/StringUTF16", "compress", "([CI[BII)I"⟩
abbrev yB : ByteArray := jdk_52_method_21_code
theorem d0 : decode yB 0 = .ok (.iconst 0, 1) := by decide +kernel
theorem d1 : decode yB 1 = .ok (.istore 5, 2) := by decide +kernel
theorem d3 : decode yB 3 = .ok (.iload 5, 2) := by decide +kernel
theorem d5 : decode yB 5 = .ok (.iload 4, 2) := by decide +kernel
theorem d7 : decode yB 7 = .ok (.if_icmp (.ge) 37, 3) := by decide +kernel
theorem d10 : decode yB 10 = .ok (.aload_n 0, 1) := by decide +kernel
theorem d11 : decode yB 11 = .ok (.iload_n 1, 1) := by decide +kernel
theorem d12 : decode yB 12 = .ok (.caload, 1) := by decide +kernel
theorem d13 : decode yB 13 = .ok (.istore 6, 2) := by decide +kernel
theorem d15 : decode yB 15 = .ok (.iload 6, 2) := by decide +kernel
theorem d17 : decode yB 17 = .ok (.sipush 255, 3) := by decide +kernel
theorem d20 : decode yB 20 = .ok (.if_icmp (.le) 6, 3) := by decide +kernel
theorem d26 : decode yB 26 = .ok (.aload_n 2, 1) := by decide +kernel
theorem d27 : decode yB 27 = .ok (.iload_n 3, 1) := by decide +kernel
theorem d28 : decode yB 28 = .ok (.iload 6, 2) := by decide +kernel
theorem d30 : decode yB 30 = .ok (.i2b, 1) := by decide +kernel
theorem d31 : decode yB 31 = .ok (.bastore, 1) := by decide +kernel
theorem d32 : decode yB 32 = .ok (.iinc 1 1, 3) := by decide +kernel
theorem d35 : decode yB 35 = .ok (.iinc 3 1, 3) := by decide +kernel
theorem d38 : decode yB 38 = .ok (.iinc 5 1, 3) := by decide +kernel
theorem d41 : decode yB 41 = .ok (.goto (-38), 3) := by decide +kernel
theorem d44 : decode yB 44 = .ok (.iload 4, 2) := by decide +kernel
theorem d46 : decode yB 46 = .ok (.ireturn, 1) := by decide +kernel
def site : List Cond := []
def tab : Cond := tabOf yN yB 7 (some .int) site
def P (b : Addr) (A : Cell) (d : Addr) (B : Cell) (o q len : Nat) (args : Array Value) (s : State) : Prop := args = #[.ref b, .int (Int32.ofNat o), .ref d, .int (Int32.ofNat q), .int (Int32.ofNat len)] ∧ Ch b A s ∧ Arr .byte d B s ∧ b ≠ d ∧ o + len ≤ A.slots.size ∧ q + len ≤ B.slots.size ∧ ∀ i, i < len → ¬ 255 < cv A (o + i)
def E (b : Addr) (A : Cell) (d : Addr) (B : Cell) (o q len : Nat) (r : Option Value) (s u : State) : Prop := r = some (.int (Int32.ofNat len)) ∧ ∃ B', Put d B' s u ∧ Laid B B' q (q + len) (fun j => Value.int (lo8 (cv A (o + (j - q)))))
/-- no char of the range above 255: len; the places written hold each char's low byte -/
theorem law (l : Launch) (b : Addr) (A : Cell) (d : Addr) (B : Cell) (o q len : Nat) : Law l yN 5 5 0 0 yB 7 (some .int) site (P b A d B o q len) (E b A d B o q len) (copyLocs d q len) 0 0 := by
  refine Law.of_walk (plainFor_of_name (by decide +kernel)) (by decide +kernel) (by decide +kernel) (by decide) (fun _ _ h => by rw [h.1]; rfl) (fun _ U U' hal hh h => ⟨h.1, h.2.1.mv hal hh, h.2.2.1.mv hal hh, h.2.2.2⟩) (fun r U U' V V' h1 hal h2 h => ⟨h.1, h.2.elim fun B' q => ⟨B', q.1.mv h1 h2, q.2⟩⟩) ?_
  intro p e s m args below meth c s₁ X0 hexec hbytes hml hret hlk hnm hown hh0 W hP
  obtain ⟨rfl, hA, hB, hne, l1, l2, hp⟩ := hP
  have c1 : Steps p.tables e below (s₁.setTop (entryFrame m #[.ref b, .int (Int32.ofNat o), .ref d, .int (Int32.ofNat q), .int (Int32.ofNat len)] 7)) (s₁.setTop (mkF m 0 #[.val (.ref b), .val (.int (Int32.ofNat o)), .val (.ref d), .val (.int (Int32.ofNat q)), .val (.int (Int32.ofNat len)), .unset, .unset] [])) := entry rfl
  have hA0 := hA.1.mv X0.warmed.alike hh0
  have hB0 := hB.mv X0.warmed.alike hh0
  have a31 := hA.1.2.2.2
  have c2 : Steps p.tables e below (s₁.setTop (entryFrame m #[.ref b, .int (Int32.ofNat o), .ref d, .int (Int32.ofNat q), .int (Int32.ofNat len)] 7)) (s₁.setTop (mkF m 3 #[.val (.ref b), .val (.int (Int32.ofNat o)), .val (.ref d), .val (.int (Int32.ofNat q)), .val (.int (Int32.ofNat len)), .val (.int 0), .unset] [])) := c1.trans (by
    refine iconstV X0.here hexec rfl 0 (hb hbytes d0) (by decide) ?_
    refine XS.istore X0.here hexec rfl (hb hbytes d1) rfl rfl ?_
    exact Steps.refl _)
  have loop : ∀ (r i : Nat), i + r = len → ∀ (z : Slot), (z = .unset ∨ ∃ w, z = .val w ∧ w.category = 1) → ∀ (Tl : State) (Bk : Cell), Stand p l e { frames := 0, locals := 0, cells := 0, slots := 0 } s m #[.ref b, .int (Int32.ofNat o), .ref d, .int (Int32.ofNat q), .int (Int32.ofNat len)] below meth c Tl ([] ++ copyLocs d q i) 0 0 → Put d Bk s₁ Tl → Laid B Bk q (q + i) (fun j => Value.int (lo8 (cv A (o + (j - q))))) →
      Steps p.tables e below (s₁.setTop (entryFrame m #[.ref b, .int (Int32.ofNat o), .ref d, .int (Int32.ofNat q), .int (Int32.ofNat len)] 7)) (Tl.setTop (mkF m 3 #[.val (.ref b), .val (.int (Int32.ofNat (o + i))), .val (.ref d), .val (.int (Int32.ofNat (q + i))), .val (.int (Int32.ofNat len)), .val (.int (Int32.ofNat i)), z] [])) → ∃ (T' : State) (B' : Cell) (z' : Slot), Stand p l e { frames := 0, locals := 0, cells := 0, slots := 0 } s m #[.ref b, .int (Int32.ofNat o), .ref d, .int (Int32.ofNat q), .int (Int32.ofNat len)] below meth c T' ([] ++ copyLocs d q len) 0 0 ∧ Put d B' s₁ T' ∧ Laid B B' q (q + len) (fun j => Value.int (lo8 (cv A (o + (j - q))))) ∧
      Steps p.tables e below (s₁.setTop (entryFrame m #[.ref b, .int (Int32.ofNat o), .ref d, .int (Int32.ofNat q), .int (Int32.ofNat len)] 7)) (T'.setTop (mkF m 3 #[.val (.ref b), .val (.int (Int32.ofNat (o + len))), .val (.ref d), .val (.int (Int32.ofNat (q + len))), .val (.int (Int32.ofNat len)), .val (.int (Int32.ofNat len)), z'] [])) := by
    intro r
    induction r with
    | zero =>
      intro i hi z hz Tl Bk Xl pl fl cl
      have hil : i = len := by omega
      rw [hil] at Xl fl cl
      exact ⟨Tl, Bk, z, Xl, pl, fl, cl⟩
    | succ r ih =>
      intro i hi z hz Tl Bk Xl pl fl cl
      have all := X0.warmed.alike.symm.trans Xl.warmed.alike
      have hAl := hA0.keep all (pl.other hne hA0.1)
      have hBk := hB0.like all pl.1 fl.1 fl.2.1 fl.2.2.1
      have hlt : q + i < Bk.slots.size := by rw [fl.2.2.1]; omega
      have c3 : Steps p.tables e below (s₁.setTop (entryFrame m #[.ref b, .int (Int32.ofNat o), .ref d, .int (Int32.ofNat q), .int (Int32.ofNat len)] 7)) (Tl.setTop (mkF m 12 #[.val (.ref b), .val (.int (Int32.ofNat (o + i))), .val (.ref d), .val (.int (Int32.ofNat (q + i))), .val (.int (Int32.ofNat len)), .val (.int (Int32.ofNat i)), z] [.int (Int32.ofNat (o + i)), .ref b])) := cl.trans (by
        refine XS.iload Xl.here hexec rfl (hb hbytes d3) rfl ?_
        refine XS.iload Xl.here hexec rfl (hb hbytes d5) rfl ?_
        refine XS.icmpNo Xl.here hexec rfl (hb hbytes d7) rfl (ii_ge_f (lt32 (by omega) (by omega))) ?_
        refine XS.aloadN Xl.here hexec rfl (hb hbytes d10) rfl rfl ?_
        refine XS.iloadN Xl.here hexec rfl (hb hbytes d11) rfl ?_
        exact Steps.refl _)
      have c4 : Steps p.tables e below (s₁.setTop (entryFrame m #[.ref b, .int (Int32.ofNat o), .ref d, .int (Int32.ofNat q), .int (Int32.ofNat len)] 7)) (Tl.setTop (mkF m 13 #[.val (.ref b), .val (.int (Int32.ofNat (o + i))), .val (.ref d), .val (.int (Int32.ofNat (q + i))), .val (.int (Int32.ofNat len)), .val (.int (Int32.ofNat i)), z] [.int (cv A (o + i))])) := c3.trans (by
        refine Xl.aget hexec hAl rfl (hA.get (i := o + i) (by omega)) rfl rfl (hb hbytes d12) ?_
        exact Steps.refl _)
      have c5 : Steps p.tables e below (s₁.setTop (entryFrame m #[.ref b, .int (Int32.ofNat o), .ref d, .int (Int32.ofNat q), .int (Int32.ofNat len)] 7)) (Tl.setTop (mkF m 15 #[.val (.ref b), .val (.int (Int32.ofNat (o + i))), .val (.ref d), .val (.int (Int32.ofNat (q + i))), .val (.int (Int32.ofNat len)), .val (.int (Int32.ofNat i)), .val (.int (cv A (o + i)))] [])) := c4.trans (by
        refine XS.istoreS Xl.here hexec rfl (hb hbytes d13) rfl rfl hz ?_
        exact Steps.refl _)
      have c6 : Steps p.tables e below (s₁.setTop (entryFrame m #[.ref b, .int (Int32.ofNat o), .ref d, .int (Int32.ofNat q), .int (Int32.ofNat len)] 7)) (Tl.setTop (mkF m 31 #[.val (.ref b), .val (.int (Int32.ofNat (o + i))), .val (.ref d), .val (.int (Int32.ofNat (q + i))), .val (.int (Int32.ofNat len)), .val (.int (Int32.ofNat i)), .val (.int (cv A (o + i)))] [.int (lo8 (cv A (o + i))), .int (Int32.ofNat (q + i)), .ref d])) := c5.trans (by
        refine XS.iload Xl.here hexec rfl (hb hbytes d15) rfl ?_
        refine sipushV Xl.here hexec rfl 255 (hb hbytes d17) (by decide) ?_
        refine XS.icmpYes Xl.here hexec rfl (pc0 := 20) rfl (hb hbytes d20) rfl (ii_le_t (hp i (by omega))) (by decide) rfl ?_
        refine XS.aloadN Xl.here hexec rfl (hb hbytes d26) rfl rfl ?_
        refine XS.iloadN Xl.here hexec rfl (hb hbytes d27) rfl ?_
        refine XS.iload Xl.here hexec rfl (hb hbytes d28) rfl ?_
        refine i2b Xl.here hexec rfl (hb hbytes d30) rfl ?_
        exact Steps.refl _)
      obtain ⟨T7, X7, p7, st7⟩ := Xl.aput hexec hBk rfl hlt rfl (fits_lo8 (cv A (o + i))) (g := (mkF m 31 #[.val (.ref b), .val (.int (Int32.ofNat (o + i))), .val (.ref d), .val (.int (Int32.ofNat (q + i))), .val (.int (Int32.ofNat len)), .val (.int (Int32.ofNat i)), .val (.int (cv A (o + i)))] [.int (lo8 (cv A (o + i))), .int (Int32.ofNat (q + i)), .ref d])) rfl (rest := []) rfl (hb hbytes d31)
      have c8 : Steps p.tables e below (s₁.setTop (entryFrame m #[.ref b, .int (Int32.ofNat o), .ref d, .int (Int32.ofNat q), .int (Int32.ofNat len)] 7)) (T7.setTop (mkF m 32 #[.val (.ref b), .val (.int (Int32.ofNat (o + i))), .val (.ref d), .val (.int (Int32.ofNat (q + i))), .val (.int (Int32.ofNat len)), .val (.int (Int32.ofNat i)), .val (.int (cv A (o + i)))] [])) := c6.trans (st7 _ (Steps.refl _))
      have c9 : Steps p.tables e below (s₁.setTop (entryFrame m #[.ref b, .int (Int32.ofNat o), .ref d, .int (Int32.ofNat q), .int (Int32.ofNat len)] 7)) (T7.setTop (mkF m 3 #[.val (.ref b), .val (.int (Int32.ofNat (o + i) + 1)), .val (.ref d), .val (.int (Int32.ofNat (q + i) + 1)), .val (.int (Int32.ofNat len)), .val (.int (Int32.ofNat i + 1)), .val (.int (cv A (o + i)))] [])) := c8.trans (by
        refine iincV X7.here hexec rfl 1 (hb hbytes d32) (by decide) rfl rfl ?_
        refine iincV X7.here hexec rfl 1 (hb hbytes d35) (by decide) rfl rfl ?_
        refine iincV X7.here hexec rfl 1 (hb hbytes d38) (by decide) rfl rfl ?_
        refine XS.goto X7.here hexec rfl (pc0 := 41) rfl (hb hbytes d41) (by decide) rfl ?_
        exact Steps.refl _)
      have c10 : Steps p.tables e below (s₁.setTop (entryFrame m #[.ref b, .int (Int32.ofNat o), .ref d, .int (Int32.ofNat q), .int (Int32.ofNat len)] 7)) (T7.setTop (mkF m 3 #[.val (.ref b), .val (.int (Int32.ofNat (o + (i + 1)))), .val (.ref d), .val (.int (Int32.ofNat (q + (i + 1)))), .val (.int (Int32.ofNat len)), .val (.int (Int32.ofNat (i + 1))), .val (.int (cv A (o + i)))] [])) := by
        have := c9
        rw [succ32, succ32, succ32] at this
        exact this
      exact ih (i + 1) (by omega) _ (Or.inr ⟨_, rfl, rfl⟩) T7 _ (by rw [copyLocs_step, ← List.append_assoc]; exact X7) (pl.trans p7) (fl.step (by omega) hlt (by simp)) c10
  obtain ⟨T9, B9, z9, X9, p9, f9, g9⟩ := loop len 0 (by omega) .unset (Or.inl rfl) s₁ B (by simpa [copyLocs] using X0) ⟨hB0.1, fun _ _ => rfl, rfl⟩ (Laid.zero _ _ _) c2
  have c11 : Steps p.tables e below (s₁.setTop (entryFrame m #[.ref b, .int (Int32.ofNat o), .ref d, .int (Int32.ofNat q), .int (Int32.ofNat len)] 7)) (T9.setTop (mkF m 46 #[.val (.ref b), .val (.int (Int32.ofNat (o + len))), .val (.ref d), .val (.int (Int32.ofNat (q + len))), .val (.int (Int32.ofNat len)), .val (.int (Int32.ofNat len)), z9] [.int (Int32.ofNat len)])) := g9.trans (by
    refine XS.iload X9.here hexec rfl (hb hbytes d3) rfl ?_
    refine XS.iload X9.here hexec rfl (hb hbytes d5) rfl ?_
    refine XS.icmpYes X9.here hexec rfl (pc0 := 7) rfl (hb hbytes d7) rfl (ii_ge_t (nlt32 (by omega) (Nat.le_refl _))) (by decide) rfl ?_
    refine XS.iload X9.here hexec rfl (hb hbytes d44) rfl ?_
    exact Steps.refl _)
  exact ⟨T9, some (.int (Int32.ofNat len)), _, _, _, X9, by simp, rfl, rfl, (fun h => by cases h), ⟨rfl, B9, p9.from hh0, f9⟩, fun fs hl => c11.trans (X9.ireturnOut hexec hret rfl (Or.inl rfl) (hb hbytes d46) hl)⟩
end Cmp5
namespace Cmp3
def yN : MethodName := ⟨"java/lang/StringUTF16", "compress", "([CII)[B"⟩
abbrev yB : ByteArray := jdk_52_method_16_code
theorem d0 : decode yB 0 = .ok (.iload_n 2, 1) := by decide +kernel
theorem d1 : decode yB 1 = .ok (.newarray .byte, 2) := by decide +kernel
theorem d3 : decode yB 3 = .ok (.astore_n 3, 1) := by decide +kernel
theorem d4 : decode yB 4 = .ok (.aload_n 0, 1) := by decide +kernel
theorem d5 : decode yB 5 = .ok (.iload_n 1, 1) := by decide +kernel
theorem d6 : decode yB 6 = .ok (.aload_n 3, 1) := by decide +kernel
theorem d7 : decode yB 7 = .ok (.iconst 0, 1) := by decide +kernel
theorem d8 : decode yB 8 = .ok (.iload_n 2, 1) := by decide +kernel
theorem d9 : decode yB 9 = .ok (.invokestatic 115, 3) := by decide +kernel
theorem d12 : decode yB 12 = .ok (.istore 4, 2) := by decide +kernel
theorem d14 : decode yB 14 = .ok (.iload 4, 2) := by decide +kernel
theorem d16 : decode yB 16 = .ok (.iload_n 2, 1) := by decide +kernel
theorem d17 : decode yB 17 = .ok (.if_icmp (.eq) 40, 3) := by decide +kernel
theorem d57 : decode yB 57 = .ok (.aload_n 3, 1) := by decide +kernel
theorem d58 : decode yB 58 = .ok (.areturn, 1) := by decide +kernel
def site : List Cond := [.arrayClass .byte, Cmp5.tab] ++ staticW U16 115 Cmp5.yN
def tab : Cond := tabOf yN yB 6 (some (.array .byte)) site
def P (b : Addr) (A : Cell) (o len : Nat) (args : Array Value) (s : State) : Prop := args = #[.ref b, .int (Int32.ofNat o), .int (Int32.ofNat len)] ∧ Ch b A s ∧ o + len ≤ A.slots.size ∧ len ≤ 536870912 ∧ ∀ i, i < len → ¬ 255 < cv A (o + i)
def E (b : Addr) (A : Cell) (o len : Nat) (r : Option Value) (s u : State) : Prop := NewArr .byte "[B" len (fun j => .int (lo8 (cv A (o + j)))) r s u ∧ u.heap.size = s.heap.size + 1
/-- no char of the range above 255: a new byte[] of their low bytes -/
theorem law (l : Launch) (b : Addr) (A : Cell) (o len : Nat) : Law l yN 3 3 1 18 yB 6 (some (.array .byte)) site (P b A o len) (E b A o len) [] 1 len := by
  refine Law.of_walk (plainFor_of_name (by decide +kernel)) (by decide +kernel) (by decide +kernel) (by decide) (fun _ _ h => by rw [h.1]; rfl) (fun _ U U' hal hh h => ⟨h.1, h.2.1.mv hal hh, h.2.2⟩) (fun r U U' V V' h1 hal h2 h => ⟨NewArr.mv r U U' V V' h1 hal h2 h.1, by rw [h1, h2]; exact h.2⟩) ?_
  intro p e s m args below meth c s₁ X0 hexec hbytes hml hret hlk hnm hown hh0 W hP
  obtain ⟨rfl, hA, l1, l2, hp⟩ := hP
  have a31 := hA.1.2.2.2
  have c1 : Steps p.tables e below (s₁.setTop (entryFrame m #[.ref b, .int (Int32.ofNat o), .int (Int32.ofNat len)] 6)) (s₁.setTop (mkF m 0 #[.val (.ref b), .val (.int (Int32.ofNat o)), .val (.int (Int32.ofNat len)), .unset, .unset, .unset] [])) := entry rfl
  have c2 : Steps p.tables e below (s₁.setTop (entryFrame m #[.ref b, .int (Int32.ofNat o), .int (Int32.ofNat len)] 6)) (s₁.setTop (mkF m 1 #[.val (.ref b), .val (.int (Int32.ofNat o)), .val (.int (Int32.ofNat len)), .unset, .unset, .unset] [.int (Int32.ofNat len)])) := c1.trans (by
    refine XS.iloadN X0.here hexec rfl (hb hbytes d0) rfl ?_
    exact Steps.refl _)
  obtain ⟨T3, B3, X3, ba3, bs3, bv3, bh3, bf3, st3⟩ := X0.anew hexec (atype := .byte) (wk W (.arrayClass .byte)) rfl (by show len * 1 ≤ _; omega) (by omega) (g := (mkF m 1 #[.val (.ref b), .val (.int (Int32.ofNat o)), .val (.int (Int32.ofNat len)), .unset, .unset, .unset] [.int (Int32.ofNat len)])) rfl (hb hbytes d1) (rest := []) rfl (Nat.le_refl _) (by show 0 + len ≤ len; omega)
  rw [hh0] at ba3 st3
  have kp3 : XT.Kept s T3 := (XT.Kept.of_eq hh0).push bh3
  have hA3 := hA.keep X3.warmed.alike (kp3 _ _ hA.1.1)
  have hne : b ≠ s.heap.size := hA.1.ne
  have c4 : Steps p.tables e below (s₁.setTop (entryFrame m #[.ref b, .int (Int32.ofNat o), .int (Int32.ofNat len)] 6)) (T3.setTop (mkF m 3 #[.val (.ref b), .val (.int (Int32.ofNat o)), .val (.int (Int32.ofNat len)), .unset, .unset, .unset] [.ref s.heap.size])) := c2.trans (st3 _ (Steps.refl _))
  have c5 : Steps p.tables e below (s₁.setTop (entryFrame m #[.ref b, .int (Int32.ofNat o), .int (Int32.ofNat len)] 6)) (T3.setTop (mkF m 9 #[.val (.ref b), .val (.int (Int32.ofNat o)), .val (.int (Int32.ofNat len)), .val (.ref s.heap.size), .unset, .unset] [.int (Int32.ofNat len), .int 0, .ref s.heap.size, .int (Int32.ofNat o), .ref b])) := c4.trans (by
    refine XS.astoreN X3.here hexec rfl (hb hbytes d3) rfl rfl rfl ?_
    refine XS.aloadN X3.here hexec rfl (hb hbytes d4) rfl rfl ?_
    refine XS.iloadN X3.here hexec rfl (hb hbytes d5) rfl ?_
    refine XS.aloadN X3.here hexec rfl (hb hbytes d6) rfl rfl ?_
    refine iconstV X3.here hexec rfl 0 (hb hbytes d7) (by decide) ?_
    refine XS.iloadN X3.here hexec rfl (hb hbytes d8) rfl ?_
    exact Steps.refl _)
  obtain ⟨v6, T6, X6, E6, g6⟩ := X3.callS hexec (Cmp5.law l b A s.heap.size B3 o 0 len) hown (wks W (staticW U16 115 Cmp5.yN)) (wk W Cmp5.tab) (W := 0) (Nat.le_of_ble_eq_true rfl) (Nat.le_of_ble_eq_true rfl) (Nat.le_refl _) (by show 0 + len + 0 ≤ len; omega) (g := (mkF m 9 #[.val (.ref b), .val (.int (Int32.ofNat o)), .val (.int (Int32.ofNat len)), .val (.ref s.heap.size), .unset, .unset] [.int (Int32.ofNat len), .int (Int32.ofNat 0), .ref s.heap.size, .int (Int32.ofNat o), .ref b])) rfl (by rw [hml]; rfl) c5 (argsL := [.ref b, .int (Int32.ofNat o), .ref s.heap.size, .int (Int32.ofNat 0), .int (Int32.ofNat len)]) (rest := []) rfl rfl (by show 2 * 0 + 0 ≤ _; decide) (hb hbytes d9) (⟨rfl, hA3, ba3, hne, l1, by rw [bs3]; simp, hp⟩)
  obtain ⟨rfl, B6, p6, f6⟩ := E6
  have c7 : Steps p.tables e below (s₁.setTop (entryFrame m #[.ref b, .int (Int32.ofNat o), .int (Int32.ofNat len)] 6)) (T6.setTop (mkF m 12 #[.val (.ref b), .val (.int (Int32.ofNat o)), .val (.int (Int32.ofNat len)), .val (.ref s.heap.size), .unset, .unset] [.int (Int32.ofNat len)])) := g6
  have c8 : Steps p.tables e below (s₁.setTop (entryFrame m #[.ref b, .int (Int32.ofNat o), .int (Int32.ofNat len)] 6)) (T6.setTop (mkF m 58 #[.val (.ref b), .val (.int (Int32.ofNat o)), .val (.int (Int32.ofNat len)), .val (.ref s.heap.size), .val (.int (Int32.ofNat len)), .unset] [.ref s.heap.size])) := c7.trans (by
    refine XS.istore X6.here hexec rfl (hb hbytes d12) rfl rfl ?_
    refine XS.iload X6.here hexec rfl (hb hbytes d14) rfl ?_
    refine XS.iloadN X6.here hexec rfl (hb hbytes d16) rfl ?_
    refine XS.icmpYes X6.here hexec rfl (pc0 := 17) rfl (hb hbytes d17) rfl (ii_eq_t rfl) (by decide) rfl ?_
    refine XS.aloadN X6.here hexec rfl (hb hbytes d57) rfl rfl ?_
    exact Steps.refl _)
  have X8 := X6.wide (L' := []) (cells' := 1) (slots' := len) (fun x hx hlt => by
    simp only [List.nil_append, copyLocs, List.mem_map, List.mem_range] at hx
    obtain ⟨i, -, rfl⟩ := hx
    exact absurd hlt (Nat.lt_irrefl _)) (Nat.le_refl _) (by omega)
  exact ⟨T6, some (.ref s.heap.size), _, _, _, X8, rfl, rfl, rfl, (fun h => by cases h), ⟨⟨rfl, B6, ba3.like (X3.warmed.alike.symm.trans X6.warmed.alike) p6.1 f6.1 f6.2.1 f6.2.2.1, f6.2.1.trans bv3, by rw [X6.warmed.alike.findClass, f6.1]; exact bf3, by rw [f6.2.2.1, bs3]; simp, fun j hj => by rw [f6.2.2.2 j, if_pos (by omega)]; rfl, kp3.put p6 (Nat.le_refl _)⟩, by rw [p6.2.2, bh3, hh0]; simp⟩, fun fs hl => c8.trans (X8.areturnOut hexec rfl hret rfl (hb hbytes d58) hl)⟩
end Cmp3
namespace CodL
def yN : MethodName := ⟨"java/lang/StringUTF16", "coderFromArrayLen", "([BI)B"⟩
abbrev yB : ByteArray := jdk_52_method_15_code
theorem d0 : decode yB 0 = .ok (.iload_n 1, 1) := by decide +kernel
theorem d1 : decode yB 1 = .ok (.aload_n 0, 1) := by decide +kernel
theorem d2 : decode yB 2 = .ok (.arraylength, 1) := by decide +kernel
theorem d3 : decode yB 3 = .ok (.isub, 1) := by decide +kernel
theorem d4 : decode yB 4 = .ok (.bipush 31, 2) := by decide +kernel
theorem d6 : decode yB 6 = .ok (.iushr, 1) := by decide +kernel
theorem d7 : decode yB 7 = .ok (.i2b, 1) := by decide +kernel
theorem d8 : decode yB 8 = .ok (.ireturn, 1) := by decide +kernel
def site : List Cond := []
def tab : Cond := tabOf yN yB 2 (some .byte) site
def P (d : Addr) (B : Cell) (args : Array Value) (s : State) : Prop := args = #[.ref d, .int (Int32.ofNat B.slots.size)] ∧ Arr .byte d B s
def E (r : Option Value) (s u : State) : Prop := XT.PureE (some (.int 0)) r s u
/-- an array as long as the number of chars: LATIN1 -/
theorem law (l : Launch) (d : Addr) (B : Cell) : Law l yN 2 2 0 0 yB 2 (some .byte) site (P d B) E [] 0 0 := by
  refine Law.of_walk (plainFor_of_name (by decide +kernel)) (by decide +kernel) (by decide +kernel) (by decide) (fun _ _ h => by rw [h.1]; rfl) (fun _ U U' hal hh h => ⟨h.1, h.2.mv hal hh⟩) (fun r U U' V V' h1 hal h2 h => XT.PureE.mv r U U' V V' h1 hal h2 h) ?_
  intro p e s m args below meth c s₁ X0 hexec hbytes hml hret hlk hnm hown hh0 W hP
  obtain ⟨rfl, hB⟩ := hP
  have hB0 := hB.mv X0.warmed.alike hh0
  have c1 : Steps p.tables e below (s₁.setTop (entryFrame m #[.ref d, .int (Int32.ofNat B.slots.size)] 2)) (s₁.setTop (mkF m 0 #[.val (.ref d), .val (.int (Int32.ofNat B.slots.size))] [])) := entry rfl
  have c2 : Steps p.tables e below (s₁.setTop (entryFrame m #[.ref d, .int (Int32.ofNat B.slots.size)] 2)) (s₁.setTop (mkF m 2 #[.val (.ref d), .val (.int (Int32.ofNat B.slots.size))] [.ref d, .int (Int32.ofNat B.slots.size)])) := c1.trans (by
    refine XS.iloadN X0.here hexec rfl (hb hbytes d0) rfl ?_
    refine XS.aloadN X0.here hexec rfl (hb hbytes d1) rfl rfl ?_
    exact Steps.refl _)
  have c3 : Steps p.tables e below (s₁.setTop (entryFrame m #[.ref d, .int (Int32.ofNat B.slots.size)] 2)) (s₁.setTop (mkF m 8 #[.val (.ref d), .val (.int (Int32.ofNat B.slots.size))] [.int (lo8 (ushr (Int32.ofNat B.slots.size - Int32.ofNat B.slots.size) 31))])) := c2.trans (by
    refine X0.alen hexec hB0 rfl rfl (hb hbytes d2) ?_
    refine XS.isub X0.here hexec rfl (hb hbytes d3) rfl ?_
    refine bipushV X0.here hexec rfl 31 (hb hbytes d4) (by decide) ?_
    refine iushr X0.here hexec rfl (hb hbytes d6) rfl ?_
    refine i2b X0.here hexec rfl (hb hbytes d7) rfl ?_
    exact Steps.refl _)
  have e0 : lo8 (ushr (Int32.ofNat B.slots.size - Int32.ofNat B.slots.size) 31) = 0 := by rw [Int32.sub_self]; decide
  rw [e0] at c3
  exact ⟨s₁, some (.int 0), _, _, _, X0, rfl, rfl, rfl, (fun h => by cases h), ⟨rfl, hh0⟩, fun fs hl => c3.trans (X0.ireturnOut hexec hret rfl (Or.inr (Or.inr (Or.inl rfl))) (hb hbytes d8) hl)⟩
end CodL
/-- the String at a is Latin-1 over a new byte[] (the heap's one new cell): the low bytes of the len chars of A from o on; every cell but a is kept -/
def Got (a : Addr) (D : Cell) (fV fC : Field) (A : Cell) (o len : Nat) (r : Option Value) (s u : State) : Prop := r = none ∧ ∃ D' V : Cell, Blank "java/lang/String" a D' u ∧ Same D D' [fV.slot, fC.slot] ∧ D'.slots[fV.slot]? = some (.ref s.heap.size) ∧ D'.slots[fC.slot]? = some (.int 0) ∧ Arr .byte s.heap.size V u ∧ V.vm = .none ∧ u.vm.findClass "[B" = some V.cls ∧ V.slots.size = len ∧ (∀ j, j < len → V.slots[j]? = some (.int (lo8 (cv A (o + j))))) ∧ (∀ (y : Addr) (c : Cell), y ≠ a → s.heap[y]? = some c → u.heap[y]? = some c) ∧ u.heap.size = s.heap.size + 1
theorem Got.mv {a : Addr} {D A : Cell} {fV fC : Field} {o len : Nat} : ∀ r (U U' V V' : State), U'.heap = U.heap → V.vm.Alike V'.vm → V'.heap = V.heap → Got a D fV fC A o len r U V → Got a D fV fC A o len r U' V' :=
  fun r U U' V V' h1 hal h2 ⟨e0, D', X, a1, a2, a3, a4, a5, a6, a7, a8, a9, a10, a11⟩ => ⟨e0, D', X, a1.mv hal h2, a2, by rw [h1]; exact a3, a4, by rw [h1]; exact a5.mv hal h2, a6, by rw [hal.findClass]; exact a7, a8, a9, by rw [h1, h2]; exact a10, by rw [h1, h2]; exact a11⟩
namespace New4
def yN : MethodName := ⟨"java/lang/String", "<init>", "([CIILjava/lang/Void;)V"⟩
abbrev yB : ByteArray := jdk_42_method_149_code
theorem d0 : decode yB 0 = .ok (.aload_n 0, 1) := by decide +kernel
theorem d1 : decode yB 1 = .ok (.invokespecial 1, 3) := by decide +kernel
theorem d4 : decode yB 4 = .ok (.iload_n 3, 1) := by decide +kernel
theorem d5 : decode yB 5 = .ok (.ifCond (.ne) 22, 3) := by decide +kernel
theorem d27 : decode yB 27 = .ok (.getstatic 38, 3) := by decide +kernel
theorem d30 : decode yB 30 = .ok (.ifCond (.eq) 28, 3) := by decide +kernel
theorem d33 : decode yB 33 = .ok (.aload_n 1, 1) := by decide +kernel
theorem d34 : decode yB 34 = .ok (.iload_n 2, 1) := by decide +kernel
theorem d35 : decode yB 35 = .ok (.iload_n 3, 1) := by decide +kernel
theorem d36 : decode yB 36 = .ok (.invokestatic 177, 3) := by decide +kernel
theorem d39 : decode yB 39 = .ok (.astore 5, 2) := by decide +kernel
theorem d41 : decode yB 41 = .ok (.aload_n 0, 1) := by decide +kernel
theorem d42 : decode yB 42 = .ok (.aload 5, 2) := by decide +kernel
theorem d44 : decode yB 44 = .ok (.iload_n 3, 1) := by decide +kernel
theorem d45 : decode yB 45 = .ok (.invokestatic 47, 3) := by decide +kernel
theorem d48 : decode yB 48 = .ok (.putfield 15, 3) := by decide +kernel
theorem d51 : decode yB 51 = .ok (.aload_n 0, 1) := by decide +kernel
theorem d52 : decode yB 52 = .ok (.aload 5, 2) := by decide +kernel
theorem d54 : decode yB 54 = .ok (.putfield 9, 3) := by decide +kernel
theorem d57 : decode yB 57 = .ok (.return_, 1) := by decide +kernel
def site : List Cond := [.fieldLink "java/lang/String" 38 "java/lang/String" "COMPACT_STRINGS" "Z", Cmp3.tab, CodL.tab, .laysFinal "java/lang/String" "java/lang/String" "value" "[B", .fieldLink "java/lang/String" 9 "java/lang/String" "value" "[B", .laysFinal "java/lang/String" "java/lang/String" "coder" "B", .fieldLink "java/lang/String" 15 "java/lang/String" "coder" "B"] ++ objW "java/lang/String" 1 ++ staticW "java/lang/String" 177 Cmp3.yN ++ staticW "java/lang/String" 47 CodL.yN
def tab : Cond := tabOf yN yB 6 none site
def P (a : Addr) (D : Cell) (fV fC : Field) (b : Addr) (A : Cell) (z : Int32) (o len : Nat) (args : Array Value) (s : State) : Prop := args = #[.ref a, .ref b, .int (Int32.ofNat o), .int (Int32.ofNat len), .null] ∧ Blank "java/lang/String" a D s ∧ Found "java/lang/String" "value" "[B" fV s ∧ Found "java/lang/String" "coder" "B" fC s ∧ Ch b A s ∧ StaticIs s "java/lang/String" "COMPACT_STRINGS" "Z" (.int z) ∧ ¬ z = 0 ∧ 0 < len ∧ o + len ≤ A.slots.size ∧ len ≤ 536870912 ∧ ∀ i, i < len → ¬ 255 < cv A (o + i)
def E (a : Addr) (D : Cell) (fV fC : Field) (A : Cell) (o len : Nat) (r : Option Value) (s u : State) : Prop := Got a D fV fC A o len r s u
/-- len > 0, no char of the range above 255: a Latin-1 String of their low bytes -/
theorem law (l : Launch) (a : Addr) (D : Cell) (fV fC : Field) (b : Addr) (A : Cell) (z : Int32) (o len : Nat) : Law l yN 5 4 2 35 yB 6 none site (P a D fV fC b A z o len) (E a D fV fC A o len) [⟨a, fC.slot⟩, ⟨a, fV.slot⟩] 1 len := by
  refine Law.of_walk (plainFor_of_name (by decide +kernel)) (by decide +kernel) (by decide +kernel) (by decide) (fun _ _ h => by rw [h.1]; rfl) (fun _ U U' hal hh h => ⟨h.1, h.2.1.mv hal hh, h.2.2.1.al hal, h.2.2.2.1.al hal, h.2.2.2.2.1.mv hal hh, h.2.2.2.2.2.1.there hal hh, h.2.2.2.2.2.2⟩) (fun r U U' V V' h1 hal h2 h => Got.mv r U U' V V' h1 hal h2 h) ?_
  intro p e s m args below meth c s₁ X0 hexec hbytes hml hret hlk hnm hown hh0 W hP
  obtain ⟨rfl, hB, f1, f2, hA, s1, hz, l0, l1, l2, hp⟩ := hP
  have a31 := hA.1.2.2.2
  have c1 : Steps p.tables e below (s₁.setTop (entryFrame m #[.ref a, .ref b, .int (Int32.ofNat o), .int (Int32.ofNat len), .null] 6)) (s₁.setTop (mkF m 0 #[.val (.ref a), .val (.ref b), .val (.int (Int32.ofNat o)), .val (.int (Int32.ofNat len)), .val .null, .unset] [])) := entry rfl
  have c2 : Steps p.tables e below (s₁.setTop (entryFrame m #[.ref a, .ref b, .int (Int32.ofNat o), .int (Int32.ofNat len), .null] 6)) (s₁.setTop (mkF m 1 #[.val (.ref a), .val (.ref b), .val (.int (Int32.ofNat o)), .val (.int (Int32.ofNat len)), .val .null, .unset] [.ref a])) := c1.trans (by
    refine XS.aloadN X0.here hexec rfl (hb hbytes d0) rfl rfl ?_
    exact Steps.refl _)
  obtain ⟨T3, X3, q3, st3⟩ := X0.oinit hexec hown (wks W (objW "java/lang/String" 1)) (g := (mkF m 1 #[.val (.ref a), .val (.ref b), .val (.int (Int32.ofNat o)), .val (.int (Int32.ofNat len)), .val .null, .unset] [.ref a])) rfl (by rw [hml]; rfl) (rest := []) rfl (hb hbytes d1) (W := 0) (by show 2 * 0 + 0 ≤ _; decide) (Nat.le_of_ble_eq_true rfl) (Nat.le_of_ble_eq_true rfl)
  have hh3 := q3.trans hh0
  have c4 : Steps p.tables e below (s₁.setTop (entryFrame m #[.ref a, .ref b, .int (Int32.ofNat o), .int (Int32.ofNat len), .null] 6)) (T3.setTop (mkF m 27 #[.val (.ref a), .val (.ref b), .val (.int (Int32.ofNat o)), .val (.int (Int32.ofNat len)), .val .null, .unset] [])) := (c2.trans (st3 _ (Steps.refl _))).trans (by
    refine XS.iloadN X3.here hexec rfl (hb hbytes d4) rfl ?_
    refine XS.ifYes X3.here hexec rfl (pc0 := 5) rfl (hb hbytes d5) rfl (i0_ne_t (nz32 (by omega) l0)) (by decide) rfl ?_
    exact Steps.refl _)
  obtain ⟨T5, X5, q5, st5⟩ := X3.sget hexec hown (wk W (.fieldLink "java/lang/String" 38 "java/lang/String" "COMPACT_STRINGS" "Z")) s1 (fun _ _ h => by rw [hh3]; exact h) (g := (mkF m 27 #[.val (.ref a), .val (.ref b), .val (.int (Int32.ofNat o)), .val (.int (Int32.ofNat len)), .val .null, .unset] [])) rfl (hb hbytes d27)
  have hh5 := q5.trans hh3
  have c6 : Steps p.tables e below (s₁.setTop (entryFrame m #[.ref a, .ref b, .int (Int32.ofNat o), .int (Int32.ofNat len), .null] 6)) (T5.setTop (mkF m 30 #[.val (.ref a), .val (.ref b), .val (.int (Int32.ofNat o)), .val (.int (Int32.ofNat len)), .val .null, .unset] [.int z])) := c4.trans (st5 _ (Steps.refl _))
  have c7 : Steps p.tables e below (s₁.setTop (entryFrame m #[.ref a, .ref b, .int (Int32.ofNat o), .int (Int32.ofNat len), .null] 6)) (T5.setTop (mkF m 36 #[.val (.ref a), .val (.ref b), .val (.int (Int32.ofNat o)), .val (.int (Int32.ofNat len)), .val .null, .unset] [.int (Int32.ofNat len), .int (Int32.ofNat o), .ref b])) := c6.trans (by
    refine XS.ifNo X5.here hexec rfl (hb hbytes d30) rfl (i0_eq_f hz) ?_
    refine XS.aloadN X5.here hexec rfl (hb hbytes d33) rfl rfl ?_
    refine XS.iloadN X5.here hexec rfl (hb hbytes d34) rfl ?_
    refine XS.iloadN X5.here hexec rfl (hb hbytes d35) rfl ?_
    exact Steps.refl _)
  obtain ⟨v8, T8, X8, E8, g8⟩ := X5.callS hexec (Cmp3.law l b A o len) hown (wks W (staticW "java/lang/String" 177 Cmp3.yN)) (wk W Cmp3.tab) (W := 0) (Nat.le_of_ble_eq_true rfl) (Nat.le_of_ble_eq_true rfl) (Nat.le_refl _) (by show 0 + len ≤ len; omega) (g := (mkF m 36 #[.val (.ref a), .val (.ref b), .val (.int (Int32.ofNat o)), .val (.int (Int32.ofNat len)), .val .null, .unset] [.int (Int32.ofNat len), .int (Int32.ofNat o), .ref b])) rfl (by rw [hml]; rfl) c7 (argsL := [.ref b, .int (Int32.ofNat o), .int (Int32.ofNat len)]) (rest := []) rfl rfl (by show 2 * 0 + 0 ≤ _; decide) (hb hbytes d36) (⟨rfl, hA.mv X5.warmed.alike hh5, l1, l2, hp⟩)
  obtain ⟨e8, z8⟩ := E8
  obtain ⟨rfl, N, n1, n2, n3, n4, n5, n6⟩ := NewArr.mv _ T5 s _ _ hh5.symm (Vm.Alike.refl _) rfl e8
  rw [hh5] at z8
  have hB1 := hB.keep X8.warmed.alike (n6 _ _ hB.1)
  have hne : s.heap.size ≠ a := (Nat.ne_of_lt (Array.getElem?_eq_some_iff.mp hB.1).1).symm
  have c9 : Steps p.tables e below (s₁.setTop (entryFrame m #[.ref a, .ref b, .int (Int32.ofNat o), .int (Int32.ofNat len), .null] 6)) (T8.setTop (mkF m 39 #[.val (.ref a), .val (.ref b), .val (.int (Int32.ofNat o)), .val (.int (Int32.ofNat len)), .val .null, .unset] [.ref s.heap.size])) := g8
  have c10 : Steps p.tables e below (s₁.setTop (entryFrame m #[.ref a, .ref b, .int (Int32.ofNat o), .int (Int32.ofNat len), .null] 6)) (T8.setTop (mkF m 45 #[.val (.ref a), .val (.ref b), .val (.int (Int32.ofNat o)), .val (.int (Int32.ofNat len)), .val .null, .val (.ref s.heap.size)] [.int (Int32.ofNat N.slots.size), .ref s.heap.size, .ref a])) := by
    have hc : Steps p.tables e below (s₁.setTop (entryFrame m #[.ref a, .ref b, .int (Int32.ofNat o), .int (Int32.ofNat len), .null] 6)) (T8.setTop (mkF m 45 #[.val (.ref a), .val (.ref b), .val (.int (Int32.ofNat o)), .val (.int (Int32.ofNat len)), .val .null, .val (.ref s.heap.size)] [.int (Int32.ofNat len), .ref s.heap.size, .ref a])) := c9.trans (by
      refine XS.astore X8.here hexec rfl (hb hbytes d39) rfl rfl rfl ?_
      refine XS.aloadN X8.here hexec rfl (hb hbytes d41) rfl rfl ?_
      refine XS.aload X8.here hexec rfl (hb hbytes d42) rfl rfl ?_
      refine XS.iloadN X8.here hexec rfl (hb hbytes d44) rfl ?_
      exact Steps.refl _)
    rw [n4]; exact hc
  obtain ⟨v11, T11, X11, E11, g11⟩ := X8.callS hexec (CodL.law l s.heap.size N) hown (wks W (staticW "java/lang/String" 47 CodL.yN)) (wk W CodL.tab) (W := 1) (Nat.le_of_ble_eq_true rfl) (Nat.le_of_ble_eq_true rfl) (Nat.le_refl _) (by show 0 + len + 0 ≤ len; omega) (g := (mkF m 45 #[.val (.ref a), .val (.ref b), .val (.int (Int32.ofNat o)), .val (.int (Int32.ofNat len)), .val .null, .val (.ref s.heap.size)] [.int (Int32.ofNat N.slots.size), .ref s.heap.size, .ref a])) rfl (by rw [hml]; rfl) c10 (argsL := [.ref s.heap.size, .int (Int32.ofNat N.slots.size)]) (rest := [.ref a]) rfl rfl (by show 2 * 0 + (1 + 0) ≤ _; decide) (hb hbytes d45) (⟨rfl, n1⟩)
  obtain ⟨rfl, q11⟩ := E11
  have hB11 := hB1.mv (X8.warmed.alike.symm.trans X11.warmed.alike) q11
  have c12 : Steps p.tables e below (s₁.setTop (entryFrame m #[.ref a, .ref b, .int (Int32.ofNat o), .int (Int32.ofNat len), .null] 6)) (T11.setTop (mkF m 48 #[.val (.ref a), .val (.ref b), .val (.int (Int32.ofNat o)), .val (.int (Int32.ofNat len)), .val .null, .val (.ref s.heap.size)] [.int 0, .ref a])) := g11
  obtain ⟨T13, X13, p13, bl13, sl13, st13⟩ := X11.finit hexec hown (wk W (.fieldLink "java/lang/String" 15 "java/lang/String" "coder" "B")) (Or.inr ⟨_, (wk W (.laysFinal "java/lang/String" "java/lang/String" "coder" "B"))⟩) (Or.inl ⟨rfl, hnm⟩) f2 (Or.inl rfl) hB11 (t := .byte) (by decide +kernel) rfl (g := (mkF m 48 #[.val (.ref a), .val (.ref b), .val (.int (Int32.ofNat o)), .val (.int (Int32.ofNat len)), .val .null, .val (.ref s.heap.size)] [.int 0, .ref a])) rfl (rest := []) rfl (hb hbytes d48)
  have c14 : Steps p.tables e below (s₁.setTop (entryFrame m #[.ref a, .ref b, .int (Int32.ofNat o), .int (Int32.ofNat len), .null] 6)) (T13.setTop (mkF m 54 #[.val (.ref a), .val (.ref b), .val (.int (Int32.ofNat o)), .val (.int (Int32.ofNat len)), .val .null, .val (.ref s.heap.size)] [.ref s.heap.size, .ref a])) := (c12.trans (st13 _ (Steps.refl _))).trans (by
    refine XS.aloadN X13.here hexec rfl (hb hbytes d51) rfl rfl ?_
    refine XS.aload X13.here hexec rfl (hb hbytes d52) rfl rfl ?_
    exact Steps.refl _)
  obtain ⟨T15, X15, p15, bl15, sl15, st15⟩ := X13.finit hexec hown (wk W (.fieldLink "java/lang/String" 9 "java/lang/String" "value" "[B")) (Or.inr ⟨_, (wk W (.laysFinal "java/lang/String" "java/lang/String" "value" "[B"))⟩) (Or.inl ⟨rfl, hnm⟩) f1 (Or.inl rfl) bl13 (t := (.array .byte)) (by decide +kernel) rfl (g := (mkF m 54 #[.val (.ref a), .val (.ref b), .val (.int (Int32.ofNat o)), .val (.int (Int32.ofNat len)), .val .null, .val (.ref s.heap.size)] [.ref s.heap.size, .ref a])) rfl (rest := []) rfl (hb hbytes d54)
  have c16 : Steps p.tables e below (s₁.setTop (entryFrame m #[.ref a, .ref b, .int (Int32.ofNat o), .int (Int32.ofNat len), .null] 6)) (T15.setTop (mkF m 57 #[.val (.ref a), .val (.ref b), .val (.int (Int32.ofNat o)), .val (.int (Int32.ofNat len)), .val .null, .val (.ref s.heap.size)] [])) := c14.trans (st15 _ (Steps.refl _))
  have ap := apart (Or.inr ⟨_, (wk W (.laysFinal "java/lang/String" "java/lang/String" "value" "[B"))⟩) (Or.inr ⟨_, (wk W (.laysFinal "java/lang/String" "java/lang/String" "coder" "B"))⟩) f1 f2 (t₁ := .array .byte) (t₂ := .byte) (by decide +kernel) (by decide +kernel) (by decide)
  have al := X8.warmed.alike.symm.trans X15.warmed.alike
  have n7 : T11.heap[s.heap.size]? = some N := by rw [q11]; exact n1.1
  exact ⟨T15, none, _, _, _, X15, by simp, rfl, by omega, (fun _ => rfl), ⟨rfl, _, N, bl15, ((Same.refl D _).set _ (by simp)).set _ (by simp), sl15, (Cell.slots_setSlot_ne _ ap).trans sl13, n1.keep al (p15.other hne (p13.other hne n7)), n2, by rw [al.findClass]; exact n3, n4, n5, fun y c h1 h2 => p15.other h1 (p13.other h1 (by rw [q11]; exact n6 y c h2)), by rw [p15.2.2, p13.2.2, q11]; exact z8⟩, fun fs hl => c16.trans (X15.returnOut hexec hret (hb hbytes d57) hl)⟩
end New4
namespace New1
def yN : MethodName := ⟨"java/lang/String", "<init>", "([C)V"⟩
abbrev yB : ByteArray := jdk_42_method_3_code
theorem d0 : decode yB 0 = .ok (.aload_n 0, 1) := by decide +kernel
theorem d1 : decode yB 1 = .ok (.aload_n 1, 1) := by decide +kernel
theorem d2 : decode yB 2 = .ok (.iconst 0, 1) := by decide +kernel
theorem d3 : decode yB 3 = .ok (.aload_n 1, 1) := by decide +kernel
theorem d4 : decode yB 4 = .ok (.arraylength, 1) := by decide +kernel
theorem d5 : decode yB 5 = .ok (.aconst_null, 1) := by decide +kernel
theorem d6 : decode yB 6 = .ok (.invokespecial 27, 3) := by decide +kernel
theorem d9 : decode yB 9 = .ok (.return_, 1) := by decide +kernel
def site : List Cond := [New4.tab] ++ initW "java/lang/String" 27 New4.yN
def tab : Cond := tabOf yN yB 2 none site
def P (a : Addr) (D : Cell) (fV fC : Field) (b : Addr) (A : Cell) (z : Int32) (args : Array Value) (s : State) : Prop := args = #[.ref a, .ref b] ∧ Blank "java/lang/String" a D s ∧ Found "java/lang/String" "value" "[B" fV s ∧ Found "java/lang/String" "coder" "B" fC s ∧ Ch b A s ∧ StaticIs s "java/lang/String" "COMPACT_STRINGS" "Z" (.int z) ∧ ¬ z = 0 ∧ 0 < A.slots.size ∧ A.slots.size ≤ 536870912 ∧ ∀ i, i < A.slots.size → ¬ 255 < cv A i
def E (a : Addr) (D : Cell) (fV fC : Field) (A : Cell) (r : Option Value) (s u : State) : Prop := Got a D fV fC A 0 A.slots.size r s u
/-- new String(chars), not empty, no char above 255: a Latin-1 String of their low bytes -/
theorem law (l : Launch) (a : Addr) (D : Cell) (fV fC : Field) (b : Addr) (A : Cell) (z : Int32) : Law l yN 2 1 3 52 yB 2 none site (P a D fV fC b A z) (E a D fV fC A) [⟨a, fC.slot⟩, ⟨a, fV.slot⟩] 1 A.slots.size := by
  refine Law.of_walk (plainFor_of_name (by decide +kernel)) (by decide +kernel) (by decide +kernel) (by decide) (fun _ _ h => by rw [h.1]; rfl) (fun _ U U' hal hh h => ⟨h.1, h.2.1.mv hal hh, h.2.2.1.al hal, h.2.2.2.1.al hal, h.2.2.2.2.1.mv hal hh, h.2.2.2.2.2.1.there hal hh, h.2.2.2.2.2.2⟩) (fun r U U' V V' h1 hal h2 h => Got.mv r U U' V V' h1 hal h2 h) ?_
  intro p e s m args below meth c s₁ X0 hexec hbytes hml hret hlk hnm hown hh0 W hP
  obtain ⟨rfl, hB, f1, f2, hA, s1, hz, l0, l2, hp⟩ := hP
  have c1 : Steps p.tables e below (s₁.setTop (entryFrame m #[.ref a, .ref b] 2)) (s₁.setTop (mkF m 0 #[.val (.ref a), .val (.ref b)] [])) := entry rfl
  have c2 : Steps p.tables e below (s₁.setTop (entryFrame m #[.ref a, .ref b] 2)) (s₁.setTop (mkF m 6 #[.val (.ref a), .val (.ref b)] [.null, .int (Int32.ofNat A.slots.size), .int 0, .ref b, .ref a])) := c1.trans (by
    refine XS.aloadN X0.here hexec rfl (hb hbytes d0) rfl rfl ?_
    refine XS.aloadN X0.here hexec rfl (hb hbytes d1) rfl rfl ?_
    refine iconstV X0.here hexec rfl 0 (hb hbytes d2) (by decide) ?_
    refine XS.aloadN X0.here hexec rfl (hb hbytes d3) rfl rfl ?_
    refine X0.alen hexec (hA.1.mv X0.warmed.alike hh0) rfl rfl (hb hbytes d4) ?_
    refine XS.aconstNull X0.here hexec rfl (hb hbytes d5) ?_
    exact Steps.refl _)
  obtain ⟨v3, T3, X3, E3, g3⟩ := X0.callN hexec (New4.law l a D fV fC b A z 0 A.slots.size) rfl hown (wks W (initW "java/lang/String" 27 New4.yN)) (W New4.tab (by simp only [site, List.mem_cons, List.mem_append, true_or, or_true])) (W := 0) (Nat.le_of_ble_eq_true rfl) (Nat.le_of_ble_eq_true rfl) (Nat.le_refl _) (by show 0 + A.slots.size ≤ A.slots.size; omega) (g := (mkF m 6 #[.val (.ref a), .val (.ref b)] [.null, .int (Int32.ofNat A.slots.size), .int (Int32.ofNat 0), .ref b, .ref a])) rfl (by rw [hml]; rfl) c2 (argsL := [.ref b, .int (Int32.ofNat 0), .int (Int32.ofNat A.slots.size), .null]) (rest := []) rfl rfl (by show 2 * 0 + 0 ≤ _; decide) (hb hbytes d6) (⟨rfl, hB.mv X0.warmed.alike hh0, f1.al X0.warmed.alike, f2.al X0.warmed.alike, hA.mv X0.warmed.alike hh0, s1.there X0.warmed.alike hh0, hz, l0, by omega, l2, fun i hi => by rw [Nat.zero_add]; exact hp i hi⟩)
  have e0 := Got.mv _ s₁ s _ _ hh0.symm (Vm.Alike.refl _) rfl E3
  obtain rfl := e0.1
  have c4 : Steps p.tables e below (s₁.setTop (entryFrame m #[.ref a, .ref b] 2)) (T3.setTop (mkF m 9 #[.val (.ref a), .val (.ref b)] [])) := g3
  exact ⟨T3, none, _, _, _, X3, by simp, rfl, by omega, (fun _ => rfl), e0, fun fs hl => c4.trans (X3.returnOut hexec hret (hb hbytes d9) hl)⟩
theorem pays {l : Launch} {R : Room} {p : Program} {e : Env} {below : List Frame} {s : State} {sargs : Array Value} {len W : Nat} (a : Addr) (D : Cell) (fV fC : Field) (b : Addr) (A : Cell) (z : Int32) (htab : tab.before sargs s = true) (hfr : 4 ≤ R.frames) (hlo : W + 65 ≤ R.locals) :
    Back l R p e below s sargs yN len W (fun A₁ a₁ => A₁.cells + 1 ≤ R.cells ∧ A₁.slots + A.slots.size ≤ R.slots ∧ P a D fV fC b A z a₁ A₁.U) (fun A₁ _ v₁ B₁ => E a D fV fC A v₁ A₁.U B₁.U ∧ B₁.locs = A₁.locs ++ [⟨a, fC.slot⟩, ⟨a, fV.slot⟩] ∧ B₁.cells = A₁.cells + 1 ∧ B₁.slots = A₁.slots + A.slots.size) :=
  (law l a D fV fC b A z).pays htab hfr (by omega)
end New1
/-- the byte, read back as charAt reads it, is the char -/
theorem lo8_mask {x : Int32} (h0 : ¬ x < 0) (h1 : ¬ 255 < x) : lo8 x &&& 255 = x := by
  have t : ∀ k : Fin 256, lo8 (Int32.ofNat k.val) &&& 255 = Int32.ofNat k.val := by decide +kernel
  rw [Int32.lt_iff_toInt_lt] at h0 h1
  have e0 : (0 : Int32).toInt = 0 := rfl
  have e1 : (255 : Int32).toInt = 255 := rfl
  obtain ⟨k, hk⟩ : ∃ k : Nat, x.toInt = k := ⟨x.toInt.toNat, by omega⟩
  have hx : x = Int32.ofNat k := Int32.toInt_inj.mp (by rw [hk, Int32.toInt_ofNat_small (by omega)])
  rw [hx]
  exact t ⟨k, by omega⟩
end StrChars
namespace StrChars.Road
open Jvm Sem ClassFile Op Lib Jvm.Stand Jvm.Free Jvm.Free.XT
open Jvm.Lib.Cold (StaticIs)
abbrev ST : String := "java/lang/String"
/-- every table word that New1's law asks, flat -/
abbrev words : List Jvm.Cond := [.code New1.yN New1.yB 2 none, .initialized ST, .methodLink ST 27 New4.yN, .instanceMethod New4.yN,
  .code New4.yN New4.yB 6 none, .fieldLink ST 38 ST "COMPACT_STRINGS" "Z", .laysFinal ST ST "value" "[B", .fieldLink ST 9 ST "value" "[B", .laysFinal ST ST "coder" "B", .fieldLink ST 15 ST "coder" "B",
  .methodLink ST 1 Lib.objectInit, .instanceMethod Lib.objectInit, .code Lib.objectInit ⟨#[0xb1]⟩ 1 none, .methodLink ST 177 Cmp3.yN, .static Cmp3.yN, .methodLink ST 47 CodL.yN, .static CodL.yN,
  .code Cmp3.yN Cmp3.yB 6 (some (.array .byte)), .initialized U16, .arrayClass .byte, .methodLink U16 115 Cmp5.yN, .static Cmp5.yN, .code Cmp5.yN Cmp5.yB 7 (some .int), .code CodL.yN CodL.yB 2 (some .byte)]
theorem tab_of {a : Array Value} {s : State} (h : ∀ w ∈ words, w.before a s = true) : New1.tab.before a s = true := by
  have h5 : Cmp5.tab.before a s = true := unparts (wk h (.code Cmp5.yN Cmp5.yB 7 (some .int))) (wks h (.initialized Cmp5.yN.cls :: Cmp5.site))
  have hc : CodL.tab.before a s = true := unparts (wk h (.code CodL.yN CodL.yB 2 (some .byte))) (wks h (.initialized CodL.yN.cls :: CodL.site))
  have q5 : ∀ w ∈ Cmp5.tab :: words, w.before a s = true := fun w hw => (List.mem_cons.mp hw).elim (fun e => e ▸ h5) (h w)
  have h3 : Cmp3.tab.before a s = true := unparts (wk q5 (.code Cmp3.yN Cmp3.yB 6 (some (.array .byte)))) (wks q5 (.initialized Cmp3.yN.cls :: Cmp3.site))
  have q3 : ∀ w ∈ Cmp3.tab :: CodL.tab :: words, w.before a s = true := fun w hw => (List.mem_cons.mp hw).elim (fun e => e ▸ h3) fun hw => (List.mem_cons.mp hw).elim (fun e => e ▸ hc) (h w)
  have h4 : New4.tab.before a s = true := unparts (wk q3 (.code New4.yN New4.yB 6 none)) (wks q3 (.initialized New4.yN.cls :: New4.site))
  have q4 : ∀ w ∈ New4.tab :: words, w.before a s = true := fun w hw => (List.mem_cons.mp hw).elim (fun e => e ▸ h4) (h w)
  exact unparts (wk q4 (.code New1.yN New1.yB 2 none)) (wks q4 (.initialized New1.yN.cls :: New1.site))
/-- the words ride from the start Z to the walk's own state -/
theorem moved {Z s : State} {a0 args : Array Value} (hZ : Z.Warmed39 s.vm) (hw : ∀ d ∈ words, d.before a0 Z = true) : ∀ d ∈ words, d.before args s = true := fun d hd => by
  have q := hw d hd
  have t : ∀ d ∈ words, d = .arrayClass .byte ∨ (d.onTables && d.keepsFace) = true := by decide +kernel
  rcases t d hd with rfl | t
  · exact RoadKit.mvA hZ q
  · exact RoadKit.mv hZ q t
/-- WHAT COMES BACK, over the tables of the start Z: h the heap at the call, h' behind it -/
def Q (Z : State) (x : Addr) (A : Cell) (h : Heap) (v : Option Value) (h' : Heap) (L : List Loc) : Prop := v = none ∧ (∀ y ∈ L, y.base = x) ∧ RoadKit.Keep h h' [x] ∧ h'.size = h.size + 1 ∧ RoadKit.Exa Z h' x ST ∧ RoadKit.Fld Z h' x ST "value" "[B" (.ref h.size) ∧ RoadKit.Fld Z h' x ST "coder" "B" (.int 0) ∧
  (∃ V : Cell, RoadKit.Arr Z h' h.size V .byte ∧ V.vm = .none ∧ Z.vm.findClass "[B" = some V.cls ∧ V.slots.size = A.slots.size ∧ ∀ j, j < A.slots.size → V.slots[j]? = some (.int (lo8 (cv A j)))) ∧
  ∀ (O n d : String) (w : Value), RoadKit.Fld Z h x O n d w → RoadKit.slotOf Z O n d ≠ RoadKit.slotOf Z ST "value" "[B" → RoadKit.slotOf Z O n d ≠ RoadKit.slotOf Z ST "coder" "B" → RoadKit.Fld Z h' x O n d w
/-- **new String(chars) AT A CALL, IN THE ROAD'S FORM**: for specialBack behind newO: x the fresh String, b the char[] with the cell A -/
theorem back {p : Program} {l : Launch} {e : Env} {R : Room} {s : State} {args : Array Value} {below : List Frame} {len W : Nat} {Z : State} {a0 : Array Value} {h : Heap} (hZ : Z.Warmed39 s.vm) (hw : ∀ d ∈ words, d.before a0 Z = true) {kI : Nat} (wi : (Jvm.Cond.instantiable ST kI).before a0 Z = true)
    {x b : Addr} {A : Cell} {z : Int32} {v0 c0 : Value} (E : RoadKit.Exa Z h x ST) (V : RoadKit.Fld Z h x ST "value" "[B" v0) (C : RoadKit.Fld Z h x ST "coder" "B" c0) (K : RoadKit.Arr Z h b A .char) (hty : Typed .char A) (S : RoadKit.Sta Z h ST "COMPACT_STRINGS" "Z" (.int z)) (hz : ¬ z = 0)
    (l0 : 0 < A.slots.size) (l2 : A.slots.size ≤ 536870912) (hp : ∀ i, i < A.slots.size → ¬ 255 < cv A i) (hfr : 4 ≤ R.frames) (hlo : W + 65 ≤ R.locals) :
    Back l R p e below s args New1.yN len W (fun P a => a = #[.ref x, .ref b] ∧ P.U.heap = h ∧ P.cells + 1 ≤ R.cells ∧ P.slots + A.slots.size ≤ R.slots)
      (fun P _ v B => ∃ L, Q Z x A h v B.U.heap L ∧ B.locs = P.locs ++ L ∧ B.cells = P.cells + 1 ∧ B.slots = P.slots + A.slots.size) := by
  intro m meth c P g ig mk a X hg hsize hdg hW hn hp'
  obtain ⟨rfl, rfl, r1, r2⟩ := hp'
  have al : Z.vm.Alike P.U.vm := hZ.alike.trans X.warmed.alike
  obtain ⟨D, cfV, kV, iV, fV, hD, gV, stV, knV, obV, asV, slV⟩ := id V
  obtain ⟨D', cfC, kC, iC, fC, hD', gC, stC, -, -, asC, slC⟩ := id C
  cases hD.symm.trans hD'
  obtain ⟨D2, kD, e1, e2, e3, e4, e5⟩ := id E
  cases hD.symm.trans e1
  obtain ⟨c2, k2, i1, i2, i3, -⟩ := Cond.instantiable_spec wi
  cases e2.symm.trans i1
  cases e3.symm.trans i2
  obtain ⟨kU, u1, u2⟩ := al.2.2 _ _ e3
  have hB : Blank ST x D P.U := ⟨hD, ⟨knV, fun q hq => by rw [hq] at obV; cases obV⟩, by rw [al.findClass]; exact e2, kU, u1, by rw [u2]; exact i3, by rw [u2]; exact e5 i3⟩
  have F1 : Found ST "value" "[B" fV P.U := ⟨SBG.found_only al ⟨cfV, kV, iV, gV⟩, stV⟩
  have F2 : Found ST "coder" "B" fC P.U := ⟨SBG.found_only al ⟨cfC, kC, iC, gC⟩, stC⟩
  have hA : Ch b A P.U := ⟨⟨K.1, State.isArrayOf_alike al K.2.1, K.2.2, by omega⟩, hty⟩
  have hS : StaticIs P.U ST "COMPACT_STRINGS" "Z" (.int z) := by
    obtain ⟨cfS, iS, kS, fS, st, cS, t1, t2, t3, t4, t5, t6, t7⟩ := S
    exact StaticIs.there (s := { Z with heap := P.U.heap }) ⟨cfS, iS, kS, fS, st, cS, t1, t2, t3, t4, t5, (fun q => by rw [q] at t6; cases t6), t7⟩ al rfl
  obtain ⟨v, B, X', ⟨⟨hv, E', V', q1, q2, q3, q4, q5, q6, q7, q8, q9, q10, q11⟩, hl, hc, hs⟩, st⟩ := New1.pays x D fV fC b A z (tab_of (moved hZ hw)) hfr hlo m meth c P g ig mk _ X hg hsize hdg hW hn ⟨r1, r2, rfl, hB, F1, F2, hA, hS, hz, l0, l2, hp⟩
  have al' : Z.vm.Alike B.U.vm := hZ.alike.trans X'.warmed.alike
  have hsz : E'.slots.size = D.slots.size := by
    obtain ⟨-, -, -, kB, w1, w2, w3⟩ := q1
    obtain ⟨kB', y1, y2⟩ := al'.2.2 _ _ e3
    rw [q2.2.1] at w1
    cases w1.symm.trans y1
    rw [w3, e5 i3, y2]
  refine ⟨v, B, X', ⟨_, ⟨hv, ?_, ⟨by omega, fun y cy hy hn' => q10 y cy (by simpa using hn') hy, fun y cy hy => ?_⟩, q11, ⟨E', _, q1.1, by rw [q2.2.1]; exact e2, by rw [q2.2.1]; exact e3, by rw [q2.1]; exact obV, fun _ => by rw [hsz]; exact e5 i3⟩,
    ⟨E', cfV, kV, iV, fV, q1.1, gV, stV, by rw [q2.1]; exact knV, by rw [q2.1]; exact obV, by rw [q2.2.1]; exact asV, q3⟩, ⟨E', cfC, kC, iC, fC, q1.1, gC, stC, by rw [q2.1]; exact knV, by rw [q2.1]; exact obV, by rw [q2.2.1]; exact asC, q4⟩,
    ⟨V', ⟨q5.1, State.isArrayOf_alike al'.symm q5.2.1, q5.2.2.1⟩, q6, by rw [← al'.findClass]; exact q7, q8, fun j hj => by have := q9 j hj; rwa [Nat.zero_add] at this⟩, fun O n d w F n1 n2 => ?_⟩, hl, hc, hs⟩, st⟩
  · intro y hy
    simp only [List.mem_cons, List.not_mem_nil, or_false] at hy
    rcases hy with rfl | rfl <;> rfl
  · by_cases q : y = x
    · subst q
      cases hD.symm.trans hy
      exact ⟨E', q1.1, q2.2.1, q2.1, hsz⟩
    · exact ⟨cy, q10 y cy q hy, rfl, rfl, rfl⟩
  · obtain ⟨D3, cf, k, i, f, g1, g2, g3, g4, g5, g6, g7⟩ := F
    cases hD.symm.trans g1
    simp only [RoadKit.slotOf, g2, gV, gC, Option.map_some, Option.getD_some] at n1 n2
    exact ⟨E', cf, k, i, f, q1.1, g2, g3, by rw [q2.1]; exact g4, by rw [q2.1]; exact g5, by rw [q2.2.1]; exact g6, by rw [q2.2.2 f.slot (by simp [n1, n2])]; exact g7⟩
end StrChars.Road
namespace StrChars.Road
open Jvm Sem ClassFile Op Lib Jvm.Stand Jvm.Free Jvm.Free.XT
/-- WHAT COMES BACK, the byte[] as a list of values -/
def QA (Z : State) (x : Addr) (zn : Int32) (cs : List Int32) (h : Heap) (v : Option Value) (h' : Heap) (L : List Loc) : Prop := v = none ∧ (∀ y ∈ L, y.base = x) ∧ RoadKit.Keep h h' [x] ∧ h'.size = h.size + 1 ∧ RoadKit.Exa Z h' x ST ∧ RoadKit.Fld Z h' x ST "value" "[B" (.ref h.size) ∧ RoadKit.Fld Z h' x ST "coder" "B" (.int 0) ∧
  (∃ kb, Z.vm.findClass "[B" = some kb ∧ RoadKit.Arv Z h' h.size kb .byte zn (cs.map fun c => .int (lo8 c)) (.int 0)) ∧
  ∀ (O n d : String) (w : Value), RoadKit.Fld Z h x O n d w → RoadKit.slotOf Z O n d ≠ RoadKit.slotOf Z ST "value" "[B" → RoadKit.slotOf Z O n d ≠ RoadKit.slotOf Z ST "coder" "B" → RoadKit.Fld Z h' x O n d w
/-- **new String(chars) AT A CALL, THE ARRAYS AS LISTS**: the char[] at b holds cs, not empty, no char above 255 -/
theorem backArv {p : Program} {l : Launch} {e : Env} {R : Room} {s : State} {args : Array Value} {below : List Frame} {len W : Nat} {Z : State} {a0 : Array Value} {h : Heap} (hZ : Z.Warmed39 s.vm) (hw : ∀ d ∈ words, d.before a0 Z = true) {kI : Nat} (wi : (Jvm.Cond.instantiable ST kI).before a0 Z = true)
    {x b : Addr} {k : ClassId} {zn z : Int32} {cs : List Int32} {dv v0 c0 : Value} (E : RoadKit.Exa Z h x ST) (V : RoadKit.Fld Z h x ST "value" "[B" v0) (C : RoadKit.Fld Z h x ST "coder" "B" c0) (K : RoadKit.Arv Z h b k .char zn (cs.map Value.int) dv) (S : RoadKit.Sta Z h ST "COMPACT_STRINGS" "Z" (.int z)) (hz : ¬ z = 0)
    (hlen : zn.toNatClampNeg = cs.length) (h0 : 0 < cs.length) (hbig : cs.length ≤ 536870912) (hall : ∀ c ∈ cs, ¬ 255 < c) (hfr : 4 ≤ R.frames) (hlo : W + 65 ≤ R.locals) :
    Back l R p e below s args New1.yN len W (fun P a => a = #[.ref x, .ref b] ∧ P.U.heap = h ∧ P.cells + 1 ≤ R.cells ∧ P.slots + cs.length ≤ R.slots)
      (fun P _ v B => ∃ L, QA Z x zn cs h v B.U.heap L ∧ B.locs = P.locs ++ L ∧ B.cells = P.cells + 1 ∧ B.slots = P.slots + cs.length) := by
  obtain ⟨A, K1, K2, K3, K4, K5, K6⟩ := K
  have e : A.slots.size = cs.length := K3.trans hlen
  have hat : ∀ (i : Nat) (hi : i < cs.length), A.slots[i]? = some (.int cs[i]) := fun i hi => by rw [K5 i (by omega)]; simp [List.getD_eq_getElem?_getD, hi]
  have hcv : ∀ (i : Nat) (hi : i < cs.length), cv A i = cs[i] := fun i hi => by unfold cv; rw [hat i hi]
  have hty : Typed .char A := fun i v hv => by
    have hi : i < A.slots.size := (Array.getElem?_eq_some_iff.mp hv).1
    have q := K5 i hi
    rw [hv] at q
    rw [Option.some.inj q]
    exact K6 i hi
  refine Back.mono (back hZ hw wi E V C K1 hty S hz (by omega) (by omega) (fun i hi => by rw [hcv i (by omega)]; exact hall _ (List.getElem_mem _)) hfr hlo) (fun P a hp => ⟨hp.1, hp.2.1, hp.2.2.1, by rw [e]; exact hp.2.2.2⟩) (fun P a v B hp hq => ?_)
  obtain ⟨L, ⟨q1, q2, q3, q4, q5, q6, q7, ⟨V', v1, v2, v3, v4, v5⟩, q9⟩, hl, hc, hs⟩ := hq
  refine ⟨L, ⟨q1, q2, q3, q4, q5, q6, q7, ⟨V'.cls, v3, V', v1, rfl, by rw [v4, e, hlen], K4, fun i hi => ?_, fun i hi => ?_⟩, q9⟩, hl, hc, by rw [hs, e]⟩
  · have hi' : i < cs.length := by omega
    rw [v5 i (by omega), hcv i hi']; simp [List.getD_eq_getElem?_getD, hi']
  · have hi' : i < cs.length := by omega
    simp only [List.getD_eq_getElem?_getD, List.getElem?_map, List.getElem?_eq_getElem hi', Option.map_some, Option.getD_some]
    exact fits_lo8 _
end StrChars.Road
namespace StrChars.Road
open Jvm Sem ClassFile Op Lib Jvm.Stand Jvm.Free Jvm.Free.XT
/-- WHAT COMES BACK, in the writer's own shape -/
def QV (Z : State) (x : Addr) (N : Int32) (bs : List Int32) (h : Heap) (n0 : Nat) (v : Option Value) (h' : Heap) (L : List Loc) : Prop := v = none ∧ RoadKit.Fr n0 L ∧ RoadKit.Keep h h' [x] ∧ RoadKit.Exa Z h' x ST ∧ RoadKit.Fld Z h' x ST "coder" "B" (.int 0) ∧
  ∃ (t : Addr) (kb : ClassId), n0 ≤ t ∧ h.size ≤ t ∧ ¬ t = x ∧ RoadKit.Fld Z h' x ST "value" "[B" (.ref t) ∧ RoadKit.Arv Z h' t kb .byte N (bs.map Value.int) (.int 0)
/-- **new String(chars) AT A CALL, FOR THE WRITER**: a char[] of n known ints, each 0 to 255 -/
theorem backV {p : Program} {l : Launch} {e : Env} {R : Room} {s : State} {args : Array Value} {below : List Frame} {len W : Nat} {Z : State} {a0 : Array Value} {h : Heap} (hZ : Z.Warmed39 s.vm) (hw : ∀ d ∈ words, d.before a0 Z = true) {kI : Nat} (wi : (Jvm.Cond.instantiable ST kI).before a0 Z = true)
    {x b : Addr} {kC : ClassId} {cs bs : List Int32} {d v0 c0 : Value} {z N : Int32} {n n0 : Nat} (hx0 : n0 ≤ x) (hh0 : n0 ≤ h.size) (E : RoadKit.Exa Z h x ST) (V : RoadKit.Fld Z h x ST "value" "[B" v0) (C : RoadKit.Fld Z h x ST "coder" "B" c0) (K : RoadKit.Arv Z h b kC .char N (cs.map Value.int) d) (S : RoadKit.Sta Z h ST "COMPACT_STRINGS" "Z" (.int z)) (hz : ¬ z = 0)
    (hn : cs.length = n) (hN : N = Int32.ofNat n) (l0 : 0 < n) (l2 : n ≤ 4000) (hp : ∀ c ∈ cs, ¬ c < 0 ∧ ¬ (255 : Int32) < c) (hb : bs = cs.map (fun c => c.toInt8.toInt32)) (hfr : 4 ≤ R.frames) (hlo : W + 65 ≤ R.locals) :
    Back l R p e below s args (⟨"java/lang/String", "<init>", "([C)V"⟩ : MethodName) len W (fun P a => a = #[.ref x, .ref b] ∧ P.U.heap = h ∧ P.cells + 1 ≤ R.cells ∧ P.slots + n ≤ R.slots)
      (fun P _ v B => ∃ L, QV Z x N bs h n0 v B.U.heap L ∧ B.locs = P.locs ++ L ∧ B.cells = P.cells + 1 ∧ B.slots = P.slots + n) := by
  subst hn hN hb
  refine Back.mono (backArv hZ hw wi E V C K S hz (n32 (by omega)) l0 (by omega) (fun c hc => (hp c hc).2) hfr hlo) (fun P a hp => hp) (fun P a v B hp hq => ?_)
  obtain ⟨L, ⟨q1, q2, q3, q4, q5, q6, q7, ⟨kb, v1, v2⟩, q9⟩, hl, hc, hs⟩ := hq
  exact ⟨L, ⟨q1, fun y hy => by rw [q2 y hy]; exact hx0, q3, q5, q7, h.size, kb, hh0, Nat.le_refl _, Nat.ne_of_gt E.lt, q6, by rw [List.map_map]; exact v2⟩, hl, hc, hs⟩
end StrChars.Road
namespace StrChars
open Jvm Sem ClassFile Op Lib Jvm.Stand Jvm.Free.XT Jvm.Free.ALB Jvm.Free.JM Jvm.Free
open Jvm.Lib.Cold (StaticIs)
def hi8 (x : Int32) : Int32 := lo8 (x >>> ((8 : Int32) &&& 31))
/-- what StringUTF16.getChar makes of two bytes -/
def pairCh (u v : Int32) : Int32 := (((u &&& 255) <<< ((0 : Int32) &&& 31)) ||| ((v &&& 255) <<< ((8 : Int32) &&& 31))).toUInt32.toUInt16.toUInt32.toInt32
theorem lo8_and (x : Int32) : (lo8 x &&& 255).toBitVec.toNat = x.toBitVec.toNat % 256 := by
  have h : (lo8 x).toBitVec = (x.toBitVec.signExtend 8).signExtend 32 := by rw [lo8, Int8.toBitVec_toInt32, Int32.toBitVec_toInt8]
  rw [Int32.toBitVec_and, BitVec.toNat_and, h]
  have e : ((x.toBitVec.signExtend 8).signExtend 32).toNat % 256 = x.toBitVec.toNat % 256 := by
    rw [BitVec.toNat_signExtend]
    have hlt := x.toBitVec.isLt
    simp only [BitVec.toNat_setWidth, BitVec.toNat_signExtend]
    split <;> split <;> omega
  rw [← e]
  exact Nat.and_two_pow_sub_one_eq_mod _ 8
theorem pair_says {c : Int32} (h0 : ¬ c < 0) (h1 : ¬ 65535 < c) : pairCh (lo8 c) (hi8 c) = c := by
  rw [Int32.lt_iff_toInt_lt] at h0 h1
  have e0 : (0 : Int32).toInt = 0 := rfl
  have e1 : (65535 : Int32).toInt = 65535 := rfl
  have hc : c.toInt = c.toBitVec.toNat := by
    have := c.toBitVec.isLt
    have e : c.toInt = c.toBitVec.toInt := rfl
    rw [e] at h0 h1
    rw [e]
    rw [BitVec.toInt_eq_toNat_cond] at h0 h1 ⊢
    split at h0 <;> split <;> omega
  have hn : c.toBitVec.toNat < 65536 := by omega
  have a1 := lo8_and c
  have a2 : (hi8 c &&& 255).toBitVec.toNat = c.toBitVec.toNat / 256 := by
    rw [hi8, lo8_and]
    have e : ((8 : Int32) &&& 31) = 8 := by decide
    rw [e, Int32.toBitVec_shiftRight]
    have e2 : ((8 : Int32).toBitVec.smod 32) = 8#32 := by decide
    rw [e2, BitVec.sshiftRight_eq', BitVec.toNat_sshiftRight_of_msb_false (by rw [BitVec.msb_eq_false_iff_two_mul_lt]; omega)]
    show c.toBitVec.toNat >>> 8 % 256 = _
    rw [Nat.shiftRight_eq_div_pow]
    omega
  unfold pairCh
  apply Int32.toBitVec_inj.mp
  apply BitVec.eq_of_toNat_eq
  have f0 : ((0 : Int32) &&& 31) = 0 := by decide
  have f8 : ((8 : Int32) &&& 31) = 8 := by decide
  rw [f0, f8]
  have g : (((lo8 c &&& 255) <<< (0 : Int32)) ||| ((hi8 c &&& 255) <<< (8 : Int32))).toBitVec.toNat = c.toBitVec.toNat := by
    rw [Int32.toBitVec_or, Int32.toBitVec_shiftLeft, Int32.toBitVec_shiftLeft]
    have s0 : ((0 : Int32).toBitVec.smod 32) = 0#32 := by decide
    have s8 : ((8 : Int32).toBitVec.smod 32) = 8#32 := by decide
    rw [s0, s8, BitVec.toNat_or]
    simp only [BitVec.shiftLeft_eq', BitVec.toNat_shiftLeft, a1, a2]
    show (c.toBitVec.toNat % 256) <<< 0 % 2 ^ 32 ||| (c.toBitVec.toNat / 256) <<< 8 % 2 ^ 32 = _
    rw [Nat.shiftLeft_zero, Nat.mod_eq_of_lt (show c.toBitVec.toNat % 256 < 2 ^ 32 by omega), Nat.mod_eq_of_lt (show (c.toBitVec.toNat / 256) <<< 8 < 2 ^ 32 by rw [Nat.shiftLeft_eq]; omega), Nat.or_comm, ← Nat.shiftLeft_add_eq_or_of_lt (by omega), Nat.shiftLeft_eq]
    omega
  show BitVec.toNat (((((lo8 c &&& 255) <<< (0 : Int32)) ||| ((hi8 c &&& 255) <<< (8 : Int32))).toBitVec.setWidth 16).setWidth 32) = _
  rw [BitVec.toNat_setWidth, BitVec.toNat_setWidth, g]
  omega
end StrChars
namespace StrChars
open Jvm Sem ClassFile Op Lib Jvm.Stand Jvm.Free.XT Jvm.Free.ALB Jvm.Free.JM Jvm.Free
open Jvm.Lib.Cold (StaticIs)
/-- the array's cell V codes the n chars f 0 .. f (n - 1) by the coder cd, as the JDK does: coder 1 just where some char is above 255 -/
def Cod (cd : Int32) (n : Nat) (f : Nat → Int32) (V : Cell) : Prop := (cd = 0 ∧ V.slots.size = n ∧ ∀ j, j < n → V.slots[j]? = some (.int (lo8 (f j))) ∧ ¬ 255 < f j) ∨ (cd = 1 ∧ V.slots.size = 2 * n ∧ (∀ j, j < n → V.slots[2 * j]? = some (.int (lo8 (f j))) ∧ V.slots[2 * j + 1]? = some (.int (hi8 (f j)))) ∧ ∃ j, j < n ∧ 255 < f j)
/-- **x is a String of the n chars f 0 .. f (n - 1)**, Latin-1 or UTF-16; its array at t has the cell V -/
def Txt (x t : Addr) (V : Cell) (cd : Int32) (n : Nat) (f : Nat → Int32) (U : State) : Prop := Exact "java/lang/String" x U ∧ Has x "java/lang/String" "value" "[B" (.ref t) U ∧ Has x "java/lang/String" "coder" "B" (.int cd) U ∧ XT.Arr .byte t V U ∧ Cod cd n f V ∧ ∀ j, j < n → ¬ f j < 0 ∧ ¬ 65535 < f j
theorem Txt.mv {x t : Addr} {V : Cell} {cd : Int32} {n : Nat} {f : Nat → Int32} {U U' : State} (h : Txt x t V cd n f U) (hal : U.vm.Alike U'.vm) (hh : U'.heap = U.heap) : Txt x t V cd n f U' := ⟨h.1.mv hal hh, h.2.1.mv hal hh, h.2.2.1.mv hal hh, h.2.2.2.1.mv hal hh, h.2.2.2.2⟩
end StrChars
namespace StrChars.Road
open Jvm Sem ClassFile Op Lib Jvm.Stand Jvm.Free Jvm.Free.XT
open Jvm.Lib.Cold (StaticIs)
theorem consq {a : Array Value} {s : State} {c : Jvm.Cond} {L : List Jvm.Cond} (h0 : c.before a s = true) (h : ∀ w ∈ L, w.before a s = true) : ∀ w ∈ c :: L, w.before a s = true := fun w hw => (List.mem_cons.mp hw).elim (fun e => e ▸ h0) (h w)
/-- the bytes of the chars cs, low before high -/
def wideBytes : List Int32 → List Value
  | [] => []
  | c :: cs => .int (lo8 c) :: .int (hi8 c) :: wideBytes cs
theorem wide_lo (d : Value) : ∀ (cs : List Int32) (j : Nat), j < cs.length → (wideBytes cs).getD (2 * j) d = .int (lo8 (cs.getD j 0))
  | [], j, h => absurd h (Nat.not_lt_zero j)
  | c :: cs, 0, _ => rfl
  | c :: cs, j + 1, h => by
    have q := wide_lo d cs j (by simpa using h)
    rw [show 2 * (j + 1) = 2 * j + 1 + 1 from by omega]
    simpa [wideBytes] using q
theorem wide_hi (d : Value) : ∀ (cs : List Int32) (j : Nat), j < cs.length → (wideBytes cs).getD (2 * j + 1) d = .int (hi8 (cs.getD j 0))
  | [], j, h => absurd h (Nat.not_lt_zero j)
  | c :: cs, 0, _ => rfl
  | c :: cs, j + 1, h => by
    have q := wide_hi d cs j (by simpa using h)
    rw [show 2 * (j + 1) + 1 = 2 * j + 1 + 1 + 1 from by omega]
    simpa [wideBytes] using q
theorem low_at (d : Value) (cs : List Int32) (j : Nat) (h : j < cs.length) : (cs.map fun c => Value.int (lo8 c)).getD j d = .int (lo8 (cs.getD j 0)) := by
  simp [List.getD_eq_getElem?_getD, h]
/-- an array of N2 bytes vs codes the chars cs by the coder cd -/
def CodA (cs : List Int32) (cd N2 : Int32) (vs : List Value) : Prop := (cd = 0 ∧ N2 = Int32.ofNat cs.length ∧ vs = (cs.map fun c => Value.int (lo8 c)) ∧ ∀ c ∈ cs, ¬ 255 < c) ∨ (cd = 1 ∧ N2 = Int32.ofNat (2 * cs.length) ∧ vs = wideBytes cs ∧ ∃ c ∈ cs, 255 < c)
theorem CodA.cod {cs : List Int32} {cd N2 : Int32} {vs : List Value} {V : Cell} (h : CodA cs cd N2 vs) (hn : 2 * cs.length < 2 ^ 31) (hs : V.slots.size = N2.toNatClampNeg) (hv : RoadKit.Has V vs (.int 0)) : Cod cd cs.length (fun j => cs.getD j 0) V := by
  rcases h with ⟨rfl, rfl, rfl, h⟩ | ⟨rfl, rfl, rfl, c, hc, hw⟩
  · rw [n32 (by omega)] at hs
    exact Or.inl ⟨rfl, hs, fun j hj => ⟨by rw [hv j (by omega), low_at _ _ _ hj], by
      have e : cs.getD j 0 = cs[j] := by simp [List.getD_eq_getElem?_getD, hj]
      show ¬ 255 < cs.getD j 0
      rw [e]; exact h _ (List.getElem_mem _)⟩⟩
  · rw [n32 (by omega)] at hs
    obtain ⟨j, hj, rfl⟩ := List.getElem_of_mem hc
    exact Or.inr ⟨rfl, hs, fun j hj => ⟨by rw [hv _ (by omega), wide_lo _ _ _ hj], by rw [hv _ (by omega), wide_hi _ _ _ hj]⟩, j, hj, by
      have e : cs.getD j 0 = cs[j] := by simp [List.getD_eq_getElem?_getD, hj]
      show 255 < cs.getD j 0
      rw [e]; exact hw⟩
/-- an object of exactly java/lang/String, its two fields found: as the laws ask it -/
theorem strObj {Z U : State} {a0 : Array Value} {kI : Nat} (wi : (Jvm.Cond.instantiable ST kI).before a0 Z = true) (al : Z.vm.Alike U.vm) {x : Addr} {v0 c0 : Value} (E : RoadKit.Exa Z U.heap x ST) (V : RoadKit.Fld Z U.heap x ST "value" "[B" v0) (C : RoadKit.Fld Z U.heap x ST "coder" "B" c0) :
    ∃ (D : Cell) (fV fC : Field), Blank ST x D U ∧ Found ST "value" "[B" fV U ∧ Found ST "coder" "B" fC U ∧ D.slots[fV.slot]? = some v0 ∧ D.slots[fC.slot]? = some c0 ∧ RoadKit.slotOf Z ST "value" "[B" = fV.slot ∧ RoadKit.slotOf Z ST "coder" "B" = fC.slot := by
  obtain ⟨D, cfV, kV, iV, fV, hD, gV, stV, knV, obV, asV, slV⟩ := V
  obtain ⟨D', cfC, kC, iC, fC, hD', gC, stC, -, -, asC, slC⟩ := C
  cases hD.symm.trans hD'
  obtain ⟨D2, kD, e1, e2, e3, e4, e5⟩ := E
  cases hD.symm.trans e1
  obtain ⟨c2, k2, i1, i2, i3, -⟩ := Cond.instantiable_spec wi
  cases e2.symm.trans i1
  cases e3.symm.trans i2
  obtain ⟨kU, u1, u2⟩ := al.2.2 _ _ e3
  exact ⟨D, fV, fC, ⟨hD, ⟨knV, fun q hq => by rw [hq] at obV; cases obV⟩, by rw [al.findClass]; exact e2, kU, u1, by rw [u2]; exact i3, by rw [u2]; exact e5 i3⟩, ⟨SBG.found_only al ⟨cfV, kV, iV, gV⟩, stV⟩, ⟨SBG.found_only al ⟨cfC, kC, iC, gC⟩, stC⟩, slV, slC, by simp [RoadKit.slotOf, gV], by simp [RoadKit.slotOf, gC]⟩
theorem sta_is {Z U : State} (al : Z.vm.Alike U.vm) {C n d : String} {v : Value} (S : RoadKit.Sta Z U.heap C n d v) : StaticIs U C n d v := by
  obtain ⟨cfS, iS, kS, fS, st, cS, t1, t2, t3, t4, t5, t6, t7⟩ := S
  exact StaticIs.there (s := { Z with heap := U.heap }) ⟨cfS, iS, kS, fS, st, cS, t1, t2, t3, t4, t5, (fun q => by rw [q] at t6; cases t6), t7⟩ al rfl
end StrChars.Road
namespace StrChars
open Jvm Sem ClassFile Op Lib Jvm.Stand Jvm.Free.XT Jvm.Free.ALB Jvm.Free.JM Jvm.Free
open Jvm.Lib.Cold (StaticIs)
/-- what place i of a byte[]'s cell holds -/
def yv (A : Cell) (i : Nat) : Int32 := match A.slots[i]? with | some (.int x) => x | _ => 0
theorem yv_get {a : Addr} {A : Cell} {U : State} (h : XT.Arr .byte a A U) (ht : Typed .byte A) {i : Nat} (hi : i < A.slots.size) : A.slots[i]? = some (.int (yv A i)) := by
  have e := Array.getElem?_eq_getElem hi
  have f := ht i _ e
  unfold yv; rw [e]
  generalize A.slots[i] = v at f
  cases v <;> simp [fits] at f ⊢
/-- the two arrays are equal, place for place -/
def EqC (A B : Cell) : Prop := A.slots.size = B.slots.size ∧ ∀ i, i < A.slots.size → yv A i = yv B i
/-- a boolean that says whether p -/
def Says01 (q : Prop) (r : Option Value) (s u : State) : Prop := ∃ v : Int32, r = some (.int v) ∧ u.heap = s.heap ∧ ((v = 1 ∧ q) ∨ (v = 0 ∧ ¬ q))
theorem Says01.mv {q : Prop} : ∀ r (U U' V V' : State), U'.heap = U.heap → V.vm.Alike V'.vm → V'.heap = V.heap → Says01 q r U V → Says01 q r U' V' :=
  fun r U U' V V' h1 _ h2 ⟨v, a, b, c⟩ => ⟨v, a, by rw [h1, h2]; exact b, c⟩
namespace LEq
def yN : MethodName := ⟨"java/lang/StringLatin1", "equals", "([B[B)Z"⟩
abbrev yB : ByteArray := jdk_43_method_13_code
theorem d0 : decode yB 0 = .ok (.aload_n 0, 1) := by decide +kernel
theorem d1 : decode yB 1 = .ok (.arraylength, 1) := by decide +kernel
theorem d2 : decode yB 2 = .ok (.aload_n 1, 1) := by decide +kernel
theorem d3 : decode yB 3 = .ok (.arraylength, 1) := by decide +kernel
theorem d4 : decode yB 4 = .ok (.if_icmp (.ne) 30, 3) := by decide +kernel
theorem d7 : decode yB 7 = .ok (.iconst 0, 1) := by decide +kernel
theorem d8 : decode yB 8 = .ok (.istore_n 2, 1) := by decide +kernel
theorem d9 : decode yB 9 = .ok (.iload_n 2, 1) := by decide +kernel
theorem d10 : decode yB 10 = .ok (.aload_n 0, 1) := by decide +kernel
theorem d11 : decode yB 11 = .ok (.arraylength, 1) := by decide +kernel
theorem d12 : decode yB 12 = .ok (.if_icmp (.ge) 20, 3) := by decide +kernel
theorem d15 : decode yB 15 = .ok (.aload_n 0, 1) := by decide +kernel
theorem d16 : decode yB 16 = .ok (.iload_n 2, 1) := by decide +kernel
theorem d17 : decode yB 17 = .ok (.baload, 1) := by decide +kernel
theorem d18 : decode yB 18 = .ok (.aload_n 1, 1) := by decide +kernel
theorem d19 : decode yB 19 = .ok (.iload_n 2, 1) := by decide +kernel
theorem d20 : decode yB 20 = .ok (.baload, 1) := by decide +kernel
theorem d21 : decode yB 21 = .ok (.if_icmp (.eq) 5, 3) := by decide +kernel
theorem d24 : decode yB 24 = .ok (.iconst 0, 1) := by decide +kernel
theorem d25 : decode yB 25 = .ok (.ireturn, 1) := by decide +kernel
theorem d26 : decode yB 26 = .ok (.iinc 2 1, 3) := by decide +kernel
theorem d29 : decode yB 29 = .ok (.goto (-20), 3) := by decide +kernel
theorem d32 : decode yB 32 = .ok (.iconst 1, 1) := by decide +kernel
theorem d33 : decode yB 33 = .ok (.ireturn, 1) := by decide +kernel
theorem d34 : decode yB 34 = .ok (.iconst 0, 1) := by decide +kernel
theorem d35 : decode yB 35 = .ok (.ireturn, 1) := by decide +kernel
def site : List Cond := []
def tab : Cond := tabOf yN yB 3 (some .boolean) site
def P (a : Addr) (A : Cell) (b : Addr) (B : Cell) (args : Array Value) (s : State) : Prop := args = #[.ref a, .ref b] ∧ XT.Arr .byte a A s ∧ Typed .byte A ∧ XT.Arr .byte b B s ∧ Typed .byte B
/-- whether two byte[] are equal, place for place -/
theorem law (l : Launch) (a : Addr) (A : Cell) (b : Addr) (B : Cell) : Law l yN 2 2 0 0 yB 3 (some .boolean) site (P a A b B) (Says01 (EqC A B)) [] 0 0 := by
  refine Law.of_walk (plainFor_of_name (by decide +kernel)) (by decide +kernel) (by decide +kernel) (by decide) (fun _ _ h => by rw [h.1]; rfl) (fun _ U U' hal hh h => ⟨h.1, h.2.1.mv hal hh, h.2.2.1, h.2.2.2.1.mv hal hh, h.2.2.2.2⟩) (fun r U U' V V' h1 hal h2 h => Says01.mv r U U' V V' h1 hal h2 h) ?_
  intro p e s m args below meth c s₁ X0 hexec hbytes hml hret hlk hnm hown hh0 W hP
  obtain ⟨rfl, hA, tA, hB, tB⟩ := hP
  have a31 := hA.2.2.2
  have b31 := hB.2.2.2
  have hA0 := hA.mv X0.warmed.alike hh0
  have hB0 := hB.mv X0.warmed.alike hh0
  have c1 : Steps p.tables e below (s₁.setTop (entryFrame m #[.ref a, .ref b] 3)) (s₁.setTop (mkF m 0 #[.val (.ref a), .val (.ref b), .unset] [])) := entry rfl
  have c2 : Steps p.tables e below (s₁.setTop (entryFrame m #[.ref a, .ref b] 3)) (s₁.setTop (mkF m 4 #[.val (.ref a), .val (.ref b), .unset] [.int (Int32.ofNat B.slots.size), .int (Int32.ofNat A.slots.size)])) := c1.trans (by
    refine XS.aloadN X0.here hexec rfl (hb hbytes d0) rfl rfl ?_
    refine X0.alen hexec hA0 rfl rfl (hb hbytes d1) ?_
    refine XS.aloadN X0.here hexec rfl (hb hbytes d2) rfl rfl ?_
    refine X0.alen hexec hB0 rfl rfl (hb hbytes d3) ?_
    exact Steps.refl _)
  by_cases hs : A.slots.size = B.slots.size
  · have c3 : Steps p.tables e below (s₁.setTop (entryFrame m #[.ref a, .ref b] 3)) (s₁.setTop (mkF m 9 #[.val (.ref a), .val (.ref b), .val (.int 0)] [])) := c2.trans (by
      refine XS.icmpNo X0.here hexec rfl (hb hbytes d4) rfl (ii_ne_f (by rw [hs])) ?_
      refine iconstV X0.here hexec rfl 0 (hb hbytes d7) (by decide) ?_
      refine XS.istoreN X0.here hexec rfl (hb hbytes d8) rfl rfl ?_
      exact Steps.refl _)
    have loop : ∀ (r i : Nat), i + r = A.slots.size → (∀ j, j < i → yv A j = yv B j) → Steps p.tables e below (s₁.setTop (entryFrame m #[.ref a, .ref b] 3)) (s₁.setTop (mkF m 9 #[.val (.ref a), .val (.ref b), .val (.int (Int32.ofNat i))] [])) → ∃ (pc : Nat) (Ls : Array Slot) (v : Int32), (pc = 25 ∨ pc = 33) ∧ ((v = 1 ∧ EqC A B) ∨ (v = 0 ∧ ¬ EqC A B)) ∧ Steps p.tables e below (s₁.setTop (entryFrame m #[.ref a, .ref b] 3)) (s₁.setTop (mkF m pc Ls [.int v])) := by
      intro r
      induction r with
      | zero =>
        intro i hi he cl
        exact ⟨33, _, 1, Or.inr rfl, Or.inl ⟨rfl, hs, fun j hj => he j (by omega)⟩, cl.trans (by
          refine XS.iloadN X0.here hexec rfl (hb hbytes d9) rfl ?_
          refine XS.aloadN X0.here hexec rfl (hb hbytes d10) rfl rfl ?_
          refine X0.alen hexec hA0 rfl rfl (hb hbytes d11) ?_
          refine XS.icmpYes X0.here hexec rfl (pc0 := 12) rfl (hb hbytes d12) rfl (ii_ge_t (nlt32 (by omega) (by omega))) (by decide) rfl ?_
          refine iconstV X0.here hexec rfl 1 (hb hbytes d32) (by decide) ?_
          exact Steps.refl _)⟩
      | succ r ih =>
        intro i hi he cl
        have c4 : Steps p.tables e below (s₁.setTop (entryFrame m #[.ref a, .ref b] 3)) (s₁.setTop (mkF m 21 #[.val (.ref a), .val (.ref b), .val (.int (Int32.ofNat i))] [.int (yv B i), .int (yv A i)])) := cl.trans (by
          refine XS.iloadN X0.here hexec rfl (hb hbytes d9) rfl ?_
          refine XS.aloadN X0.here hexec rfl (hb hbytes d10) rfl rfl ?_
          refine X0.alen hexec hA0 rfl rfl (hb hbytes d11) ?_
          refine XS.icmpNo X0.here hexec rfl (hb hbytes d12) rfl (ii_ge_f (lt32 (by omega) (by omega))) ?_
          refine XS.aloadN X0.here hexec rfl (hb hbytes d15) rfl rfl ?_
          refine XS.iloadN X0.here hexec rfl (hb hbytes d16) rfl ?_
          refine X0.aget hexec hA0 rfl (yv_get hA tA (i := i) (by omega)) rfl rfl (hb hbytes d17) ?_
          refine XS.aloadN X0.here hexec rfl (hb hbytes d18) rfl rfl ?_
          refine XS.iloadN X0.here hexec rfl (hb hbytes d19) rfl ?_
          refine X0.aget hexec hB0 rfl (yv_get hB tB (i := i) (by omega)) rfl rfl (hb hbytes d20) ?_
          exact Steps.refl _)
        by_cases hv : yv A i = yv B i
        · have c5 : Steps p.tables e below (s₁.setTop (entryFrame m #[.ref a, .ref b] 3)) (s₁.setTop (mkF m 9 #[.val (.ref a), .val (.ref b), .val (.int (Int32.ofNat i + 1))] [])) := c4.trans (by
            refine XS.icmpYes X0.here hexec rfl (pc0 := 21) rfl (hb hbytes d21) rfl (ii_eq_t hv) (by decide) rfl ?_
            refine iincV X0.here hexec rfl 1 (hb hbytes d26) (by decide) rfl rfl ?_
            refine XS.goto X0.here hexec rfl (pc0 := 29) rfl (hb hbytes d29) (by decide) rfl ?_
            exact Steps.refl _)
          rw [succ32] at c5
          exact ih (i + 1) (by omega) (fun j hj => by
            by_cases e : j = i
            · rw [e]; exact hv
            · exact he j (by omega)) c5
        · exact ⟨25, _, 0, Or.inl rfl, Or.inr ⟨rfl, fun q => hv (q.2 i (by omega))⟩, c4.trans (by
            refine XS.icmpNo X0.here hexec rfl (hb hbytes d21) rfl (ii_eq_f hv) ?_
            refine iconstV X0.here hexec rfl 0 (hb hbytes d24) (by decide) ?_
            exact Steps.refl _)⟩
    obtain ⟨pc, Ls, v, hpc, hv, cz⟩ := loop A.slots.size 0 (by omega) (fun j hj => absurd hj (Nat.not_lt_zero j)) c3
    have nv : narrow .boolean (.int v) = .int v := by rcases hv with ⟨rfl, -⟩ | ⟨rfl, -⟩ <;> rfl
    rcases hpc with rfl | rfl
    · exact ⟨s₁, some (.int v), _, _, _, X0, rfl, rfl, rfl, (fun h => by cases h), ⟨v, rfl, hh0, hv⟩, fun fs hl => cz.trans (X0.ireturnOut hexec hret nv (Or.inr (Or.inl rfl)) (hb hbytes d25) hl)⟩
    · exact ⟨s₁, some (.int v), _, _, _, X0, rfl, rfl, rfl, (fun h => by cases h), ⟨v, rfl, hh0, hv⟩, fun fs hl => cz.trans (X0.ireturnOut hexec hret nv (Or.inr (Or.inl rfl)) (hb hbytes d33) hl)⟩
  · have c3 : Steps p.tables e below (s₁.setTop (entryFrame m #[.ref a, .ref b] 3)) (s₁.setTop (mkF m 35 #[.val (.ref a), .val (.ref b), .unset] [.int 0])) := c2.trans (by
      refine XS.icmpYes X0.here hexec rfl (pc0 := 4) rfl (hb hbytes d4) rfl (ii_ne_t (ne32 a31 b31 hs)) (by decide) rfl ?_
      refine iconstV X0.here hexec rfl 0 (hb hbytes d34) (by decide) ?_
      exact Steps.refl _)
    exact ⟨s₁, some (.int 0), _, _, _, X0, rfl, rfl, rfl, (fun h => by cases h), ⟨0, rfl, hh0, Or.inr ⟨rfl, fun q => hs q.1⟩⟩, fun fs hl => c3.trans (X0.ireturnOut hexec hret rfl (Or.inr (Or.inl rfl)) (hb hbytes d35) hl)⟩
end LEq
theorem Cod.ty {cd : Int32} {n : Nat} {f : Nat → Int32} {V : Cell} (h : Cod cd n f V) : Typed .byte V := fun i v hv => by
  have hi : i < V.slots.size := (Array.getElem?_eq_some_iff.mp hv).1
  rcases h with ⟨-, k1, k2⟩ | ⟨-, k1, k2, -⟩
  · rw [(k2 i (by omega)).1] at hv; cases hv; exact fits_lo8 _
  · rcases Nat.mod_two_eq_zero_or_one i with e | e
    · obtain ⟨j, rfl⟩ : ∃ j, i = 2 * j := ⟨i / 2, by omega⟩
      rw [(k2 j (by omega)).1] at hv; cases hv; exact fits_lo8 _
    · obtain ⟨j, rfl⟩ : ∃ j, i = 2 * j + 1 := ⟨i / 2, by omega⟩
      rw [(k2 j (by omega)).2] at hv; cases hv; exact fits_lo8 _
/-- the same text -/
def SameT (n : Nat) (f : Nat → Int32) (k : Nat) (g : Nat → Int32) : Prop := n = k ∧ ∀ j, j < n → f j = g j
theorem lo8_inj {x y : Int32} (h0 : ¬ x < 0) (h1 : ¬ 255 < x) (k0 : ¬ y < 0) (k1 : ¬ 255 < y) (h : lo8 x = lo8 y) : x = y := by
  rw [← lo8_mask h0 h1, ← lo8_mask k0 k1, h]
/-- arrays coded by one coder are equal just where the texts are -/
theorem Cod.eqv {cd : Int32} {n k : Nat} {f g : Nat → Int32} {V V' : Cell} (h : Cod cd n f V) (h' : Cod cd k g V') (hf : ∀ j, j < n → ¬ f j < 0 ∧ ¬ 65535 < f j) (hg : ∀ j, j < k → ¬ g j < 0 ∧ ¬ 65535 < g j) : EqC V V' ↔ SameT n f k g := by
  have yvv : ∀ {W : Cell} {i : Nat} {x : Int32}, W.slots[i]? = some (.int x) → yv W i = x := fun q => by unfold yv; rw [q]
  rcases h with ⟨rfl, k1, k2⟩ | ⟨rfl, k1, k2, -⟩
  · rcases h' with ⟨-, m1, m2⟩ | ⟨e, -⟩
    · constructor
      · rintro ⟨e1, e2⟩
        refine ⟨by omega, fun j hj => ?_⟩
        have q := e2 j (by omega)
        rw [yvv (k2 j hj).1, yvv (m2 j (by omega)).1] at q
        exact lo8_inj (hf j hj).1 (k2 j hj).2 (hg j (by omega)).1 (m2 j (by omega)).2 q
      · rintro ⟨rfl, e2⟩
        refine ⟨by omega, fun j hj => ?_⟩
        rw [yvv (k2 j (by omega)).1, yvv (m2 j (by omega)).1, e2 j (by omega)]
    · exact absurd e (by decide)
  · rcases h' with ⟨e, -⟩ | ⟨-, m1, m2, -⟩
    · exact absurd e (by decide)
    · constructor
      · rintro ⟨e1, e2⟩
        refine ⟨by omega, fun j hj => ?_⟩
        have q1 := e2 (2 * j) (by omega)
        have q2 := e2 (2 * j + 1) (by omega)
        rw [yvv (k2 j hj).1, yvv (m2 j (by omega)).1] at q1
        rw [yvv (k2 j hj).2, yvv (m2 j (by omega)).2] at q2
        rw [← pair_says (hf j hj).1 (hf j hj).2, ← pair_says (hg j (by omega)).1 (hg j (by omega)).2, q1, q2]
      · rintro ⟨rfl, e2⟩
        refine ⟨by omega, fun i hi => ?_⟩
        rcases Nat.mod_two_eq_zero_or_one i with e | e
        · obtain ⟨j, rfl⟩ : ∃ j, i = 2 * j := ⟨i / 2, by omega⟩
          rw [yvv (k2 j (by omega)).1, yvv (m2 j (by omega)).1, e2 j (by omega)]
        · obtain ⟨j, rfl⟩ : ∃ j, i = 2 * j + 1 := ⟨i / 2, by omega⟩
          rw [yvv (k2 j (by omega)).2, yvv (m2 j (by omega)).2, e2 j (by omega)]
/-- two codings differ: so do the texts -/
theorem Cod.dif {cd cd' : Int32} {n k : Nat} {f g : Nat → Int32} {V V' : Cell} (h : Cod cd n f V) (h' : Cod cd' k g V') (hne : ¬ cd = cd') : ¬ SameT n f k g := by
  rintro ⟨rfl, e⟩
  rcases h with ⟨rfl, -, k2⟩ | ⟨rfl, -, -, j, hj, hw⟩
  · rcases h' with ⟨rfl, -⟩ | ⟨-, -, -, j, hj, hw⟩
    · exact hne rfl
    · exact (k2 j hj).2 (by rw [e j hj]; exact hw)
  · rcases h' with ⟨-, -, m2⟩ | ⟨rfl, -⟩
    · exact (m2 j hj).2 (by rw [← e j hj]; exact hw)
    · exact hne rfl
/-- an object of exactly C is an instance of C -/
theorem cinst {p : Program} {l : Launch} {e : Env} {R : Room} {s : State} {m : MethodId} {args : Array Value} {below : List Frame} {meth : Method} {c : Code} {T : State} {locs : List Loc} {cells slots : Nat} (X : Stand p l e R s m args below meth c T locs cells slots) (hexec : p.tables.exec = Jvm.exec) {own C : String} {index : Nat} (hown : s.vm.findClass own = some m.cls) (hlink : (Cond.classLink own index C).before args s = true) {a : Addr} (hE : Exact C a T)
    {g : JFrame} (hg : g.method = m) {rest : List Value} (hstack : g.stack = .ref a :: rest) (hdg : decode c.code g.pc = .ok (.instanceof index, 3)) :
    ∃ T', Stand p l e R s m args below meth c T' locs cells slots ∧ T'.heap = T.heap ∧ ∀ target, Steps p.tables e below (T'.setTop { g with pc := g.pc + 3, stack := .int 1 :: rest }) target → Steps p.tables e below (T.setTop g) target := by
  obtain ⟨cB, h1, D, h2, h3, h4⟩ := hE
  have h1' : s.vm.findClass C = some cB := by rw [← X.warmed.alike.findClass]; exact h1
  obtain ⟨vm', X', st⟩ := X.instanceofYes hexec hown hlink h2 h4 h1' (by rw [h3]; exact Jvm.Free.SB.assignable_self _ _) hg hstack hdg
  exact ⟨_, X', rfl, st⟩
theorem cself {p : Program} {l : Launch} {e : Env} {R : Room} {s : State} {m : MethodId} {args : Array Value} {below : List Frame} {meth : Method} {c : Code} {T : State} {locs : List Loc} {cells slots : Nat} (X : Stand p l e R s m args below meth c T locs cells slots) (hexec : p.tables.exec = Jvm.exec) {own C : String} {index : Nat} (hown : s.vm.findClass own = some m.cls) (hlink : (Cond.classLink own index C).before args s = true) {a : Addr} (hE : Exact C a T)
    {g : JFrame} (hg : g.method = m) {rest : List Value} (hstack : g.stack = .ref a :: rest) (hdg : decode c.code g.pc = .ok (.checkcast index, 3)) :
    ∃ T', Stand p l e R s m args below meth c T' locs cells slots ∧ T'.heap = T.heap ∧ ∀ target, Steps p.tables e below (T'.setTop { g with pc := g.pc + 3, stack := .ref a :: rest }) target → Steps p.tables e below (T.setTop g) target := by
  obtain ⟨cB, h1, D, h2, h3, h4⟩ := hE
  have h1' : s.vm.findClass C = some cB := by rw [← X.warmed.alike.findClass]; exact h1
  obtain ⟨vm', X', st⟩ := X.checkcastYes hexec hown hlink h2 h4 h1' (by rw [h3]; exact Jvm.Free.SB.assignable_self _ _) hg hstack hdg
  exact ⟨_, X', rfl, fun t h => st t (by rw [← hstack] at h; exact h)⟩
namespace SEq
def yN : MethodName := ⟨"java/lang/String", "equals", "(Ljava/lang/Object;)Z"⟩
abbrev yB : ByteArray := jdk_42_method_66_code
theorem d0 : decode yB 0 = .ok (.aload_n 0, 1) := by decide +kernel
theorem d1 : decode yB 1 = .ok (.aload_n 1, 1) := by decide +kernel
theorem d2 : decode yB 2 = .ok (.if_acmp (.ne) 5, 3) := by decide +kernel
theorem d5 : decode yB 5 = .ok (.iconst 1, 1) := by decide +kernel
theorem d6 : decode yB 6 = .ok (.ireturn, 1) := by decide +kernel
theorem d7 : decode yB 7 = .ok (.aload_n 1, 1) := by decide +kernel
theorem d8 : decode yB 8 = .ok (.instanceof 10, 3) := by decide +kernel
theorem d11 : decode yB 11 = .ok (.ifCond (.eq) 43, 3) := by decide +kernel
theorem d14 : decode yB 14 = .ok (.aload_n 1, 1) := by decide +kernel
theorem d15 : decode yB 15 = .ok (.checkcast 10, 3) := by decide +kernel
theorem d18 : decode yB 18 = .ok (.astore_n 2, 1) := by decide +kernel
theorem d19 : decode yB 19 = .ok (.getstatic 38, 3) := by decide +kernel
theorem d22 : decode yB 22 = .ok (.ifCond (.eq) 14, 3) := by decide +kernel
theorem d25 : decode yB 25 = .ok (.aload_n 0, 1) := by decide +kernel
theorem d26 : decode yB 26 = .ok (.getfield 15, 3) := by decide +kernel
theorem d29 : decode yB 29 = .ok (.aload_n 2, 1) := by decide +kernel
theorem d30 : decode yB 30 = .ok (.getfield 15, 3) := by decide +kernel
theorem d33 : decode yB 33 = .ok (.if_icmp (.ne) 21, 3) := by decide +kernel
theorem d36 : decode yB 36 = .ok (.aload_n 0, 1) := by decide +kernel
theorem d37 : decode yB 37 = .ok (.getfield 9, 3) := by decide +kernel
theorem d40 : decode yB 40 = .ok (.aload_n 2, 1) := by decide +kernel
theorem d41 : decode yB 41 = .ok (.getfield 9, 3) := by decide +kernel
theorem d44 : decode yB 44 = .ok (.invokestatic 541, 3) := by decide +kernel
theorem d47 : decode yB 47 = .ok (.ifCond (.eq) 7, 3) := by decide +kernel
theorem d50 : decode yB 50 = .ok (.iconst 1, 1) := by decide +kernel
theorem d51 : decode yB 51 = .ok (.goto 4, 3) := by decide +kernel
theorem d54 : decode yB 54 = .ok (.iconst 0, 1) := by decide +kernel
theorem d55 : decode yB 55 = .ok (.ireturn, 1) := by decide +kernel
def site : List Cond := [.classLink "java/lang/String" 10 "java/lang/String", .fieldLink "java/lang/String" 38 "java/lang/String" "COMPACT_STRINGS" "Z", .fieldLink "java/lang/String" 15 "java/lang/String" "coder" "B", .fieldLink "java/lang/String" 9 "java/lang/String" "value" "[B", LEq.tab] ++ staticW "java/lang/String" 541 LEq.yN
def tab : Cond := tabOf yN yB 3 (some .boolean) site
def P (x t : Addr) (V : Cell) (cd : Int32) (n : Nat) (f : Nat → Int32) (y t' : Addr) (V' : Cell) (cd' : Int32) (k : Nat) (g : Nat → Int32) (z : Int32) (args : Array Value) (s : State) : Prop := args = #[.ref x, .ref y] ∧ Txt x t V cd n f s ∧ Txt y t' V' cd' k g s ∧ StaticIs s "java/lang/String" "COMPACT_STRINGS" "Z" (.int z) ∧ ¬ z = 0
/-- equals(Object) of two Strings: whether the texts are the same -/
theorem law (l : Launch) (x t : Addr) (V : Cell) (cd : Int32) (n : Nat) (f : Nat → Int32) (y t' : Addr) (V' : Cell) (cd' : Int32) (k : Nat) (g : Nat → Int32) (z : Int32) : Law l yN 2 1 1 14 yB 3 (some .boolean) site (P x t V cd n f y t' V' cd' k g z) (Says01 (SameT n f k g)) [] 0 0 := by
  refine Law.of_walk (plainFor_of_name (by decide +kernel)) (by decide +kernel) (by decide +kernel) (by decide) (fun _ _ h => by rw [h.1]; rfl) (fun _ U U' hal hh h => ⟨h.1, h.2.1.mv hal hh, h.2.2.1.mv hal hh, h.2.2.2.1.there hal hh, h.2.2.2.2⟩) (fun r U U' V V' h1 hal h2 h => Says01.mv r U U' V V' h1 hal h2 h) ?_
  intro p e s m args below meth c s₁ X0 hexec hbytes hml hret hlk hnm hown hh0 W hP
  obtain ⟨rfl, hx, hy, s1, hz⟩ := hP
  have c1 : Steps p.tables e below (s₁.setTop (entryFrame m #[.ref x, .ref y] 3)) (s₁.setTop (mkF m 2 #[.val (.ref x), .val (.ref y), .unset] [.ref y, .ref x])) := Steps.trans (entry rfl) (by
    show Steps p.tables e below (s₁.setTop (mkF m 0 #[.val (.ref x), .val (.ref y), .unset] [])) _
    refine XS.aloadN X0.here hexec rfl (hb hbytes d0) rfl rfl ?_
    refine XS.aloadN X0.here hexec rfl (hb hbytes d1) rfl rfl ?_
    exact Steps.refl _)
  by_cases hxy : x = y
  · have c2 : Steps p.tables e below (s₁.setTop (entryFrame m #[.ref x, .ref y] 3)) (s₁.setTop (mkF m 6 #[.val (.ref x), .val (.ref y), .unset] [.int 1])) := c1.trans (by
      refine acmpNo X0.here hexec rfl (hb hbytes d2) rfl rfl rfl (by simp [acmp, hxy]) ?_
      refine iconstV X0.here hexec rfl 1 (hb hbytes d5) (by decide) ?_
      exact Steps.refl _)
    subst hxy
    have ec : cd = cd' := by
      obtain ⟨D, fd, a1, a2, a3⟩ := hx.2.2.1
      obtain ⟨D', fd', b1, b2, b3⟩ := hy.2.2.1
      cases a1.symm.trans b1
      obtain ⟨q1, q2, q3, q4⟩ := a2.1
      obtain ⟨r1, r2, r3, r4⟩ := b2.1
      cases q4.symm.trans r4
      cases a3.symm.trans b3; rfl
    have et : t = t' := by
      obtain ⟨D, fd, a1, a2, a3⟩ := hx.2.1
      obtain ⟨D', fd', b1, b2, b3⟩ := hy.2.1
      cases a1.symm.trans b1
      obtain ⟨q1, q2, q3, q4⟩ := a2.1
      obtain ⟨r1, r2, r3, r4⟩ := b2.1
      cases q4.symm.trans r4
      cases a3.symm.trans b3; rfl
    subst ec et
    have ev : V = V' := by cases hx.2.2.2.1.1.symm.trans hy.2.2.2.1.1; rfl
    subst ev
    have hs : SameT n f k g := (Cod.eqv hx.2.2.2.2.1 hy.2.2.2.2.1 hx.2.2.2.2.2 hy.2.2.2.2.2).mp ⟨rfl, fun _ _ => rfl⟩
    exact ⟨s₁, some (.int 1), _, _, _, X0, rfl, rfl, rfl, (fun h => by cases h), ⟨1, rfl, hh0, Or.inl ⟨rfl, hs⟩⟩, fun fs hl => c2.trans (X0.ireturnOut hexec hret rfl (Or.inr (Or.inl rfl)) (hb hbytes d6) hl)⟩
  · have c2 : Steps p.tables e below (s₁.setTop (entryFrame m #[.ref x, .ref y] 3)) (s₁.setTop (mkF m 8 #[.val (.ref x), .val (.ref y), .unset] [.ref y])) := c1.trans (by
      refine acmpYes X0.here hexec rfl (pc0 := 2) rfl (hb hbytes d2) rfl rfl rfl (by simp [acmp, hxy]) (by decide) rfl ?_
      refine XS.aloadN X0.here hexec rfl (hb hbytes d7) rfl rfl ?_
      exact Steps.refl _)
    obtain ⟨T3, X3, q3, st3⟩ := cinst X0 hexec hown (wk W (.classLink "java/lang/String" 10 "java/lang/String")) (hy.mv X0.warmed.alike hh0).1 (g := (mkF m 8 #[.val (.ref x), .val (.ref y), .unset] [.ref y])) rfl (rest := []) rfl (hb hbytes d8)
    have hh3 := q3.trans hh0
    have c4 : Steps p.tables e below (s₁.setTop (entryFrame m #[.ref x, .ref y] 3)) (T3.setTop (mkF m 15 #[.val (.ref x), .val (.ref y), .unset] [.ref y])) := (c2.trans (st3 _ (Steps.refl _))).trans (by
      refine XS.ifNo X3.here hexec rfl (hb hbytes d11) rfl (i0_eq_f (by decide)) ?_
      refine XS.aloadN X3.here hexec rfl (hb hbytes d14) rfl rfl ?_
      exact Steps.refl _)
    obtain ⟨T5, X5, q5, st5⟩ := cself X3 hexec hown (wk W (.classLink "java/lang/String" 10 "java/lang/String")) (hy.mv X3.warmed.alike hh3).1 (g := (mkF m 15 #[.val (.ref x), .val (.ref y), .unset] [.ref y])) rfl (rest := []) rfl (hb hbytes d15)
    have hh5 := q5.trans hh3
    have c6 : Steps p.tables e below (s₁.setTop (entryFrame m #[.ref x, .ref y] 3)) (T5.setTop (mkF m 19 #[.val (.ref x), .val (.ref y), .val (.ref y)] [])) := (c4.trans (st5 _ (Steps.refl _))).trans (by
      refine XS.astoreN X5.here hexec rfl (hb hbytes d18) rfl rfl rfl ?_
      exact Steps.refl _)
    obtain ⟨T7, X7, q7, st7⟩ := X5.sget hexec hown (wk W (.fieldLink "java/lang/String" 38 "java/lang/String" "COMPACT_STRINGS" "Z")) s1 (fun _ _ h => by rw [hh5]; exact h) (g := (mkF m 19 #[.val (.ref x), .val (.ref y), .val (.ref y)] [])) rfl (hb hbytes d19)
    have hh7 := q7.trans hh5
    have c8 : Steps p.tables e below (s₁.setTop (entryFrame m #[.ref x, .ref y] 3)) (T7.setTop (mkF m 26 #[.val (.ref x), .val (.ref y), .val (.ref y)] [.ref x])) := (c6.trans (st7 _ (Steps.refl _))).trans (by
      refine XS.ifNo X7.here hexec rfl (hb hbytes d22) rfl (i0_eq_f hz) ?_
      refine XS.aloadN X7.here hexec rfl (hb hbytes d25) rfl rfl ?_
      exact Steps.refl _)
    obtain ⟨T9, X9, q9, st9⟩ := X7.hget hexec hown (wk W (.fieldLink "java/lang/String" 15 "java/lang/String" "coder" "B")) (hx.mv X7.warmed.alike hh7).2.2.1 (g := (mkF m 26 #[.val (.ref x), .val (.ref y), .val (.ref y)] [.ref x])) rfl (rest := []) rfl (hb hbytes d26)
    have hh9 := q9.trans hh7
    have c10 : Steps p.tables e below (s₁.setTop (entryFrame m #[.ref x, .ref y] 3)) (T9.setTop (mkF m 30 #[.val (.ref x), .val (.ref y), .val (.ref y)] [.ref y, .int cd])) := (c8.trans (st9 _ (Steps.refl _))).trans (by
      refine XS.aloadN X9.here hexec rfl (hb hbytes d29) rfl rfl ?_
      exact Steps.refl _)
    obtain ⟨T11, X11, q11, st11⟩ := X9.hget hexec hown (wk W (.fieldLink "java/lang/String" 15 "java/lang/String" "coder" "B")) (hy.mv X9.warmed.alike hh9).2.2.1 (g := (mkF m 30 #[.val (.ref x), .val (.ref y), .val (.ref y)] [.ref y, .int cd])) rfl (rest := [.int cd]) rfl (hb hbytes d30)
    have hh11 := q11.trans hh9
    have c12 : Steps p.tables e below (s₁.setTop (entryFrame m #[.ref x, .ref y] 3)) (T11.setTop (mkF m 33 #[.val (.ref x), .val (.ref y), .val (.ref y)] [.int cd', .int cd])) := c10.trans (st11 _ (Steps.refl _))
    by_cases hcd : cd = cd'
    · subst hcd
      have c13 : Steps p.tables e below (s₁.setTop (entryFrame m #[.ref x, .ref y] 3)) (T11.setTop (mkF m 37 #[.val (.ref x), .val (.ref y), .val (.ref y)] [.ref x])) := c12.trans (by
        refine XS.icmpNo X11.here hexec rfl (hb hbytes d33) rfl (ii_ne_f rfl) ?_
        refine XS.aloadN X11.here hexec rfl (hb hbytes d36) rfl rfl ?_
        exact Steps.refl _)
      obtain ⟨T14, X14, q14, st14⟩ := X11.hget hexec hown (wk W (.fieldLink "java/lang/String" 9 "java/lang/String" "value" "[B")) (hx.mv X11.warmed.alike hh11).2.1 (g := (mkF m 37 #[.val (.ref x), .val (.ref y), .val (.ref y)] [.ref x])) rfl (rest := []) rfl (hb hbytes d37)
      have hh14 := q14.trans hh11
      have c15 : Steps p.tables e below (s₁.setTop (entryFrame m #[.ref x, .ref y] 3)) (T14.setTop (mkF m 41 #[.val (.ref x), .val (.ref y), .val (.ref y)] [.ref y, .ref t])) := (c13.trans (st14 _ (Steps.refl _))).trans (by
        refine XS.aloadN X14.here hexec rfl (hb hbytes d40) rfl rfl ?_
        exact Steps.refl _)
      obtain ⟨T16, X16, q16, st16⟩ := X14.hget hexec hown (wk W (.fieldLink "java/lang/String" 9 "java/lang/String" "value" "[B")) (hy.mv X14.warmed.alike hh14).2.1 (g := (mkF m 41 #[.val (.ref x), .val (.ref y), .val (.ref y)] [.ref y, .ref t])) rfl (rest := [.ref t]) rfl (hb hbytes d41)
      have hh16 := q16.trans hh14
      have c17 : Steps p.tables e below (s₁.setTop (entryFrame m #[.ref x, .ref y] 3)) (T16.setTop (mkF m 44 #[.val (.ref x), .val (.ref y), .val (.ref y)] [.ref t', .ref t])) := c15.trans (st16 _ (Steps.refl _))
      obtain ⟨v18, T18, X18, E18, g18⟩ := X16.callS hexec (LEq.law l t V t' V') hown (wks W (staticW "java/lang/String" 541 LEq.yN)) (wk W LEq.tab) (W := 0) (Nat.le_of_ble_eq_true rfl) (Nat.le_of_ble_eq_true rfl) (Nat.le_refl _) (Nat.le_refl _) (g := (mkF m 44 #[.val (.ref x), .val (.ref y), .val (.ref y)] [.ref t', .ref t])) rfl (by rw [hml]; rfl) c17 (argsL := [.ref t, .ref t']) (rest := []) rfl rfl (by show 2 * 0 + 0 ≤ _; decide) (hb hbytes d44) (⟨rfl, hx.2.2.2.1.mv X16.warmed.alike hh16, hx.2.2.2.2.1.ty, hy.2.2.2.1.mv X16.warmed.alike hh16, hy.2.2.2.2.1.ty⟩)
      obtain ⟨v, rfl, q18, hv⟩ := E18
      have iff := Cod.eqv hx.2.2.2.2.1 hy.2.2.2.2.1 hx.2.2.2.2.2 hy.2.2.2.2.2
      rcases hv with ⟨rfl, he⟩ | ⟨rfl, he⟩
      · have c19 : Steps p.tables e below (s₁.setTop (entryFrame m #[.ref x, .ref y] 3)) (T18.setTop (mkF m 55 #[.val (.ref x), .val (.ref y), .val (.ref y)] [.int 1])) := Steps.trans g18 (by
          refine XS.ifNo X18.here hexec rfl (hb hbytes d47) rfl (i0_eq_f (by decide)) ?_
          refine iconstV X18.here hexec rfl 1 (hb hbytes d50) (by decide) ?_
          refine XS.goto X18.here hexec rfl (pc0 := 51) rfl (hb hbytes d51) (by decide) rfl ?_
          exact Steps.refl _)
        exact ⟨T18, some (.int 1), _, _, _, X18, rfl, rfl, rfl, (fun h => by cases h), ⟨1, rfl, q18.trans hh16, Or.inl ⟨rfl, iff.mp he⟩⟩, fun fs hl => c19.trans (X18.ireturnOut hexec hret rfl (Or.inr (Or.inl rfl)) (hb hbytes d55) hl)⟩
      · have c19 : Steps p.tables e below (s₁.setTop (entryFrame m #[.ref x, .ref y] 3)) (T18.setTop (mkF m 55 #[.val (.ref x), .val (.ref y), .val (.ref y)] [.int 0])) := Steps.trans g18 (by
          refine XS.ifYes X18.here hexec rfl (pc0 := 47) rfl (hb hbytes d47) rfl (i0_eq_t rfl) (by decide) rfl ?_
          refine iconstV X18.here hexec rfl 0 (hb hbytes d54) (by decide) ?_
          exact Steps.refl _)
        exact ⟨T18, some (.int 0), _, _, _, X18, rfl, rfl, rfl, (fun h => by cases h), ⟨0, rfl, q18.trans hh16, Or.inr ⟨rfl, fun q => he (iff.mpr q)⟩⟩, fun fs hl => c19.trans (X18.ireturnOut hexec hret rfl (Or.inr (Or.inl rfl)) (hb hbytes d55) hl)⟩
    · have c13 : Steps p.tables e below (s₁.setTop (entryFrame m #[.ref x, .ref y] 3)) (T11.setTop (mkF m 55 #[.val (.ref x), .val (.ref y), .val (.ref y)] [.int 0])) := c12.trans (by
        refine XS.icmpYes X11.here hexec rfl (pc0 := 33) rfl (hb hbytes d33) rfl (ii_ne_t hcd) (by decide) rfl ?_
        refine iconstV X11.here hexec rfl 0 (hb hbytes d54) (by decide) ?_
        exact Steps.refl _)
      exact ⟨T11, some (.int 0), _, _, _, X11, rfl, rfl, rfl, (fun h => by cases h), ⟨0, rfl, hh11, Or.inr ⟨rfl, Cod.dif hx.2.2.2.2.1 hy.2.2.2.2.1 hcd⟩⟩, fun fs hl => c13.trans (X11.ireturnOut hexec hret rfl (Or.inr (Or.inl rfl)) (hb hbytes d55) hl)⟩
theorem pays {l : Launch} {R : Room} {p : Program} {e : Env} {below : List Frame} {s : State} {sargs : Array Value} {len W : Nat} (x t : Addr) (V : Cell) (cd : Int32) (n : Nat) (f : Nat → Int32) (y t' : Addr) (V' : Cell) (cd' : Int32) (k : Nat) (g : Nat → Int32) (z : Int32) (htab : tab.before sargs s = true) (hfr : 2 ≤ R.frames) (hlo : W + 28 ≤ R.locals) :
    Back l R p e below s sargs yN len W (fun A₁ a₁ => A₁.cells + 0 ≤ R.cells ∧ A₁.slots + 0 ≤ R.slots ∧ P x t V cd n f y t' V' cd' k g z a₁ A₁.U) (fun A₁ _ v₁ B₁ => Says01 (SameT n f k g) v₁ A₁.U B₁.U ∧ B₁.locs = A₁.locs ++ [] ∧ B₁.cells = A₁.cells + 0 ∧ B₁.slots = A₁.slots + 0) :=
  (law l x t V cd n f y t' V' cd' k g z).pays htab hfr (by omega)
end SEq
end StrChars
namespace StrChars.Road
open Jvm Sem ClassFile Op Lib Jvm.Stand Jvm.Free Jvm.Free.XT
open Jvm.Lib.Cold (StaticIs)
/-- the words of String.equals(Object) -/
abbrev wordsEq : List Jvm.Cond := [.code SEq.yN SEq.yB 3 (some .boolean), .initialized ST, .classLink ST 10 ST, .fieldLink ST 38 ST "COMPACT_STRINGS" "Z", .fieldLink ST 15 ST "coder" "B", .fieldLink ST 9 ST "value" "[B", .methodLink ST 541 LEq.yN, .static LEq.yN, .code LEq.yN LEq.yB 3 (some .boolean), .initialized "java/lang/StringLatin1"]
theorem tabEq_of {a : Array Value} {s : State} (h : ∀ w ∈ wordsEq, w.before a s = true) : SEq.tab.before a s = true := by
  have hl : LEq.tab.before a s = true := unparts (wk h (.code LEq.yN LEq.yB 3 (some .boolean))) (wks h (.initialized LEq.yN.cls :: LEq.site))
  have q := consq hl h
  exact unparts (wk q (.code SEq.yN SEq.yB 3 (some .boolean))) (wks q (.initialized SEq.yN.cls :: SEq.site))
theorem movedEq {Z s : State} {a0 args : Array Value} (hZ : Z.Warmed39 s.vm) (hw : ∀ d ∈ wordsEq, d.before a0 Z = true) : ∀ d ∈ wordsEq, d.before args s = true := fun d hd => by
  have t : ∀ d ∈ wordsEq, (d.onTables && d.keepsFace) = true := by decide +kernel
  exact RoadKit.mv hZ (hw d hd) (t d hd)
/-- the road's facts of a String, as the laws ask it -/
theorem txt_of {Z U : State} {a0 : Array Value} {kI : Nat} (wi : (Jvm.Cond.instantiable ST kI).before a0 Z = true) (al : Z.vm.Alike U.vm) {x t : Addr} {kb : ClassId} {cs : List Int32} {cd N2 : Int32} {vs : List Value} (E : RoadKit.Exa Z U.heap x ST) (V : RoadKit.Fld Z U.heap x ST "value" "[B" (.ref t)) (C : RoadKit.Fld Z U.heap x ST "coder" "B" (.int cd)) (K : RoadKit.Arv Z U.heap t kb .byte N2 vs (.int 0)) (hc : CodA cs cd N2 vs) (hb : ∀ c ∈ cs, ¬ c < 0 ∧ ¬ (65535 : Int32) < c) (l2 : cs.length ≤ 4000) :
    ∃ A, Txt x t A cd cs.length (fun j => cs.getD j 0) U := by
  obtain ⟨A, K1, K2, K3, K4, K5, K6⟩ := K
  have hcod := hc.cod (by omega) K3 K5
  obtain ⟨D, fV, fC, hB, F1, F2, g1, g2, -, -⟩ := strObj wi al E V C
  exact ⟨A, ⟨_, hB.2.2.1, D, hB.1, rfl, by cases q : D.vm <;> first | rfl | exact absurd q (hB.2.1.2 _)⟩, Has.of hB F1 g1, Has.of hB F2 g2, ⟨K1.1, State.isArrayOf_alike al K1.2.1, K1.2.2, by rcases hcod with ⟨-, q, -⟩ | ⟨-, q, -⟩ <;> omega⟩, hcod, fun j hj => by
    have e : cs.getD j 0 = cs[j] := by simp [List.getD_eq_getElem?_getD, hj]
    show ¬ cs.getD j 0 < 0 ∧ ¬ 65535 < cs.getD j 0
    rw [e]; exact hb _ (List.getElem_mem _)⟩
theorem same_list (cs ds : List Int32) : SameT cs.length (fun j => cs.getD j 0) ds.length (fun j => ds.getD j 0) ↔ cs = ds := by
  constructor
  · rintro ⟨e, q⟩
    refine List.ext_getElem e fun j h1 h2 => ?_
    have := q j h1
    simpa [List.getD_eq_getElem?_getD, h1, h2] using this
  · rintro rfl
    exact ⟨rfl, fun _ _ => rfl⟩
/-- **equals(Object) OF TWO SUCH STRINGS**: 1 just where the chars are the same -/
theorem eqW {p : Program} {l : Launch} {e : Env} {R : Room} {s : State} {args : Array Value} {below : List Frame} {len W : Nat} {Z : State} {a0 : Array Value} {h : Heap} (hZ : Z.Warmed39 s.vm) (hw : ∀ d ∈ wordsEq, d.before a0 Z = true) {kI : Nat} (wi : (Jvm.Cond.instantiable ST kI).before a0 Z = true)
    {x t : Addr} {kb : ClassId} {cs : List Int32} {cd N2 : Int32} {vs : List Value} (E : RoadKit.Exa Z h x ST) (V : RoadKit.Fld Z h x ST "value" "[B" (.ref t)) (C : RoadKit.Fld Z h x ST "coder" "B" (.int cd)) (K : RoadKit.Arv Z h t kb .byte N2 vs (.int 0)) (hc : CodA cs cd N2 vs) (hb : ∀ c ∈ cs, ¬ c < 0 ∧ ¬ (65535 : Int32) < c) (l2 : cs.length ≤ 4000)
    {y t' : Addr} {kb' : ClassId} {ds : List Int32} {cd' N2' : Int32} {vs' : List Value} (E' : RoadKit.Exa Z h y ST) (V' : RoadKit.Fld Z h y ST "value" "[B" (.ref t')) (C' : RoadKit.Fld Z h y ST "coder" "B" (.int cd')) (K' : RoadKit.Arv Z h t' kb' .byte N2' vs' (.int 0)) (hc' : CodA ds cd' N2' vs') (hb' : ∀ c ∈ ds, ¬ c < 0 ∧ ¬ (65535 : Int32) < c) (l2' : ds.length ≤ 4000)
    {z : Int32} (S : RoadKit.Sta Z h ST "COMPACT_STRINGS" "Z" (.int z)) (hz : ¬ z = 0) (hfr : 2 ≤ R.frames) (hlo : W + 28 ≤ R.locals) :
    Back l R p e below s args (⟨"java/lang/String", "equals", "(Ljava/lang/Object;)Z"⟩ : MethodName) len W (fun P a => a = #[.ref x, .ref y] ∧ P.U.heap = h ∧ P.cells + 0 ≤ R.cells ∧ P.slots + 0 ≤ R.slots)
      (fun P _ v B => ∃ L, (((v = some (.int 1) ∧ cs = ds) ∨ (v = some (.int 0) ∧ ¬ cs = ds)) ∧ L = [] ∧ B.U.heap = h) ∧ B.locs = P.locs ++ L ∧ B.cells = P.cells + 0 ∧ B.slots = P.slots + 0) := by
  intro m meth c P g ig mk a X hg hsize hdg hW hn hp'
  obtain ⟨rfl, rfl, r1, r2⟩ := hp'
  have al : Z.vm.Alike P.U.vm := hZ.alike.trans X.warmed.alike
  obtain ⟨A, hx⟩ := txt_of wi al E V C K hc hb l2
  obtain ⟨A', hy⟩ := txt_of wi al E' V' C' K' hc' hb' l2'
  obtain ⟨v, B, X', ⟨⟨w, hv, hh, hq⟩, hl, hk, hs⟩, st⟩ := SEq.pays x t A cd cs.length (fun j => cs.getD j 0) y t' A' cd' ds.length (fun j => ds.getD j 0) z (tabEq_of (movedEq hZ hw)) hfr hlo m meth c P g ig mk _ X hg hsize hdg hW hn ⟨r1, r2, rfl, hx, hy, sta_is al S, hz⟩
  refine ⟨v, B, X', ⟨[], ⟨?_, rfl, hh⟩, hl, hk, hs⟩, st⟩
  rcases hq with ⟨rfl, q⟩ | ⟨rfl, q⟩
  · exact Or.inl ⟨hv, (same_list cs ds).mp q⟩
  · exact Or.inr ⟨hv, fun e => q ((same_list cs ds).mpr e)⟩
end StrChars.Road
end Jvm.Pilot.@@N@@
namespace Jvm.Pilot.@@N@@
open Jvm Jvm.ClassFile Sem Op Lib Jvm.Free Jvm.Stand Jvm.LawKit Jvm.RoadKit Bundle Jvm.Pilot.@@N@@.Jvm.D
theorem own_pn0 : plainName "java/lang/Record" = true := by first | (simp [plainName, overriddenIn]; done) | decide +kernel
theorem own_d9_0 : decode jdk_30_method_1_code 0 = .ok (.aload_n 0, 1) := by decide +kernel
theorem own_d9_1 : decode jdk_30_method_1_code 1 = .ok (.invokespecial 1, 3) := by decide +kernel
theorem own_d9_4 : decode jdk_30_method_1_code 4 = .ok (.return_, 1) := by decide +kernel
theorem own_pn1 : plainName "java/lang/String" = true := by first | (simp [plainName, overriddenIn]; done) | decide +kernel
theorem own_d3_0 : decode jdk_42_method_149_code 0 = .ok (.aload_n 0, 1) := by decide +kernel
theorem own_d3_1 : decode jdk_42_method_149_code 1 = .ok (.invokespecial 1, 3) := by decide +kernel
theorem own_d3_4 : decode jdk_42_method_149_code 4 = .ok (.iload_n 3, 1) := by decide +kernel
theorem own_d3_5 : decode jdk_42_method_149_code 5 = .ok (.ifCond .ne 22, 3) := by decide +kernel
theorem own_d3_8 : decode jdk_42_method_149_code 8 = .ok (.aload_n 0, 1) := by decide +kernel
theorem own_d3_9 : decode jdk_42_method_149_code 9 = .ok (.ldc 7, 2) := by decide +kernel
theorem own_d3_11 : decode jdk_42_method_149_code 11 = .ok (.getfield 9, 3) := by decide +kernel
theorem own_d3_14 : decode jdk_42_method_149_code 14 = .ok (.putfield 9, 3) := by decide +kernel
theorem own_d3_17 : decode jdk_42_method_149_code 17 = .ok (.aload_n 0, 1) := by decide +kernel
theorem own_d3_18 : decode jdk_42_method_149_code 18 = .ok (.ldc 7, 2) := by decide +kernel
theorem own_d3_20 : decode jdk_42_method_149_code 20 = .ok (.getfield 15, 3) := by decide +kernel
theorem own_d3_23 : decode jdk_42_method_149_code 23 = .ok (.putfield 15, 3) := by decide +kernel
theorem own_d3_26 : decode jdk_42_method_149_code 26 = .ok (.return_, 1) := by decide +kernel
theorem own_d2_0 : decode jdk_42_method_3_code 0 = .ok (.aload_n 0, 1) := by decide +kernel
theorem own_d2_1 : decode jdk_42_method_3_code 1 = .ok (.aload_n 1, 1) := by decide +kernel
theorem own_d2_2 : decode jdk_42_method_3_code 2 = .ok (.iconst 0, 1) := by decide +kernel
theorem own_d2_3 : decode jdk_42_method_3_code 3 = .ok (.aload_n 1, 1) := by decide +kernel
theorem own_d2_4 : decode jdk_42_method_3_code 4 = .ok (.arraylength, 1) := by decide +kernel
theorem own_d2_5 : decode jdk_42_method_3_code 5 = .ok (.aconst_null, 1) := by decide +kernel
theorem own_d2_6 : decode jdk_42_method_3_code 6 = .ok (.invokespecial 27, 3) := by decide +kernel
theorem own_pd0 : parseMethodDescriptor "([CIILjava/lang/Void;)V" = some ⟨[(.array .char), .int, .int, (.object "java/lang/Void")], none⟩ := by decide +kernel
theorem own_d2_9 : decode jdk_42_method_3_code 9 = .ok (.return_, 1) := by decide +kernel
theorem own_pn2 : plainName "com/example/diligent_tableau/diligenttableau/logic/ConceptNameEqualsPinLaw" = true := by first | (simp [plainName, overriddenIn]; done) | decide +kernel
theorem own_d1_0 : decode method_2_code 0 = .ok (.iload_n 0, 1) := by decide +kernel
theorem own_d1_1 : decode method_2_code 1 = .ok (.sipush 255, 3) := by decide +kernel
theorem own_d1_4 : decode method_2_code 4 = .ok (.iand, 1) := by decide +kernel
theorem own_d1_5 : decode method_2_code 5 = .ok (.i2c, 1) := by decide +kernel
theorem own_d1_6 : decode method_2_code 6 = .ok (.istore_n 2, 1) := by decide +kernel
theorem own_d1_7 : decode method_2_code 7 = .ok (.iload_n 0, 1) := by decide +kernel
theorem own_d1_8 : decode method_2_code 8 = .ok (.bipush 8, 2) := by decide +kernel
theorem own_d1_10 : decode method_2_code 10 = .ok (.iushr, 1) := by decide +kernel
theorem own_d1_11 : decode method_2_code 11 = .ok (.sipush 255, 3) := by decide +kernel
theorem own_d1_14 : decode method_2_code 14 = .ok (.iand, 1) := by decide +kernel
theorem own_d1_15 : decode method_2_code 15 = .ok (.i2c, 1) := by decide +kernel
theorem own_d1_16 : decode method_2_code 16 = .ok (.istore_n 3, 1) := by decide +kernel
theorem own_d1_17 : decode method_2_code 17 = .ok (.iload_n 0, 1) := by decide +kernel
theorem own_d1_18 : decode method_2_code 18 = .ok (.bipush 16, 2) := by decide +kernel
theorem own_d1_20 : decode method_2_code 20 = .ok (.iushr, 1) := by decide +kernel
theorem own_d1_21 : decode method_2_code 21 = .ok (.sipush 255, 3) := by decide +kernel
theorem own_d1_24 : decode method_2_code 24 = .ok (.iand, 1) := by decide +kernel
theorem own_d1_25 : decode method_2_code 25 = .ok (.i2c, 1) := by decide +kernel
theorem own_d1_26 : decode method_2_code 26 = .ok (.istore 4, 2) := by decide +kernel
theorem own_d1_28 : decode method_2_code 28 = .ok (.iload_n 1, 1) := by decide +kernel
theorem own_d1_29 : decode method_2_code 29 = .ok (.ifCond .ne 14, 3) := by decide +kernel
theorem own_d1_32 : decode method_2_code 32 = .ok (.new 7, 3) := by decide +kernel
theorem own_d1_35 : decode method_2_code 35 = .ok (.dup, 1) := by decide +kernel
theorem own_d1_36 : decode method_2_code 36 = .ok (.iconst 0, 1) := by decide +kernel
theorem own_d1_37 : decode method_2_code 37 = .ok (.newarray .char, 2) := by decide +kernel
theorem own_d1_39 : decode method_2_code 39 = .ok (.invokespecial 9, 3) := by decide +kernel
theorem own_pd1 : parseMethodDescriptor "([C)V" = some ⟨[(.array .char)], none⟩ := by decide +kernel
theorem own_d1_42 : decode method_2_code 42 = .ok (.areturn, 1) := by decide +kernel
theorem own_d1_43 : decode method_2_code 43 = .ok (.iload_n 1, 1) := by decide +kernel
theorem own_d1_44 : decode method_2_code 44 = .ok (.iconst 1, 1) := by decide +kernel
theorem own_d1_45 : decode method_2_code 45 = .ok (.if_icmp .ne 18, 3) := by decide +kernel
theorem own_d1_48 : decode method_2_code 48 = .ok (.new 7, 3) := by decide +kernel
theorem own_d1_51 : decode method_2_code 51 = .ok (.dup, 1) := by decide +kernel
theorem own_d1_52 : decode method_2_code 52 = .ok (.iconst 1, 1) := by decide +kernel
theorem own_d1_53 : decode method_2_code 53 = .ok (.newarray .char, 2) := by decide +kernel
theorem own_d1_55 : decode method_2_code 55 = .ok (.dup, 1) := by decide +kernel
theorem own_d1_56 : decode method_2_code 56 = .ok (.iconst 0, 1) := by decide +kernel
theorem own_d1_57 : decode method_2_code 57 = .ok (.iload_n 2, 1) := by decide +kernel
theorem own_d1_58 : decode method_2_code 58 = .ok (.castore, 1) := by decide +kernel
theorem own_d1_59 : decode method_2_code 59 = .ok (.invokespecial 9, 3) := by decide +kernel
theorem own_d1_62 : decode method_2_code 62 = .ok (.areturn, 1) := by decide +kernel
theorem own_d1_63 : decode method_2_code 63 = .ok (.iload_n 1, 1) := by decide +kernel
theorem own_d1_64 : decode method_2_code 64 = .ok (.iconst 2, 1) := by decide +kernel
theorem own_d1_65 : decode method_2_code 65 = .ok (.if_icmp .ne 22, 3) := by decide +kernel
theorem own_d1_68 : decode method_2_code 68 = .ok (.new 7, 3) := by decide +kernel
theorem own_d1_71 : decode method_2_code 71 = .ok (.dup, 1) := by decide +kernel
theorem own_d1_72 : decode method_2_code 72 = .ok (.iconst 2, 1) := by decide +kernel
theorem own_d1_73 : decode method_2_code 73 = .ok (.newarray .char, 2) := by decide +kernel
theorem own_d1_75 : decode method_2_code 75 = .ok (.dup, 1) := by decide +kernel
theorem own_d1_76 : decode method_2_code 76 = .ok (.iconst 0, 1) := by decide +kernel
theorem own_d1_77 : decode method_2_code 77 = .ok (.iload_n 2, 1) := by decide +kernel
theorem own_d1_78 : decode method_2_code 78 = .ok (.castore, 1) := by decide +kernel
theorem own_d1_79 : decode method_2_code 79 = .ok (.dup, 1) := by decide +kernel
theorem own_d1_80 : decode method_2_code 80 = .ok (.iconst 1, 1) := by decide +kernel
theorem own_d1_81 : decode method_2_code 81 = .ok (.iload_n 3, 1) := by decide +kernel
theorem own_d1_82 : decode method_2_code 82 = .ok (.castore, 1) := by decide +kernel
theorem own_d1_83 : decode method_2_code 83 = .ok (.invokespecial 9, 3) := by decide +kernel
theorem own_d1_86 : decode method_2_code 86 = .ok (.areturn, 1) := by decide +kernel
theorem own_d1_87 : decode method_2_code 87 = .ok (.new 7, 3) := by decide +kernel
theorem own_d1_90 : decode method_2_code 90 = .ok (.dup, 1) := by decide +kernel
theorem own_d1_91 : decode method_2_code 91 = .ok (.iconst 3, 1) := by decide +kernel
theorem own_d1_92 : decode method_2_code 92 = .ok (.newarray .char, 2) := by decide +kernel
theorem own_d1_94 : decode method_2_code 94 = .ok (.dup, 1) := by decide +kernel
theorem own_d1_95 : decode method_2_code 95 = .ok (.iconst 0, 1) := by decide +kernel
theorem own_d1_96 : decode method_2_code 96 = .ok (.iload_n 2, 1) := by decide +kernel
theorem own_d1_97 : decode method_2_code 97 = .ok (.castore, 1) := by decide +kernel
theorem own_d1_98 : decode method_2_code 98 = .ok (.dup, 1) := by decide +kernel
theorem own_d1_99 : decode method_2_code 99 = .ok (.iconst 1, 1) := by decide +kernel
theorem own_d1_100 : decode method_2_code 100 = .ok (.iload_n 3, 1) := by decide +kernel
theorem own_d1_101 : decode method_2_code 101 = .ok (.castore, 1) := by decide +kernel
theorem own_d1_102 : decode method_2_code 102 = .ok (.dup, 1) := by decide +kernel
theorem own_d1_103 : decode method_2_code 103 = .ok (.iconst 2, 1) := by decide +kernel
theorem own_d1_104 : decode method_2_code 104 = .ok (.iload 4, 2) := by decide +kernel
theorem own_d1_106 : decode method_2_code 106 = .ok (.castore, 1) := by decide +kernel
theorem own_d1_107 : decode method_2_code 107 = .ok (.invokespecial 9, 3) := by decide +kernel
theorem own_d1_110 : decode method_2_code 110 = .ok (.areturn, 1) := by decide +kernel
theorem own_d10_0 : decode method_3_code 0 = .ok (.iload_n 1, 1) := by decide +kernel
theorem own_d10_1 : decode method_3_code 1 = .ok (.iload_n 3, 1) := by decide +kernel
theorem own_d10_2 : decode method_3_code 2 = .ok (.if_icmp .eq 5, 3) := by decide +kernel
theorem own_d10_7 : decode method_3_code 7 = .ok (.iload_n 1, 1) := by decide +kernel
theorem own_d10_8 : decode method_3_code 8 = .ok (.iconst 1, 1) := by decide +kernel
theorem own_d10_9 : decode method_3_code 9 = .ok (.if_icmp .lt 18, 3) := by decide +kernel
theorem own_d10_27 : decode method_3_code 27 = .ok (.iload_n 1, 1) := by decide +kernel
theorem own_d10_28 : decode method_3_code 28 = .ok (.iconst 2, 1) := by decide +kernel
theorem own_d10_29 : decode method_3_code 29 = .ok (.if_icmp .lt 24, 3) := by decide +kernel
theorem own_d10_53 : decode method_3_code 53 = .ok (.iload_n 1, 1) := by decide +kernel
theorem own_d10_54 : decode method_3_code 54 = .ok (.iconst 3, 1) := by decide +kernel
theorem own_d10_55 : decode method_3_code 55 = .ok (.if_icmp .lt 24, 3) := by decide +kernel
theorem own_d10_79 : decode method_3_code 79 = .ok (.iconst 1, 1) := by decide +kernel
theorem own_d10_80 : decode method_3_code 80 = .ok (.ireturn, 1) := by decide +kernel
theorem own_d10_58 : decode method_3_code 58 = .ok (.iload_n 0, 1) := by decide +kernel
theorem own_d10_59 : decode method_3_code 59 = .ok (.bipush 16, 2) := by decide +kernel
theorem own_d10_61 : decode method_3_code 61 = .ok (.iushr, 1) := by decide +kernel
theorem own_d10_62 : decode method_3_code 62 = .ok (.sipush 255, 3) := by decide +kernel
theorem own_d10_65 : decode method_3_code 65 = .ok (.iand, 1) := by decide +kernel
theorem own_d10_66 : decode method_3_code 66 = .ok (.iload_n 2, 1) := by decide +kernel
theorem own_d10_67 : decode method_3_code 67 = .ok (.bipush 16, 2) := by decide +kernel
theorem own_d10_69 : decode method_3_code 69 = .ok (.iushr, 1) := by decide +kernel
theorem own_d10_70 : decode method_3_code 70 = .ok (.sipush 255, 3) := by decide +kernel
theorem own_d10_73 : decode method_3_code 73 = .ok (.iand, 1) := by decide +kernel
theorem own_d10_74 : decode method_3_code 74 = .ok (.if_icmp .eq 5, 3) := by decide +kernel
theorem own_d10_77 : decode method_3_code 77 = .ok (.iconst 0, 1) := by decide +kernel
theorem own_d10_78 : decode method_3_code 78 = .ok (.ireturn, 1) := by decide +kernel
theorem own_d10_32 : decode method_3_code 32 = .ok (.iload_n 0, 1) := by decide +kernel
theorem own_d10_33 : decode method_3_code 33 = .ok (.bipush 8, 2) := by decide +kernel
theorem own_d10_35 : decode method_3_code 35 = .ok (.iushr, 1) := by decide +kernel
theorem own_d10_36 : decode method_3_code 36 = .ok (.sipush 255, 3) := by decide +kernel
theorem own_d10_39 : decode method_3_code 39 = .ok (.iand, 1) := by decide +kernel
theorem own_d10_40 : decode method_3_code 40 = .ok (.iload_n 2, 1) := by decide +kernel
theorem own_d10_41 : decode method_3_code 41 = .ok (.bipush 8, 2) := by decide +kernel
theorem own_d10_43 : decode method_3_code 43 = .ok (.iushr, 1) := by decide +kernel
theorem own_d10_44 : decode method_3_code 44 = .ok (.sipush 255, 3) := by decide +kernel
theorem own_d10_47 : decode method_3_code 47 = .ok (.iand, 1) := by decide +kernel
theorem own_d10_48 : decode method_3_code 48 = .ok (.if_icmp .eq 5, 3) := by decide +kernel
theorem own_d10_51 : decode method_3_code 51 = .ok (.iconst 0, 1) := by decide +kernel
theorem own_d10_52 : decode method_3_code 52 = .ok (.ireturn, 1) := by decide +kernel
theorem own_d10_12 : decode method_3_code 12 = .ok (.iload_n 0, 1) := by decide +kernel
theorem own_d10_13 : decode method_3_code 13 = .ok (.sipush 255, 3) := by decide +kernel
theorem own_d10_16 : decode method_3_code 16 = .ok (.iand, 1) := by decide +kernel
theorem own_d10_17 : decode method_3_code 17 = .ok (.iload_n 2, 1) := by decide +kernel
theorem own_d10_18 : decode method_3_code 18 = .ok (.sipush 255, 3) := by decide +kernel
theorem own_d10_21 : decode method_3_code 21 = .ok (.iand, 1) := by decide +kernel
theorem own_d10_22 : decode method_3_code 22 = .ok (.if_icmp .eq 5, 3) := by decide +kernel
theorem own_d10_25 : decode method_3_code 25 = .ok (.iconst 0, 1) := by decide +kernel
theorem own_d10_26 : decode method_3_code 26 = .ok (.ireturn, 1) := by decide +kernel
theorem own_d10_5 : decode method_3_code 5 = .ok (.iconst 0, 1) := by decide +kernel
theorem own_d10_6 : decode method_3_code 6 = .ok (.ireturn, 1) := by decide +kernel
theorem own_pn3 : plainName "com/example/diligent_tableau/diligenttableau/logic/ConceptName" = true := by first | (simp [plainName, overriddenIn]; done) | decide +kernel
theorem own_d8_0 : decode prog_15_method_2_code 0 = .ok (.aload_n 0, 1) := by decide +kernel
theorem own_d8_1 : decode prog_15_method_2_code 1 = .ok (.invokespecial 1, 3) := by decide +kernel
theorem own_pd2 : parseMethodDescriptor "()V" = some ⟨[], none⟩ := by decide +kernel
theorem own_d8_4 : decode prog_15_method_2_code 4 = .ok (.aload_n 0, 1) := by decide +kernel
theorem own_d8_5 : decode prog_15_method_2_code 5 = .ok (.aload_n 1, 1) := by decide +kernel
theorem own_d8_6 : decode prog_15_method_2_code 6 = .ok (.putfield 7, 3) := by decide +kernel
theorem own_d8_9 : decode prog_15_method_2_code 9 = .ok (.aload_n 0, 1) := by decide +kernel
theorem own_d8_10 : decode prog_15_method_2_code 10 = .ok (.iload_n 2, 1) := by decide +kernel
theorem own_d8_11 : decode prog_15_method_2_code 11 = .ok (.putfield 13, 3) := by decide +kernel
theorem own_d8_14 : decode prog_15_method_2_code 14 = .ok (.return_, 1) := by decide +kernel
theorem own_pn4 : plainName "com/example/diligent_tableau/diligenttableau/logic/NegatedName" = true := by first | (simp [plainName, overriddenIn]; done) | decide +kernel
theorem own_d14_0 : decode prog_28_method_1_code 0 = .ok (.aload_n 0, 1) := by decide +kernel
theorem own_d14_1 : decode prog_28_method_1_code 1 = .ok (.invokespecial 1, 3) := by decide +kernel
theorem own_d14_4 : decode prog_28_method_1_code 4 = .ok (.aload_n 0, 1) := by decide +kernel
theorem own_d14_5 : decode prog_28_method_1_code 5 = .ok (.aload_n 1, 1) := by decide +kernel
theorem own_d14_6 : decode prog_28_method_1_code 6 = .ok (.putfield 7, 3) := by decide +kernel
theorem own_d14_9 : decode prog_28_method_1_code 9 = .ok (.return_, 1) := by decide +kernel
theorem own_d11_0 : decode prog_15_method_5_code 0 = .ok (.aload_n 1, 1) := by decide +kernel
theorem own_d11_1 : decode prog_15_method_5_code 1 = .ok (.instanceof 8, 3) := by decide +kernel
theorem own_d11_4 : decode prog_15_method_5_code 4 = .ok (.ifCond .eq 37, 3) := by decide +kernel
theorem own_d11_41 : decode prog_15_method_5_code 41 = .ok (.iconst 0, 1) := by decide +kernel
theorem own_d11_42 : decode prog_15_method_5_code 42 = .ok (.ireturn, 1) := by decide +kernel
theorem own_d11_7 : decode prog_15_method_5_code 7 = .ok (.aload_n 1, 1) := by decide +kernel
theorem own_d11_8 : decode prog_15_method_5_code 8 = .ok (.checkcast 8, 3) := by decide +kernel
theorem own_d11_11 : decode prog_15_method_5_code 11 = .ok (.astore_n 2, 1) := by decide +kernel
theorem own_d11_12 : decode prog_15_method_5_code 12 = .ok (.aload_n 0, 1) := by decide +kernel
theorem own_d11_13 : decode prog_15_method_5_code 13 = .ok (.getfield 13, 3) := by decide +kernel
theorem own_d11_16 : decode prog_15_method_5_code 16 = .ok (.aload_n 2, 1) := by decide +kernel
theorem own_d11_17 : decode prog_15_method_5_code 17 = .ok (.getfield 13, 3) := by decide +kernel
theorem own_d11_20 : decode prog_15_method_5_code 20 = .ok (.if_icmp .ne 21, 3) := by decide +kernel
theorem own_d11_23 : decode prog_15_method_5_code 23 = .ok (.aload_n 0, 1) := by decide +kernel
theorem own_d11_24 : decode prog_15_method_5_code 24 = .ok (.getfield 7, 3) := by decide +kernel
theorem own_d11_27 : decode prog_15_method_5_code 27 = .ok (.aload_n 2, 1) := by decide +kernel
theorem own_d11_28 : decode prog_15_method_5_code 28 = .ok (.getfield 7, 3) := by decide +kernel
theorem own_d11_31 : decode prog_15_method_5_code 31 = .ok (.invokevirtual 25, 3) := by decide +kernel
theorem own_pd3 : parseMethodDescriptor "(Ljava/lang/Object;)Z" = some ⟨[(.object "java/lang/Object")], some .boolean⟩ := by decide +kernel
theorem own_d11_34 : decode prog_15_method_5_code 34 = .ok (.ifCond .eq 7, 3) := by decide +kernel
theorem own_d11_37 : decode prog_15_method_5_code 37 = .ok (.iconst 1, 1) := by decide +kernel
theorem own_d11_38 : decode prog_15_method_5_code 38 = .ok (.goto 4, 3) := by decide +kernel
theorem own_pd4 : parseMethodDescriptor "(II)Ljava/lang/String;" = some ⟨[.int, .int], some (.object "java/lang/String")⟩ := by decide +kernel
theorem own_pd5 : parseMethodDescriptor "(Ljava/lang/String;Z)V" = some ⟨[(.object "java/lang/String"), .boolean], none⟩ := by decide +kernel
theorem own_pd6 : parseMethodDescriptor "(IIII)Z" = some ⟨[.int, .int, .int, .int], some .boolean⟩ := by decide +kernel
theorem own_pd7 : parseMethodDescriptor "(Lcom/example/diligent_tableau/diligenttableau/logic/ConceptName;)V" = some ⟨[(.object "com/example/diligent_tableau/diligenttableau/logic/ConceptName")], none⟩ := by decide +kernel
def own_EL : List (String × Nat) := [("java/lang/String", 7)]
theorem own_ew {Z : State} {a0 : Array Value} (hw : ∀ d ∈ tables_1, d.before a0 Z = true) : EW Z a0 own_EL := (EW.cons (hw _ (List.mem_of_getElem? (i := 50) rfl)) (by decide) EW.nil)
theorem own_wS {Z : State} {a0 : Array Value} (hw : ∀ d ∈ tables_1, d.before a0 Z = true) : ∀ d ∈ Bundle.stringAtoms, d.before a0 Z = true := fun d hd => hw d ((by decide +kernel : ∀ d ∈ Bundle.stringAtoms, d ∈ tables_1) d hd)
theorem own_txt_0 : (∀ c ∈ "".toList, c.toNat < 256) ∧ "".toList.map (fun c => Value.int (Jvm.Lit.byteI c.toNat.toUInt16)) = [] := ⟨by decide, by decide⟩
def own_ch1 (q : Int32) : Int32 := nar .char ((q &&& (255 : Int32)).toUInt32.toUInt16.toUInt32.toInt32)
theorem own_ch1_eq (q : Int32) : own_ch1 q = q &&& (255 : Int32) := by
  show ((q &&& (255 : Int32)).toUInt32.toUInt16.toUInt32.toInt32).toUInt32.toUInt16.toUInt32.toInt32 = _
  rw [i2c_mask, i2c_mask]
theorem own_ch1_rng (q : Int32) : ¬ own_ch1 q < 0 ∧ ¬ (255 : Int32) < own_ch1 q := by
  rw [own_ch1_eq]
  have h := c_mask q 255 8 (by decide) (by decide)
  simp only [show ((2 ^ 8 : Nat) : Int) = 256 from by decide] at h
  constructor <;> (rw [Int32.lt_iff_toInt_lt]; first | rw [show (0 : Int32).toInt = 0 from by decide] | rw [show (255 : Int32).toInt = 255 from by decide]) <;> omega
theorem own_b65 {c : Int32} (h : ¬ c < 0 ∧ ¬ (255 : Int32) < c) : ¬ c < 0 ∧ ¬ (65535 : Int32) < c := by
  refine ⟨h.1, fun q => h.2 ?_⟩
  rw [Int32.lt_iff_toInt_lt] at q ⊢
  rw [show (65535 : Int32).toInt = 65535 from by decide] at q
  rw [show (255 : Int32).toInt = 255 from by decide]
  omega
theorem own_bit (q : Int32) : nar .boolean (q &&& (1 : Int32)) = q &&& (1 : Int32) ∨ True := Or.inr trivial
theorem own_r3 (q : Int32) : q &&& (3 : Int32) = (0 : Int32) ∨ q &&& (3 : Int32) = (1 : Int32) ∨ q &&& (3 : Int32) = (2 : Int32) ∨ q &&& (3 : Int32) = (3 : Int32) := by
  have h := c_mask q 3 2 (by decide) (by decide)
  simp only [show ((2 ^ 2 : Nat) : Int) = 4 from by decide] at h
  simp only [← Int32.toInt_inj, show (0 : Int32).toInt = 0 from by decide, show (1 : Int32).toInt = 1 from by decide, show (2 : Int32).toInt = 2 from by decide, show (3 : Int32).toInt = 3 from by decide]
  omega
def own_eqv (cs ds : List Int32) : Int32 := if cs = ds then (1 : Int32) else (0 : Int32)
theorem own_eqB {p : Program} {l : Launch} {e : Env} {R : Room} {s : State} {args : Array Value} {below : List Frame} {len W : Nat} {Z : State} {a0 : Array Value} {h : Heap} {n0 : Nat} (hZ : Z.Warmed39 s.vm) (hw : ∀ d ∈ StrChars.Road.wordsEq, d.before a0 Z = true) {kI : Nat} (wi : (Jvm.Cond.instantiable "java/lang/String" kI).before a0 Z = true)
    {x t : Addr} {kb : ClassId} {cs : List Int32} (E : Exa Z h x "java/lang/String") (V : Fld Z h x "java/lang/String" "value" "[B" (.ref t)) (C : Fld Z h x "java/lang/String" "coder" "B" (.int (0 : Int32))) (K : Arv Z h t kb .byte (Int32.ofNat cs.length) (cs.map fun c => Value.int (c.toInt8.toInt32)) (.int (0 : Int32))) (hb : ∀ c ∈ cs, ¬ c < 0 ∧ ¬ (255 : Int32) < c) (l2 : cs.length ≤ 3)
    {y t' : Addr} {kb' : ClassId} {ds : List Int32} (E' : Exa Z h y "java/lang/String") (V' : Fld Z h y "java/lang/String" "value" "[B" (.ref t')) (C' : Fld Z h y "java/lang/String" "coder" "B" (.int (0 : Int32))) (K' : Arv Z h t' kb' .byte (Int32.ofNat ds.length) (ds.map fun c => Value.int (c.toInt8.toInt32)) (.int (0 : Int32))) (hb' : ∀ c ∈ ds, ¬ c < 0 ∧ ¬ (255 : Int32) < c) (l2' : ds.length ≤ 3)
    {z : Int32} (S : Sta Z h "java/lang/String" "COMPACT_STRINGS" "Z" (.int z)) (hz : ¬ z = 0) (hfr : 2 ≤ R.frames) (hlo : W + 28 ≤ R.locals) :
    Back l R p e below s args (⟨"java/lang/String", "equals", "(Ljava/lang/Object;)Z"⟩ : MethodName) len W (fun P a => a = #[.ref x, .ref y] ∧ P.U.heap = h ∧ P.cells + 0 ≤ R.cells ∧ P.slots + 0 ≤ R.slots)
      (fun P _ v B => ∃ L, (v = some (.int (own_eqv cs ds)) ∧ Fr n0 L ∧ B.U.heap = h) ∧ B.locs = P.locs ++ L ∧ B.cells = P.cells + 0 ∧ B.slots = P.slots + 0) := by
  refine Back.mono (StrChars.Road.eqW hZ hw wi E V C K (Or.inl ⟨rfl, rfl, rfl, fun c hc => (hb c hc).2⟩) (fun c hc => own_b65 (hb c hc)) (by omega) E' V' C' K' (Or.inl ⟨rfl, rfl, rfl, fun c hc => (hb' c hc).2⟩) (fun c hc => own_b65 (hb' c hc)) (by omega) S hz hfr hlo) (fun P a hp => hp) (fun P a v B hp hq => ?_)
  obtain ⟨L, ⟨q1, rfl, q3⟩, q4, q5, q6⟩ := hq
  refine ⟨[], ⟨?_, Fr.nil n0, q3⟩, q4, q5, q6⟩
  rcases q1 with ⟨rfl, q⟩ | ⟨rfl, q⟩
  · rw [own_eqv, if_pos q]
  · rw [own_eqv, if_neg q]
theorem own_nb {f : Int32} (h : f = (0 : Int32) ∨ f = (1 : Int32)) : nar .boolean f = f := by rcases h with rfl | rfl <;> rfl

def own_cs (x len : Int32) : List Int32 := if len = (0 : Int32) then [] else if len = (1 : Int32) then [own_ch1 x] else if len = (2 : Int32) then [own_ch1 x, own_ch1 ((x.toUInt32 >>> ((8 : Int32) &&& 31).toUInt32).toInt32)] else [own_ch1 x, own_ch1 ((x.toUInt32 >>> ((8 : Int32) &&& 31).toUInt32).toInt32), own_ch1 ((x.toUInt32 >>> ((16 : Int32) &&& 31).toUInt32).toInt32)]
theorem own_cs_rng (x len : Int32) : ∀ c ∈ own_cs x len, ¬ c < 0 ∧ ¬ (255 : Int32) < c := by
  intro c hc
  unfold own_cs at hc
  split at hc
  · cases hc
  · split at hc
    · simp only [List.mem_cons, List.not_mem_nil, or_false] at hc
      subst hc; exact own_ch1_rng _
    · split at hc
      · simp only [List.mem_cons, List.not_mem_nil, or_false] at hc
        rcases hc with rfl | rfl <;> exact own_ch1_rng _
      · simp only [List.mem_cons, List.not_mem_nil, or_false] at hc
        rcases hc with rfl | rfl | rfl <;> exact own_ch1_rng _
theorem own_cs_len (x len : Int32) : (own_cs x len).length ≤ 3 := by
  unfold own_cs
  split
  · simp
  · split
    · simp
    · split <;> simp
def own_s3 (p1 p2 p3 : Int32) : Int32 := if p2 < (3 : Int32) then (1 : Int32) else if (((p1.toUInt32 >>> ((16 : Int32) &&& 31).toUInt32).toInt32) &&& (255 : Int32)) = (((p3.toUInt32 >>> ((16 : Int32) &&& 31).toUInt32).toInt32) &&& (255 : Int32)) then (1 : Int32) else (0 : Int32)
def own_s2 (p1 p2 p3 : Int32) : Int32 := if p2 < (2 : Int32) then own_s3 p1 p2 p3 else if (((p1.toUInt32 >>> ((8 : Int32) &&& 31).toUInt32).toInt32) &&& (255 : Int32)) = (((p3.toUInt32 >>> ((8 : Int32) &&& 31).toUInt32).toInt32) &&& (255 : Int32)) then own_s3 p1 p2 p3 else (0 : Int32)
def own_same (p1 p2 p3 p4 : Int32) : Int32 := if p2 = p4 then (if p2 < (1 : Int32) then own_s2 p1 p2 p3 else if (p1 &&& (255 : Int32)) = (p3 &&& (255 : Int32)) then own_s2 p1 p2 p3 else (0 : Int32)) else (0 : Int32)
theorem own_sameIff {x lx y ly : Int32} (h : lx = (0 : Int32) ∨ lx = (1 : Int32) ∨ lx = (2 : Int32) ∨ lx = (3 : Int32)) (h' : ly = (0 : Int32) ∨ ly = (1 : Int32) ∨ ly = (2 : Int32) ∨ ly = (3 : Int32)) : own_same x lx y ly = (if own_cs x lx = own_cs y ly then (1 : Int32) else (0 : Int32)) := by
  have d01 : ¬ ((0 : Int32) = 1) := by decide
  have d02 : ¬ ((0 : Int32) = 2) := by decide
  have d03 : ¬ ((0 : Int32) = 3) := by decide
  have d10 : ¬ ((1 : Int32) = 0) := by decide
  have d12 : ¬ ((1 : Int32) = 2) := by decide
  have d13 : ¬ ((1 : Int32) = 3) := by decide
  have d20 : ¬ ((2 : Int32) = 0) := by decide
  have d21 : ¬ ((2 : Int32) = 1) := by decide
  have d23 : ¬ ((2 : Int32) = 3) := by decide
  have d30 : ¬ ((3 : Int32) = 0) := by decide
  have d31 : ¬ ((3 : Int32) = 1) := by decide
  have d32 : ¬ ((3 : Int32) = 2) := by decide
  have l01 : (0 : Int32) < 1 := by decide
  have l02 : (0 : Int32) < 2 := by decide
  have l03 : (0 : Int32) < 3 := by decide
  have l11 : ¬ (1 : Int32) < 1 := by decide
  have l12 : (1 : Int32) < 2 := by decide
  have l13 : (1 : Int32) < 3 := by decide
  have l21 : ¬ (2 : Int32) < 1 := by decide
  have l22 : ¬ (2 : Int32) < 2 := by decide
  have l23 : (2 : Int32) < 3 := by decide
  have l31 : ¬ (3 : Int32) < 1 := by decide
  have l32 : ¬ (3 : Int32) < 2 := by decide
  have l33 : ¬ (3 : Int32) < 3 := by decide
  unfold own_same own_s2 own_s3 own_cs
  simp only [own_ch1_eq]
  generalize ((x.toUInt32 >>> ((8 : Int32) &&& 31).toUInt32).toInt32) &&& (255 : Int32) = xb
  generalize ((x.toUInt32 >>> ((16 : Int32) &&& 31).toUInt32).toInt32) &&& (255 : Int32) = xc
  generalize ((y.toUInt32 >>> ((8 : Int32) &&& 31).toUInt32).toInt32) &&& (255 : Int32) = yb
  generalize ((y.toUInt32 >>> ((16 : Int32) &&& 31).toUInt32).toInt32) &&& (255 : Int32) = yc
  generalize x &&& (255 : Int32) = xa
  generalize y &&& (255 : Int32) = ya
  rcases h with rfl | rfl | rfl | rfl <;> rcases h' with rfl | rfl | rfl | rfl <;> simp only [d01, d02, d03, d10, d12, d13, d20, d21, d23, d30, d31, d32, l01, l02, l03, l11, l12, l13, l21, l22, l23, l31, l32, l33, if_true, if_false, ↓reduceIte, List.cons.injEq, and_true, reduceCtorEq, and_false] <;>
    (by_cases ea : xa = ya <;> by_cases eb : xb = yb <;> by_cases ec : xc = yc <;> simp [ea, eb, ec])
def own_eqc (a b : Int32) (cs ds : List Int32) : Int32 := if a = b then (if own_eqv cs ds = (0 : Int32) then (0 : Int32) else (1 : Int32)) else (0 : Int32)
theorem own_finA {f1 f2 x lx y ly : Int32} (hx : lx = (0 : Int32) ∨ lx = (1 : Int32) ∨ lx = (2 : Int32) ∨ lx = (3 : Int32)) (hy : ly = (0 : Int32) ∨ ly = (1 : Int32) ∨ ly = (2 : Int32) ∨ ly = (3 : Int32)) (e : f1 = f2) (q : ¬ own_same x lx y ly = (0 : Int32)) : own_eqc (nar .boolean f1) (nar .boolean f2) (own_cs x lx) (own_cs y ly) = (1 : Int32) := by
  subst e
  rw [own_sameIff hx hy] at q
  by_cases c : own_cs x lx = own_cs y ly
  · rw [own_eqc, if_pos rfl, own_eqv, if_pos c]; rfl
  · rw [if_neg c] at q; exact absurd rfl q
theorem own_finB {f1 f2 x lx y ly : Int32} (hx : lx = (0 : Int32) ∨ lx = (1 : Int32) ∨ lx = (2 : Int32) ∨ lx = (3 : Int32)) (hy : ly = (0 : Int32) ∨ ly = (1 : Int32) ∨ ly = (2 : Int32) ∨ ly = (3 : Int32)) (e : f1 = f2) (q : own_same x lx y ly = (0 : Int32)) : own_eqc (nar .boolean f1) (nar .boolean f2) (own_cs x lx) (own_cs y ly) = (0 : Int32) := by
  subst e
  rw [own_sameIff hx hy] at q
  by_cases c : own_cs x lx = own_cs y ly
  · rw [if_pos c] at q; exact absurd q (by decide)
  · rw [own_eqc, if_pos rfl, own_eqv, if_neg c]; rfl
theorem own_finC {f1 f2 : Int32} {cs ds : List Int32} (h1 : f1 = (0 : Int32) ∨ f1 = (1 : Int32)) (h2 : f2 = (0 : Int32) ∨ f2 = (1 : Int32)) (e : ¬ f1 = f2) : own_eqc (nar .boolean f1) (nar .boolean f2) cs ds = (0 : Int32) := by
  rw [own_nb h1, own_nb h2, own_eqc, if_neg e]
theorem own_finD {f1 f2 : Int32} {cs : List Int32} (e : f1 = f2) : own_eqc (nar .boolean f1) (nar .boolean f2) cs cs = (1 : Int32) := by
  subst e
  rw [own_eqc, if_pos rfl, own_eqv, if_pos rfl]; rfl

theorem own_i_Record_ef (m : MethodId) (x0 : Addr) : entryFrame m #[(.ref x0)] 1 = mkF m 0 #[.val (.ref x0)] [] := by first | (simp [entryFrame, mkF, argsToLocals, Value.category]; done) | rfl
def own_i_Record_Q (Z : State) (a1 : Addr) (h0 : Heap) (n0 : Nat) (v : Option Value) (h : Heap) (L : List Loc) : Prop := (v = none ∧ Fr n0 L ∧ h = h0)
set_option maxRecDepth 65536 in
set_option maxHeartbeats 40000000 in
theorem own_i_Record (l : Launch) (Z : State) (a0 : Array Value) (hw : ∀ d ∈ tables_1, d.before a0 Z = true) (ws : List Jvm.Cond) (a1 : Addr) (h0 : Heap) (n0 : Nat) (Z0 : n0 ≤ h0.size)  :
    MetFree l (⟨"java/lang/Record", "<init>", "()V"⟩ : MethodName) (head1 (Jvm.Cond.code (⟨"java/lang/Record", "<init>", "()V"⟩ : MethodName) jdk_30_method_1_code 1 none :: ws) ({ frames := 1, cells := 0, slots := 0, locals := 12 } : Room)) (fun a U => a = #[(.ref a1)] ∧ Z.Warmed39 U.vm ∧ U.heap = h0) (fun _ _ _ _ _ => True) (fun _ U o U' => ∃ v L, o = .returned v ∧ own_i_Record_Q Z a1 h0 n0 v U'.heap L ∧ FrameEnd U o U' L ({ frames := 1, cells := 0, slots := 0, locals := 12 } : Room).cells ({ frames := 1, cells := 0, slots := 0, locals := 12 } : Room).slots) := by
  refine MetFree.of_bodySF (plainFor_of_name own_pn0) hisR ?_
  intro p e s m args below meth c s₁ Bd hml0 hP hK
  obtain ⟨rfl, hZ, hh⟩ := hP
  have hx := Bd.exec
  have hby := Bd.bytes
  have hlk : meth.locks = false := BodyLoose.notSynchronized Bd
  have hml : c.maxLocals = 1 := hml0
  have hown : s.vm.findClass "java/lang/Record" = some m.cls := findClass_of_methodNamed Bd.named
  have hnm := (name_of_methodNamed Bd.named Bd.method).1
  have X0 : Stand p l e ({ frames := 1, cells := 0, slots := 0, locals := 12 } : Room) s m #[(.ref a1)] below meth c s₁ [] 0 0 := Stand.of_body Bd
  have e0 : s₁.heap = h0 := by rw [← hh, Bd.state]; rfl
  have N0 := Fr.nil n0
  refine own_start (QQ := own_i_Record_Q Z a1 h0 n0) (rc := ({ frames := 1, cells := 0, slots := 0, locals := 12 } : Room).cells) (rs := ({ frames := 1, cells := 0, slots := 0, locals := 12 } : Room).slots) (own_i_Record_ef m a1 ) ?_
  show own_G p.tables e below _ (s₁.setTop (mkF m 0 #[.val (.ref a1)] []))
  refine own_fs (XS.aloadN X0.here hx rfl (hb hby own_d9_0) rfl rfl (Steps.refl _)) ?_
  show own_G p.tables e below _ (s₁.setTop (mkF m 1 #[.val (.ref a1)] [(.ref a1)]))
  obtain ⟨T1, X1, e1, st1⟩ := initO X0 hx hZ hown (hw _ (List.mem_of_getElem? (i := 45) rfl)) (hw _ (List.mem_of_getElem? (i := 19) rfl)) (hw _ (List.mem_of_getElem? (i := 20) rfl)) e0 (g := (mkF m 1 #[.val (.ref a1)] [(.ref a1)])) rfl (by rw [hml]; rfl) rfl (hb hby own_d9_1) (by decide) (W := 0) (by show 2 * 0 + _ ≤ _; exact Nat.le_of_eq rfl) (by decide)
  refine own_fs (st1 _ (Steps.refl _)) ?_
  show own_G p.tables e below _ (T1.setTop (mkF m 4 #[.val (.ref a1)] []))
  exact own_retV X1 hx Bd.returns hlk (hb hby own_d9_4) (by decide) (by decide) e1 ⟨rfl, N0, rfl⟩
theorem own_iS0_ef (m : MethodId) (x0 : Addr) (x1 : Addr) (x2 : Int32) (x3 : Int32) : entryFrame m #[(.ref x0), (.ref x1), (.int x2), (.int x3), .null] 6 = mkF m 0 #[.val (.ref x0), .val (.ref x1), .val (.int x2), .val (.int x3), .val .null, .unset] [] := by first | (simp [entryFrame, mkF, argsToLocals, Value.category]; done) | rfl
def own_iS0_Q (Z : State) (a1 : Addr) (ca : Addr) (u2 : Int32) (h0 : Heap) (n0 : Nat) (v : Option Value) (h : Heap) (L : List Loc) : Prop := ∃ tt : Addr, ∃ kt : ClassId, (v = none ∧ Fr n0 L ∧ Keep h0 h [a1] ∧ (Exa Z h a1 "java/lang/String") ∧ (Fld Z h a1 "java/lang/String" "coder" "B" (.int (0 : Int32))) ∧ (Fld Z h a1 "java/lang/String" "value" "[B" (.ref tt)) ∧ (Arv Z h tt kt .byte (0 : Int32) [] (.int (0 : Int32))))
set_option maxRecDepth 65536 in
set_option maxHeartbeats 40000000 in
theorem own_iS0 (l : Launch) (Z : State) (a0 : Array Value) (hw : ∀ d ∈ tables_1, d.before a0 Z = true) (ws : List Jvm.Cond) (a1 : Addr) (ca : Addr) (u2 : Int32) (h0 : Heap) (n0 : Nat) (Z0 : n0 ≤ h0.size) (hE_a1 : Exa Z h0 a1 "java/lang/String") (hF_value_a1 : Fld Z h0 a1 "java/lang/String" "value" "[B" .null) (hF_coder_a1 : Fld Z h0 a1 "java/lang/String" "coder" "B" (.int u2)) (ge_a1 : n0 ≤ a1) :
    MetFree l (⟨"java/lang/String", "<init>", "([CIILjava/lang/Void;)V"⟩ : MethodName) (head1 (Jvm.Cond.code (⟨"java/lang/String", "<init>", "([CIILjava/lang/Void;)V"⟩ : MethodName) jdk_42_method_149_code 6 none :: ws) ({ frames := 1, cells := 4, slots := 8, locals := 12 } : Room)) (fun a U => a = #[(.ref a1), (.ref ca), (.int (0 : Int32)), (.int (0 : Int32)), .null] ∧ Z.Warmed39 U.vm ∧ U.heap = h0 ∧ CHv Z own_EL U.vm h0) (fun _ _ _ _ _ => True) (fun _ U o U' => ∃ v L, o = .returned v ∧ own_iS0_Q Z a1 ca u2 h0 n0 v U'.heap L ∧ CHr Z own_EL U.vm U.heap U'.vm U'.heap ∧ ReturnedEndW U o U' L ({ frames := 1, cells := 4, slots := 8, locals := 12 } : Room).cells ({ frames := 1, cells := 4, slots := 8, locals := 12 } : Room).slots) := by
  refine MetFree.of_bodySF (plainFor_of_name own_pn1) hisR ?_
  intro p e s m args below meth c s₁ Bd hml0 hP hK
  obtain ⟨rfl, hZ, hh, CH0⟩ := hP
  have hx := Bd.exec
  have hby := Bd.bytes
  have hlk : meth.locks = false := BodyLoose.notSynchronized Bd
  have hml : c.maxLocals = 6 := hml0
  have hown : s.vm.findClass "java/lang/String" = some m.cls := findClass_of_methodNamed Bd.named
  have hnm := (name_of_methodNamed Bd.named Bd.method).1
  have X0 : Stand p l e ({ frames := 1, cells := 4, slots := 8, locals := 12 } : Room) (s.setVm s.vm) m #[(.ref a1), (.ref ca), (.int (0 : Int32)), (.int (0 : Int32)), .null] below meth c s₁ [] 0 0 := Stand.of_body Bd
  have e0 : s₁.heap = h0 := by rw [← hh, Bd.state]; rfl
  have N0 := Fr.nil n0
  have hEL : EW Z a0 own_EL := own_ew hw
  have hS0 : s.Since s.vm 0 := (State.WarmedH.refl s).since 0
  have hk0 : 0 ≤ h0.size := Nat.zero_le _
  have R0 := CHr.refl CH0
  refine own_startW (QQ := own_iS0_Q Z a1 ca u2 h0 n0) (rc := ({ frames := 1, cells := 4, slots := 8, locals := 12 } : Room).cells) (rs := ({ frames := 1, cells := 4, slots := 8, locals := 12 } : Room).slots) hh (own_iS0_ef m a1 ca (0 : Int32) (0 : Int32) ) ?_
  have Sf_a1 := own_safe0 (EL := own_EL) hZ.alike hE_a1 hF_value_a1
  show own_G p.tables e below _ (s₁.setTop (mkF m 0 #[.val (.ref a1), .val (.ref ca), .val (.int (0 : Int32)), .val (.int (0 : Int32)), .val .null, .unset] []))
  refine own_fs (XS.aloadN X0.here hx rfl (hb hby own_d3_0) rfl rfl (Steps.refl _)) ?_
  show own_G p.tables e below _ (s₁.setTop (mkF m 1 #[.val (.ref a1), .val (.ref ca), .val (.int (0 : Int32)), .val (.int (0 : Int32)), .val .null, .unset] [(.ref a1)]))
  obtain ⟨T1, X1, e1, st1⟩ := initO X0 hx hZ hown (hw _ (List.mem_of_getElem? (i := 18) rfl)) (hw _ (List.mem_of_getElem? (i := 19) rfl)) (hw _ (List.mem_of_getElem? (i := 20) rfl)) e0 (g := (mkF m 1 #[.val (.ref a1), .val (.ref ca), .val (.int (0 : Int32)), .val (.int (0 : Int32)), .val .null, .unset] [(.ref a1)])) rfl (by rw [hml]; rfl) rfl (hb hby own_d3_1) (by decide) (W := 0) (by show 2 * 0 + _ ≤ _; exact Nat.le_of_eq rfl) (by decide)
  refine own_fs (st1 _ (Steps.refl _)) ?_
  show own_G p.tables e below _ (T1.setTop (mkF m 4 #[.val (.ref a1), .val (.ref ca), .val (.int (0 : Int32)), .val (.int (0 : Int32)), .val .null, .unset] []))
  refine own_fs (XS.iloadN X1.here hx rfl (hb hby own_d3_4) rfl (Steps.refl _)) ?_
  show own_G p.tables e below _ (T1.setTop (mkF m 5 #[.val (.ref a1), .val (.ref ca), .val (.int (0 : Int32)), .val (.int (0 : Int32)), .val .null, .unset] [(.int (0 : Int32))]))
  refine own_fs (XS.ifNo X1.here hx rfl (hb hby own_d3_5) rfl (XT.i0_ne_f (by decide : (0 : Int32) = (0 : Int32))) (Steps.refl _)) ?_
  show own_G p.tables e below _ (T1.setTop (mkF m 8 #[.val (.ref a1), .val (.ref ca), .val (.int (0 : Int32)), .val (.int (0 : Int32)), .val .null, .unset] []))
  refine own_fs (XS.aloadN X1.here hx rfl (hb hby own_d3_8) rfl rfl (Steps.refl _)) ?_
  show own_G p.tables e below _ (T1.setTop (mkF m 9 #[.val (.ref a1), .val (.ref ca), .val (.int (0 : Int32)), .val (.int (0 : Int32)), .val .null, .unset] [(.ref a1)]))
  obtain ⟨la2, T2, h2, k2, lb2, kb2, X2, e2, E2, hS2, hk2, hZ, hown, PE2, PC2, PV2, PA2, -, -, hR2, -, hne2, st2⟩ := ldcCH X1 hx hZ hown (hw _ (List.mem_of_getElem? (i := 50) rfl)) (own_wS hw) e1 hS0 hk0 hEL (List.mem_of_getElem? (i := 0) rfl) CH0 (vs := []) (z := (0 : Int32)) (own_txt_0) (by decide) (by decide) (g := (mkF m 9 #[.val (.ref a1), .val (.ref ca), .val (.int (0 : Int32)), .val (.int (0 : Int32)), .val .null, .unset] [(.ref a1)])) rfl (hb hby own_d3_9) (n := 0) (by decide) (by decide) (by decide) (by decide)
  have Sf2_a1 := CHr.safe hR2 (Exa.lt hE_a1) Sf_a1
  have RR2 := CHr.trans R0 hR2
  have CH2 := hR2.1
  refine own_fs (st2 _ (Steps.refl _)) ?_
  show own_G p.tables e below _ (T2.setTop (mkF m 11 #[.val (.ref a1), .val (.ref ca), .val (.int (0 : Int32)), .val (.int (0 : Int32)), .val .null, .unset] [(.ref la2), (.ref a1)]))
  obtain ⟨T3, X3, e3, st3⟩ := getF X2 hx hZ hown (host := "") (Or.inl (hw _ (List.mem_of_getElem? (i := 35) rfl))) Via.refl e2 PV2 (g := (mkF m 11 #[.val (.ref a1), .val (.ref ca), .val (.int (0 : Int32)), .val (.int (0 : Int32)), .val .null, .unset] [(.ref la2), (.ref a1)])) rfl rfl (hb hby own_d3_11)
  refine own_fs (st3 _ (Steps.refl _)) ?_
  show own_G p.tables e below _ (T3.setTop (mkF m 14 #[.val (.ref a1), .val (.ref ca), .val (.int (0 : Int32)), .val (.int (0 : Int32)), .val .null, .unset] [(.ref lb2), (.ref a1)]))
  obtain ⟨T4, h4, X4, e4, W4, st4⟩ := putF X3 hx hZ hown (host := "") (Or.inl (hw _ (List.mem_of_getElem? (i := 35) rfl))) Via.refl e3 (Fld.ext E2 hF_value_a1) (Exa.ext E2 hE_a1) (Or.inr ⟨(hw _ (List.mem_of_getElem? (i := 36) rfl)), rfl, hnm⟩) (hw _ (List.mem_of_getElem? (i := 8) rfl)) (ty := (.array .byte)) (by decide) rfl rfl (g := (mkF m 14 #[.val (.ref a1), .val (.ref ca), .val (.int (0 : Int32)), .val (.int (0 : Int32)), .val .null, .unset] [(.ref lb2), (.ref a1)])) rfl rfl (hb hby own_d3_14)
  refine own_fs (st4 _ (Steps.refl _)) ?_
  have Fw4 := Fld.same W4 (Fld.ext E2 hF_value_a1)
  have CH5 := CHv.wr W4 Sf2_a1 CH2
  have RR5 := CHr.trans RR2 (CHr.wr W4 Sf2_a1 CH2)
  have Sf5_a1 := Safe.wr W4 Sf2_a1 CH2 Sf2_a1
  have N4 := Fr.snoc X4 N0 ge_a1
  show own_G p.tables e below _ (T4.setTop (mkF m 17 #[.val (.ref a1), .val (.ref ca), .val (.int (0 : Int32)), .val (.int (0 : Int32)), .val .null, .unset] []))
  refine own_fs (XS.aloadN X4.here hx rfl (hb hby own_d3_17) rfl rfl (Steps.refl _)) ?_
  show own_G p.tables e below _ (T4.setTop (mkF m 18 #[.val (.ref a1), .val (.ref ca), .val (.int (0 : Int32)), .val (.int (0 : Int32)), .val .null, .unset] [(.ref a1)]))
  obtain ⟨la6, T6, h6, k6, lb6, kb6, X6, e6, E6, hS6, hk6, hZ, hown, PE6, PC6, PV6, PA6, -, -, hR6, -, hne6, st6⟩ := ldcCH X4 hx hZ hown (hw _ (List.mem_of_getElem? (i := 50) rfl)) (own_wS hw) e4 hS2 (Nat.le_trans hk2 (Keep.of_wr W4).1) hEL (List.mem_of_getElem? (i := 0) rfl) CH5 (vs := []) (z := (0 : Int32)) (own_txt_0) (by decide) (by decide) (g := (mkF m 18 #[.val (.ref a1), .val (.ref ca), .val (.int (0 : Int32)), .val (.int (0 : Int32)), .val .null, .unset] [(.ref a1)])) rfl (hb hby own_d3_18) (n := 0) (by decide) (by decide) (by decide) (by decide)
  have Sf6_a1 := CHr.safe hR6 (Exa.lt (Exa.wr W4 (Exa.ext E2 hE_a1))) Sf5_a1
  have RR6 := CHr.trans RR5 hR6
  have CH6 := hR6.1
  refine own_fs (st6 _ (Steps.refl _)) ?_
  show own_G p.tables e below _ (T6.setTop (mkF m 20 #[.val (.ref a1), .val (.ref ca), .val (.int (0 : Int32)), .val (.int (0 : Int32)), .val .null, .unset] [(.ref la6), (.ref a1)]))
  obtain ⟨T7, X7, e7, st7⟩ := getF X6 hx hZ hown (host := "") (Or.inl (hw _ (List.mem_of_getElem? (i := 33) rfl))) Via.refl e6 PC6 (g := (mkF m 20 #[.val (.ref a1), .val (.ref ca), .val (.int (0 : Int32)), .val (.int (0 : Int32)), .val .null, .unset] [(.ref la6), (.ref a1)])) rfl rfl (hb hby own_d3_20)
  refine own_fs (st7 _ (Steps.refl _)) ?_
  show own_G p.tables e below _ (T7.setTop (mkF m 23 #[.val (.ref a1), .val (.ref ca), .val (.int (0 : Int32)), .val (.int (0 : Int32)), .val .null, .unset] [(.int (0 : Int32)), (.ref a1)]))
  obtain ⟨T8, h8, X8, e8, W8, st8⟩ := putFN X7 hx hZ hown (hw _ (List.mem_of_getElem? (i := 33) rfl)) Via.refl e7 (Fld.ext E6 (Fld.other W4 (Fld.ext E2 hF_coder_a1) (Or.inr (slot_ne (Or.inr (hw _ (List.mem_of_getElem? (i := 34) rfl))) (Or.inr (hw _ (List.mem_of_getElem? (i := 36) rfl))) (by decide) (t := .byte) (t' := (.array .byte)) (by decide) (by decide))))) (Exa.ext E6 (Exa.wr W4 (Exa.ext E2 hE_a1))) (Or.inr ⟨(hw _ (List.mem_of_getElem? (i := 34) rfl)), rfl, hnm⟩) (hw _ (List.mem_of_getElem? (i := 8) rfl)) (ty := .byte) (v' := .int (nar .byte (0 : Int32))) (by decide) rfl (fits_nar_byte _) (g := (mkF m 23 #[.val (.ref a1), .val (.ref ca), .val (.int (0 : Int32)), .val (.int (0 : Int32)), .val .null, .unset] [(.int (0 : Int32)), (.ref a1)])) rfl rfl (hb hby own_d3_23)
  refine own_fs (st8 _ (Steps.refl _)) ?_
  have Fw8 := Fld.same W8 (Fld.ext E6 (Fld.other W4 (Fld.ext E2 hF_coder_a1) (Or.inr (slot_ne (Or.inr (hw _ (List.mem_of_getElem? (i := 34) rfl))) (Or.inr (hw _ (List.mem_of_getElem? (i := 36) rfl))) (by decide) (t := .byte) (t' := (.array .byte)) (by decide) (by decide)))))
  have CH9 := CHv.wr W8 Sf6_a1 CH6
  have RR9 := CHr.trans RR6 (CHr.wr W8 Sf6_a1 CH6)
  have Sf9_a1 := Safe.wr W8 Sf6_a1 CH6 Sf6_a1
  have N8 := Fr.snoc X8 N4 ge_a1
  show own_G p.tables e below _ (T8.setTop (mkF m 26 #[.val (.ref a1), .val (.ref ca), .val (.int (0 : Int32)), .val (.int (0 : Int32)), .val .null, .unset] []))
  exact own_retVW X8 hx Bd.returns hlk (hb hby own_d3_26) (by decide) (by decide) e8 hS6 (Nat.le_trans hk6 (Keep.of_wr W8).1) (by rw [hh]; exact RR9.trans (CHv.at X8 hZ hEL CH9)) ⟨lb2, kb2, rfl, N8, (((((Keep.refl _ _).ext E2).wr W4 (Or.inl (List.mem_of_getElem? (i := 0) rfl))).ext E6).wr W8 (Or.inl (List.mem_of_getElem? (i := 0) rfl))), (Exa.wr W8 (Exa.ext E6 (Exa.wr W4 (Exa.ext E2 hE_a1)))), Fw8, (Fld.other W8 (Fld.ext E6 Fw4) (Or.inr (slot_ne (Or.inr (hw _ (List.mem_of_getElem? (i := 36) rfl))) (Or.inr (hw _ (List.mem_of_getElem? (i := 34) rfl))) (by decide) (t := (.array .byte)) (t' := .byte) (by decide) (by decide)))), (((PA2.other W4 (Ne.symm (hne2 _ Sf2_a1).2)).ext E6).other W8 (Ne.symm (hne2 _ Sf2_a1).2))⟩
theorem own_iSC0_ef (m : MethodId) (x0 : Addr) (x1 : Addr) : entryFrame m #[(.ref x0), (.ref x1)] 2 = mkF m 0 #[.val (.ref x0), .val (.ref x1)] [] := by first | (simp [entryFrame, mkF, argsToLocals, Value.category]; done) | rfl
def own_iSC0_Q (Z : State) (a1 : Addr) (ca : Addr) (u2 : Int32) (kc : ClassId) (h0 : Heap) (n0 : Nat) (v : Option Value) (h : Heap) (L : List Loc) : Prop := ∃ tt : Addr, ∃ kt : ClassId, (v = none ∧ Fr n0 L ∧ Keep h0 h [a1] ∧ (Exa Z h a1 "java/lang/String") ∧ (Fld Z h a1 "java/lang/String" "coder" "B" (.int (0 : Int32))) ∧ (Fld Z h a1 "java/lang/String" "value" "[B" (.ref tt)) ∧ (Arv Z h tt kt .byte (0 : Int32) [] (.int (0 : Int32))))
set_option maxRecDepth 65536 in
set_option maxHeartbeats 40000000 in
theorem own_iSC0 (l : Launch) (Z : State) (a0 : Array Value) (hw : ∀ d ∈ tables_1, d.before a0 Z = true) (ws : List Jvm.Cond) (a1 : Addr) (ca : Addr) (u2 : Int32) (kc : ClassId) (h0 : Heap) (n0 : Nat) (Z0 : n0 ≤ h0.size) (hE_a1 : Exa Z h0 a1 "java/lang/String") (hF_value_a1 : Fld Z h0 a1 "java/lang/String" "value" "[B" .null) (hF_coder_a1 : Fld Z h0 a1 "java/lang/String" "coder" "B" (.int u2)) (ge_a1 : n0 ≤ a1) (hV_ca : Arv Z h0 ca kc .char (0 : Int32) [] (.int (0 : Int32))) :
    MetFree l (⟨"java/lang/String", "<init>", "([C)V"⟩ : MethodName) (head1 (Jvm.Cond.code (⟨"java/lang/String", "<init>", "([C)V"⟩ : MethodName) jdk_42_method_3_code 2 none :: ws) ({ frames := 2, cells := 4, slots := 8, locals := 29 } : Room)) (fun a U => a = #[(.ref a1), (.ref ca)] ∧ Z.Warmed39 U.vm ∧ U.heap = h0 ∧ CHv Z own_EL U.vm h0) (fun _ _ _ _ _ => True) (fun _ U o U' => ∃ v L, o = .returned v ∧ own_iSC0_Q Z a1 ca u2 kc h0 n0 v U'.heap L ∧ CHr Z own_EL U.vm U.heap U'.vm U'.heap ∧ ReturnedEndW U o U' L ({ frames := 2, cells := 4, slots := 8, locals := 29 } : Room).cells ({ frames := 2, cells := 4, slots := 8, locals := 29 } : Room).slots) := by
  refine MetFree.of_bodySF (plainFor_of_name own_pn1) hisR ?_
  intro p e s m args below meth c s₁ Bd hml0 hP hK
  obtain ⟨rfl, hZ, hh, CH0⟩ := hP
  have hx := Bd.exec
  have hby := Bd.bytes
  have hlk : meth.locks = false := BodyLoose.notSynchronized Bd
  have hml : c.maxLocals = 2 := hml0
  have hown : s.vm.findClass "java/lang/String" = some m.cls := findClass_of_methodNamed Bd.named
  have hnm := (name_of_methodNamed Bd.named Bd.method).1
  have X0 : Stand p l e ({ frames := 2, cells := 4, slots := 8, locals := 29 } : Room) (s.setVm s.vm) m #[(.ref a1), (.ref ca)] below meth c s₁ [] 0 0 := Stand.of_body Bd
  have e0 : s₁.heap = h0 := by rw [← hh, Bd.state]; rfl
  have N0 := Fr.nil n0
  have hEL : EW Z a0 own_EL := own_ew hw
  have hS0 : s.Since s.vm 0 := (State.WarmedH.refl s).since 0
  have hk0 : 0 ≤ h0.size := Nat.zero_le _
  have R0 := CHr.refl CH0
  refine own_startW (QQ := own_iSC0_Q Z a1 ca u2 kc h0 n0) (rc := ({ frames := 2, cells := 4, slots := 8, locals := 29 } : Room).cells) (rs := ({ frames := 2, cells := 4, slots := 8, locals := 29 } : Room).slots) hh (own_iSC0_ef m a1 ca ) ?_
  show own_G p.tables e below _ (s₁.setTop (mkF m 0 #[.val (.ref a1), .val (.ref ca)] []))
  refine own_fs (XS.aloadN X0.here hx rfl (hb hby own_d2_0) rfl rfl (Steps.refl _)) ?_
  show own_G p.tables e below _ (s₁.setTop (mkF m 1 #[.val (.ref a1), .val (.ref ca)] [(.ref a1)]))
  refine own_fs (XS.aloadN X0.here hx rfl (hb hby own_d2_1) rfl rfl (Steps.refl _)) ?_
  show own_G p.tables e below _ (s₁.setTop (mkF m 2 #[.val (.ref a1), .val (.ref ca)] [(.ref ca), (.ref a1)]))
  refine own_fs (XS.iconst X0.here hx rfl (hb hby own_d2_2) (Steps.refl _)) ?_
  show own_G p.tables e below _ (s₁.setTop (mkF m 3 #[.val (.ref a1), .val (.ref ca)] [(.int (0 : Int32)), (.ref ca), (.ref a1)]))
  refine own_fs (XS.aloadN X0.here hx rfl (hb hby own_d2_3) rfl rfl (Steps.refl _)) ?_
  show own_G p.tables e below _ (s₁.setTop (mkF m 4 #[.val (.ref a1), .val (.ref ca)] [(.ref ca), (.int (0 : Int32)), (.ref ca), (.ref a1)]))
  obtain ⟨cl1, Ar1, -, S1, O1, -, -⟩ := (id hV_ca)
  have sl1 := X0.arraylength hx (by rw [e0]; exact Ar1.1) (State.isArrayOf_alike hZ.alike Ar1.2.1) (g := (mkF m 4 #[.val (.ref a1), .val (.ref ca)] [(.ref ca), (.int (0 : Int32)), (.ref ca), (.ref a1)])) rfl rfl (hb hby own_d2_4) _ (Steps.refl _)
  rw [len_of S1 O1] at sl1
  refine own_fs sl1 ?_
  show own_G p.tables e below _ (s₁.setTop (mkF m 5 #[.val (.ref a1), .val (.ref ca)] [(.int (0 : Int32)), (.int (0 : Int32)), (.ref ca), (.ref a1)]))
  refine own_fs (XS.aconstNull X0.here hx rfl (hb hby own_d2_5) (Steps.refl _)) ?_
  show own_G p.tables e below _ (s₁.setTop (mkF m 6 #[.val (.ref a1), .val (.ref ca)] [.null, (.int (0 : Int32)), (.int (0 : Int32)), (.ref ca), (.ref a1)]))
  have Zs5 : n0 ≤ h0.size := Z0
  obtain ⟨_, _, ⟨T4, L4, k4, n4⟩, -, X4', hS4', gr4, ⟨Lc4, hQ4, l4, y4, z4, hR4⟩, st4⟩ := X0.specialBackS hx (y := (⟨"java/lang/String", "<init>", "([CIILjava/lang/Void;)V"⟩ : MethodName)) rfl hown (mvT hZ (hw _ (List.mem_of_getElem? (i := 14) rfl))) (mvT hZ (hw _ (List.mem_of_getElem? (i := 15) rfl))) (mvT hZ (hw _ (List.mem_of_getElem? (i := 17) rfl))) (by decide) (backOfSH (s := s) (vm0 := s.vm) (W := 0) (own_iS0 l Z a0 hw [] a1 ca u2 h0 n0 Zs5 hE_a1 hF_value_a1 hF_coder_a1 ge_a1) hZ (hw _ (List.mem_of_getElem? (i := 17) rfl)) (hw _ (List.mem_of_getElem? (i := 9) rfl)) (by decide) (by decide) hEL CH0) (g := (mkF m 6 #[.val (.ref a1), .val (.ref ca)] [.null, (.int (0 : Int32)), (.int (0 : Int32)), (.ref ca), (.ref a1)])) rfl (by rw [hml]; rfl) (Steps.refl _) (a := a1) (argsL := [(.ref ca), (.int (0 : Int32)), (.int (0 : Int32)), .null]) (rest := []) (lenOf own_pd0 rfl) rfl (by show 2 * 0 + _ ≤ _; exact Nat.le_of_eq rfl) (hb hby own_d2_6) (fun _ _ => ⟨rfl, e0, (by decide : 0 + 4 ≤ _), (by decide : 0 + 8 ≤ _)⟩)
  dsimp only [Pt.U, Pt.locs, Pt.cells, Pt.slots] at X4' hS4' gr4 l4 y4 z4 st4 hQ4 hR4
  subst l4 y4 z4
  obtain ⟨X4, hS4, hZ, hown⟩ := rebS hS0 (by rw [e0]; exact hk0) X4' hS4' gr4 hZ hown
  obtain ⟨h4, e4⟩ : ∃ h, T4.heap = h := ⟨_, rfl⟩
  rw [e4] at hQ4 hS4 hR4
  obtain ⟨tt2, kt2, rfl, Nq4, K4, P3_0, P3_1, P3_2, P3_3⟩ := hQ4
  have RR4 := CHr.trans R0 hR4
  have CH4 := hR4.1
  have N4 := Fr.app N0 Nq4
  refine own_fs st4 ?_
  show own_G p.tables e below _ (T4.setTop (mkF m 9 #[.val (.ref a1), .val (.ref ca)] []))
  exact own_retVW X4 hx Bd.returns hlk (hb hby own_d2_9) (by decide) (by decide) e4 hS4 (Nat.le_refl _) (by rw [hh]; exact RR4.trans (CHv.at X4 hZ hEL CH4)) ⟨tt2, kt2, rfl, N4, ((Keep.refl _ _).trans K4 (allS (Or.inl (List.mem_of_getElem? (i := 0) rfl)) all0)), P3_0, P3_1, P3_2, P3_3⟩
theorem own_sub0 {vm : Vm} {c t : ClassId} {k : Class} (h1 : vm.classes[c]? = some k) (h2 : k.super = none) (ne : c ≠ t) (f : Nat) : vm.isSubclassAux f c t = false := by
  cases f with
  | zero => rfl
  | succ f => simp [Vm.isSubclassAux, ne, h1, h2]
theorem own_sub1 {vm : Vm} {c t q : ClassId} {k : Class} (h1 : vm.classes[c]? = some k) (h2 : k.super = some q) (ne : c ≠ t) (ih : ∀ f, vm.isSubclassAux f q t = false) (f : Nat) : vm.isSubclassAux f c t = false := by
  cases f with
  | zero => rfl
  | succ f => simp [Vm.isSubclassAux, ne, h1, h2, ih]
theorem own_notsub {Z : State} {a0 : Array Value} {A B K : String} {n : Nat} (w0 : (Jvm.Cond.noSuperclass "java/lang/Object").before a0 Z = true) (w1 : (Jvm.Cond.superclass B "java/lang/Object").before a0 Z = true) (w2 : (Jvm.Cond.superclass A B).before a0 Z = true)
    (wk : (Jvm.Cond.instantiable K n).before a0 Z = true) (n1 : A ≠ K) (n2 : B ≠ K) (n3 : "java/lang/Object" ≠ K) : ∃ c t, Z.vm.findClass A = some c ∧ Z.vm.findClass K = some t ∧ Z.vm.assignable c t = false := by
  obtain ⟨t, kt, t1, t2, t3, t4, -⟩ := Cond.instantiable_spec wk
  obtain ⟨co, ko, o1, o2, o3, -⟩ := Cond.noSuperclass_spec w0
  obtain ⟨cn, n0⟩ := found_sup w1
  obtain ⟨cl, l0⟩ := found_sup w2
  obtain ⟨p1, k1, kp1, a1, a2, a3, a4, -⟩ := Cond.superclass_spec n0 w1
  obtain ⟨p2, k2, kp2, b1, b2, b3, b4, b5, -, b7⟩ := Cond.superclass_spec l0 w2
  cases o1.symm.trans a1
  cases n0.symm.trans b1
  have key : ∀ f, Z.vm.isSubclassAux f cl t = false := own_sub1 b2 b4 (ids_ne l0 t1 n1) (own_sub1 a2 a4 (ids_ne n0 t1 n2) (own_sub0 o2 o3 (ids_ne o1 t1 n3)))
  refine ⟨cl, t, l0, t1, ?_⟩
  simp only [Bool.or_eq_false_iff] at t4
  show Z.vm.assignableAux (255 + 1) cl t = false
  simp [Vm.assignableAux, ids_ne l0 t1 n1, b2, t2, b5, t3, t4.1, Vm.isSubclass, key]

theorem own_str_ef (m : MethodId) (x0 : Int32) (x1 : Int32) : entryFrame m #[(.int x0), (.int x1)] 5 = mkF m 0 #[.val (.int x0), .val (.int x1), .unset, .unset, .unset] [] := by first | (simp [entryFrame, mkF, argsToLocals, Value.category]; done) | rfl
def own_str_Q (Z : State) (p1 : Int32) (p2 : Int32) (cz : Int32) (h0 : Heap) (n0 : Nat) (v : Option Value) (h : Heap) (L : List Loc) : Prop := ∃ ar : Addr, ∃ tt : Addr, ∃ kt : ClassId, (v = some (.ref ar) ∧ Fr n0 L ∧ Keep h0 h [] ∧ (Exa Z h ar "java/lang/String") ∧ (Fld Z h ar "java/lang/String" "value" "[B" (.ref tt)) ∧ (Fld Z h ar "java/lang/String" "coder" "B" (.int (0 : Int32))) ∧ (Arv Z h tt kt .byte (Int32.ofNat (own_cs p1 p2).length) ((own_cs p1 p2).map fun c => Value.int (c.toInt8.toInt32)) (.int (0 : Int32))) ∧ (h0.size ≤ ar))
set_option maxRecDepth 65536 in
set_option maxHeartbeats 40000000 in
theorem own_str (l : Launch) (Z : State) (a0 : Array Value) (hw : ∀ d ∈ tables_1, d.before a0 Z = true) (ws : List Jvm.Cond) (p1 : Int32) (p2 : Int32) (cz : Int32) (h0 : Heap) (n0 : Nat) (Z0 : n0 ≤ h0.size) (hSc : Sta Z Z.heap "java/lang/String" "COMPACT_STRINGS" "Z" (.int cz)) (hcz : ¬ (cz = (0 : Int32))) (hOld : Old Z n0 h0) :
    MetFree l (⟨"com/example/diligent_tableau/diligenttableau/logic/ConceptNameEqualsPinLaw", "str", "(II)Ljava/lang/String;"⟩ : MethodName) (head1 (Jvm.Cond.code (⟨"com/example/diligent_tableau/diligenttableau/logic/ConceptNameEqualsPinLaw", "str", "(II)Ljava/lang/String;"⟩ : MethodName) method_2_code 5 (some (.object "java/lang/String")) :: ws) ({ frames := 4, cells := 6, slots := 12, locals := 66 } : Room)) (fun a U => a = #[(.int p1), (.int p2)] ∧ Z.Warmed39 U.vm ∧ U.heap = h0 ∧ CHv Z own_EL U.vm h0) (fun _ _ _ _ _ => True) (fun _ U o U' => ∃ v L, o = .returned v ∧ own_str_Q Z p1 p2 cz h0 n0 v U'.heap L ∧ CHr Z own_EL U.vm U.heap U'.vm U'.heap ∧ ReturnedEndW U o U' L ({ frames := 4, cells := 6, slots := 12, locals := 66 } : Room).cells ({ frames := 4, cells := 6, slots := 12, locals := 66 } : Room).slots) := by
  refine MetFree.of_bodySF (plainFor_of_name own_pn2) hisR ?_
  intro p e s m args below meth c s₁ Bd hml0 hP hK
  obtain ⟨rfl, hZ, hh, CH0⟩ := hP
  have hx := Bd.exec
  have hby := Bd.bytes
  have hlk : meth.locks = false := BodyLoose.notSynchronized Bd
  have hml : c.maxLocals = 5 := hml0
  have hown : s.vm.findClass "com/example/diligent_tableau/diligenttableau/logic/ConceptNameEqualsPinLaw" = some m.cls := findClass_of_methodNamed Bd.named
  have hnm := (name_of_methodNamed Bd.named Bd.method).1
  have X0 : Stand p l e ({ frames := 4, cells := 6, slots := 12, locals := 66 } : Room) (s.setVm s.vm) m #[(.int p1), (.int p2)] below meth c s₁ [] 0 0 := Stand.of_body Bd
  have e0 : s₁.heap = h0 := by rw [← hh, Bd.state]; rfl
  have N0 := Fr.nil n0
  have hEL : EW Z a0 own_EL := own_ew hw
  have hS0 : s.Since s.vm 0 := (State.WarmedH.refl s).since 0
  have hk0 : 0 ≤ h0.size := Nat.zero_le _
  have R0 := CHr.refl CH0
  refine own_startW (QQ := own_str_Q Z p1 p2 cz h0 n0) (rc := ({ frames := 4, cells := 6, slots := 12, locals := 66 } : Room).cells) (rs := ({ frames := 4, cells := 6, slots := 12, locals := 66 } : Room).slots) hh (own_str_ef m p1 p2 ) ?_
  show own_G p.tables e below _ (s₁.setTop (mkF m 0 #[.val (.int p1), .val (.int p2), .unset, .unset, .unset] []))
  refine own_fs (XS.iloadN X0.here hx rfl (hb hby own_d1_0) rfl (Steps.refl _)) ?_
  show own_G p.tables e below _ (s₁.setTop (mkF m 1 #[.val (.int p1), .val (.int p2), .unset, .unset, .unset] [(.int p1)]))
  refine own_fs (XS.sipush X0.here hx rfl (hb hby own_d1_1) (Steps.refl _)) ?_
  show own_G p.tables e below _ (s₁.setTop (mkF m 4 #[.val (.int p1), .val (.int p2), .unset, .unset, .unset] [(.int (255 : Int32)), (.int p1)]))
  refine own_fs (XS.iand X0.here hx rfl (hb hby own_d1_4) rfl (Steps.refl _)) ?_
  show own_G p.tables e below _ (s₁.setTop (mkF m 5 #[.val (.int p1), .val (.int p2), .unset, .unset, .unset] [(.int (p1 &&& (255 : Int32)))]))
  refine own_fs (XS.i2c X0.here hx rfl (hb hby own_d1_5) rfl (Steps.refl _)) ?_
  show own_G p.tables e below _ (s₁.setTop (mkF m 6 #[.val (.int p1), .val (.int p2), .unset, .unset, .unset] [(.int ((p1 &&& (255 : Int32)).toUInt32.toUInt16.toUInt32.toInt32))]))
  refine own_fs (XS.istoreN X0.here hx rfl (hb hby own_d1_6) rfl (l' := #[.val (.int p1), .val (.int p2), .val (.int ((p1 &&& (255 : Int32)).toUInt32.toUInt16.toUInt32.toInt32)), .unset, .unset]) rfl (Steps.refl _)) ?_
  show own_G p.tables e below _ (s₁.setTop (mkF m 7 #[.val (.int p1), .val (.int p2), .val (.int ((p1 &&& (255 : Int32)).toUInt32.toUInt16.toUInt32.toInt32)), .unset, .unset] []))
  refine own_fs (XS.iloadN X0.here hx rfl (hb hby own_d1_7) rfl (Steps.refl _)) ?_
  show own_G p.tables e below _ (s₁.setTop (mkF m 8 #[.val (.int p1), .val (.int p2), .val (.int ((p1 &&& (255 : Int32)).toUInt32.toUInt16.toUInt32.toInt32)), .unset, .unset] [(.int p1)]))
  refine own_fs (XS.bipush X0.here hx rfl (hb hby own_d1_8) (Steps.refl _)) ?_
  show own_G p.tables e below _ (s₁.setTop (mkF m 10 #[.val (.int p1), .val (.int p2), .val (.int ((p1 &&& (255 : Int32)).toUInt32.toUInt16.toUInt32.toInt32)), .unset, .unset] [(.int (8 : Int32)), (.int p1)]))
  refine own_fs (XS.iushr X0.here hx rfl (hb hby own_d1_10) rfl (Steps.refl _)) ?_
  show own_G p.tables e below _ (s₁.setTop (mkF m 11 #[.val (.int p1), .val (.int p2), .val (.int ((p1 &&& (255 : Int32)).toUInt32.toUInt16.toUInt32.toInt32)), .unset, .unset] [(.int ((p1.toUInt32 >>> ((8 : Int32) &&& 31).toUInt32).toInt32))]))
  refine own_fs (XS.sipush X0.here hx rfl (hb hby own_d1_11) (Steps.refl _)) ?_
  show own_G p.tables e below _ (s₁.setTop (mkF m 14 #[.val (.int p1), .val (.int p2), .val (.int ((p1 &&& (255 : Int32)).toUInt32.toUInt16.toUInt32.toInt32)), .unset, .unset] [(.int (255 : Int32)), (.int ((p1.toUInt32 >>> ((8 : Int32) &&& 31).toUInt32).toInt32))]))
  refine own_fs (XS.iand X0.here hx rfl (hb hby own_d1_14) rfl (Steps.refl _)) ?_
  show own_G p.tables e below _ (s₁.setTop (mkF m 15 #[.val (.int p1), .val (.int p2), .val (.int ((p1 &&& (255 : Int32)).toUInt32.toUInt16.toUInt32.toInt32)), .unset, .unset] [(.int (((p1.toUInt32 >>> ((8 : Int32) &&& 31).toUInt32).toInt32) &&& (255 : Int32)))]))
  refine own_fs (XS.i2c X0.here hx rfl (hb hby own_d1_15) rfl (Steps.refl _)) ?_
  show own_G p.tables e below _ (s₁.setTop (mkF m 16 #[.val (.int p1), .val (.int p2), .val (.int ((p1 &&& (255 : Int32)).toUInt32.toUInt16.toUInt32.toInt32)), .unset, .unset] [(.int ((((p1.toUInt32 >>> ((8 : Int32) &&& 31).toUInt32).toInt32) &&& (255 : Int32)).toUInt32.toUInt16.toUInt32.toInt32))]))
  refine own_fs (XS.istoreN X0.here hx rfl (hb hby own_d1_16) rfl (l' := #[.val (.int p1), .val (.int p2), .val (.int ((p1 &&& (255 : Int32)).toUInt32.toUInt16.toUInt32.toInt32)), .val (.int ((((p1.toUInt32 >>> ((8 : Int32) &&& 31).toUInt32).toInt32) &&& (255 : Int32)).toUInt32.toUInt16.toUInt32.toInt32)), .unset]) rfl (Steps.refl _)) ?_
  show own_G p.tables e below _ (s₁.setTop (mkF m 17 #[.val (.int p1), .val (.int p2), .val (.int ((p1 &&& (255 : Int32)).toUInt32.toUInt16.toUInt32.toInt32)), .val (.int ((((p1.toUInt32 >>> ((8 : Int32) &&& 31).toUInt32).toInt32) &&& (255 : Int32)).toUInt32.toUInt16.toUInt32.toInt32)), .unset] []))
  refine own_fs (XS.iloadN X0.here hx rfl (hb hby own_d1_17) rfl (Steps.refl _)) ?_
  show own_G p.tables e below _ (s₁.setTop (mkF m 18 #[.val (.int p1), .val (.int p2), .val (.int ((p1 &&& (255 : Int32)).toUInt32.toUInt16.toUInt32.toInt32)), .val (.int ((((p1.toUInt32 >>> ((8 : Int32) &&& 31).toUInt32).toInt32) &&& (255 : Int32)).toUInt32.toUInt16.toUInt32.toInt32)), .unset] [(.int p1)]))
  refine own_fs (XS.bipush X0.here hx rfl (hb hby own_d1_18) (Steps.refl _)) ?_
  show own_G p.tables e below _ (s₁.setTop (mkF m 20 #[.val (.int p1), .val (.int p2), .val (.int ((p1 &&& (255 : Int32)).toUInt32.toUInt16.toUInt32.toInt32)), .val (.int ((((p1.toUInt32 >>> ((8 : Int32) &&& 31).toUInt32).toInt32) &&& (255 : Int32)).toUInt32.toUInt16.toUInt32.toInt32)), .unset] [(.int (16 : Int32)), (.int p1)]))
  refine own_fs (XS.iushr X0.here hx rfl (hb hby own_d1_20) rfl (Steps.refl _)) ?_
  show own_G p.tables e below _ (s₁.setTop (mkF m 21 #[.val (.int p1), .val (.int p2), .val (.int ((p1 &&& (255 : Int32)).toUInt32.toUInt16.toUInt32.toInt32)), .val (.int ((((p1.toUInt32 >>> ((8 : Int32) &&& 31).toUInt32).toInt32) &&& (255 : Int32)).toUInt32.toUInt16.toUInt32.toInt32)), .unset] [(.int ((p1.toUInt32 >>> ((16 : Int32) &&& 31).toUInt32).toInt32))]))
  refine own_fs (XS.sipush X0.here hx rfl (hb hby own_d1_21) (Steps.refl _)) ?_
  show own_G p.tables e below _ (s₁.setTop (mkF m 24 #[.val (.int p1), .val (.int p2), .val (.int ((p1 &&& (255 : Int32)).toUInt32.toUInt16.toUInt32.toInt32)), .val (.int ((((p1.toUInt32 >>> ((8 : Int32) &&& 31).toUInt32).toInt32) &&& (255 : Int32)).toUInt32.toUInt16.toUInt32.toInt32)), .unset] [(.int (255 : Int32)), (.int ((p1.toUInt32 >>> ((16 : Int32) &&& 31).toUInt32).toInt32))]))
  refine own_fs (XS.iand X0.here hx rfl (hb hby own_d1_24) rfl (Steps.refl _)) ?_
  show own_G p.tables e below _ (s₁.setTop (mkF m 25 #[.val (.int p1), .val (.int p2), .val (.int ((p1 &&& (255 : Int32)).toUInt32.toUInt16.toUInt32.toInt32)), .val (.int ((((p1.toUInt32 >>> ((8 : Int32) &&& 31).toUInt32).toInt32) &&& (255 : Int32)).toUInt32.toUInt16.toUInt32.toInt32)), .unset] [(.int (((p1.toUInt32 >>> ((16 : Int32) &&& 31).toUInt32).toInt32) &&& (255 : Int32)))]))
  refine own_fs (XS.i2c X0.here hx rfl (hb hby own_d1_25) rfl (Steps.refl _)) ?_
  show own_G p.tables e below _ (s₁.setTop (mkF m 26 #[.val (.int p1), .val (.int p2), .val (.int ((p1 &&& (255 : Int32)).toUInt32.toUInt16.toUInt32.toInt32)), .val (.int ((((p1.toUInt32 >>> ((8 : Int32) &&& 31).toUInt32).toInt32) &&& (255 : Int32)).toUInt32.toUInt16.toUInt32.toInt32)), .unset] [(.int ((((p1.toUInt32 >>> ((16 : Int32) &&& 31).toUInt32).toInt32) &&& (255 : Int32)).toUInt32.toUInt16.toUInt32.toInt32))]))
  refine own_fs (XS.istore X0.here hx rfl (hb hby own_d1_26) rfl (l' := #[.val (.int p1), .val (.int p2), .val (.int ((p1 &&& (255 : Int32)).toUInt32.toUInt16.toUInt32.toInt32)), .val (.int ((((p1.toUInt32 >>> ((8 : Int32) &&& 31).toUInt32).toInt32) &&& (255 : Int32)).toUInt32.toUInt16.toUInt32.toInt32)), .val (.int ((((p1.toUInt32 >>> ((16 : Int32) &&& 31).toUInt32).toInt32) &&& (255 : Int32)).toUInt32.toUInt16.toUInt32.toInt32))]) rfl (Steps.refl _)) ?_
  show own_G p.tables e below _ (s₁.setTop (mkF m 28 #[.val (.int p1), .val (.int p2), .val (.int ((p1 &&& (255 : Int32)).toUInt32.toUInt16.toUInt32.toInt32)), .val (.int ((((p1.toUInt32 >>> ((8 : Int32) &&& 31).toUInt32).toInt32) &&& (255 : Int32)).toUInt32.toUInt16.toUInt32.toInt32)), .val (.int ((((p1.toUInt32 >>> ((16 : Int32) &&& 31).toUInt32).toInt32) &&& (255 : Int32)).toUInt32.toUInt16.toUInt32.toInt32))] []))
  refine own_fs (XS.iloadN X0.here hx rfl (hb hby own_d1_28) rfl (Steps.refl _)) ?_
  show own_G p.tables e below _ (s₁.setTop (mkF m 29 #[.val (.int p1), .val (.int p2), .val (.int ((p1 &&& (255 : Int32)).toUInt32.toUInt16.toUInt32.toInt32)), .val (.int ((((p1.toUInt32 >>> ((8 : Int32) &&& 31).toUInt32).toInt32) &&& (255 : Int32)).toUInt32.toUInt16.toUInt32.toInt32)), .val (.int ((((p1.toUInt32 >>> ((16 : Int32) &&& 31).toUInt32).toInt32) &&& (255 : Int32)).toUInt32.toUInt16.toUInt32.toInt32))] [(.int p2)]))
  by_cases hc29 : p2 = (0 : Int32)
  · refine own_fs (XS.ifNo X0.here hx rfl (hb hby own_d1_29) rfl (XT.i0_ne_f hc29) (Steps.refl _)) ?_
    show own_G p.tables e below _ (s₁.setTop (mkF m 32 #[.val (.int p1), .val (.int p2), .val (.int ((p1 &&& (255 : Int32)).toUInt32.toUInt16.toUInt32.toInt32)), .val (.int ((((p1.toUInt32 >>> ((8 : Int32) &&& 31).toUInt32).toInt32) &&& (255 : Int32)).toUInt32.toUInt16.toUInt32.toInt32)), .val (.int ((((p1.toUInt32 >>> ((16 : Int32) &&& 31).toUInt32).toInt32) &&& (255 : Int32)).toUInt32.toUInt16.toUInt32.toInt32))] []))
    obtain ⟨T1, h1, X1, e1, E1, A1, D1, -, st1⟩ := newO X0 hx hZ hown (hw _ (List.mem_of_getElem? (i := 7) rfl)) (hw _ (List.mem_of_getElem? (i := 8) rfl)) (hw _ (List.mem_of_getElem? (i := 9) rfl)) e0 (g := (mkF m 32 #[.val (.int p1), .val (.int p2), .val (.int ((p1 &&& (255 : Int32)).toUInt32.toUInt16.toUInt32.toInt32)), .val (.int ((((p1.toUInt32 >>> ((8 : Int32) &&& 31).toUInt32).toInt32) &&& (255 : Int32)).toUInt32.toUInt16.toUInt32.toInt32)), .val (.int ((((p1.toUInt32 >>> ((16 : Int32) &&& 31).toUInt32).toInt32) &&& (255 : Int32)).toUInt32.toUInt16.toUInt32.toInt32))] [])) rfl (hb hby own_d1_32) (by decide) (by decide)
    obtain ⟨b1, g1⟩ : ∃ z, z = h0.size := ⟨_, rfl⟩
    rw [← g1] at A1 D1 st1
    have ge_b1 : n0 ≤ b1 := Nat.le_trans Z0 (Nat.le_of_eq g1.symm)
    have gz_b1 : h0.size ≤ b1 := Nat.le_trans (Nat.le_refl _) (Nat.le_of_eq g1.symm)
    have Sf_b1 : Safe Z own_EL s.vm h0 b1 := Safe.new (Nat.le_of_eq g1.symm)
    have CH2 := CHv.ext E1 CH0
    have RR2 := CHr.trans R0 (CHr.ext E1 CH0)
    have Sf2_b1 := Safe.ext E1 CH0 Sf_b1
    have F_coder_b1 : Fld Z h1 b1 "java/lang/String" "coder" "B" (.int (0 : Int32)) := D1 (Or.inr (hw _ (List.mem_of_getElem? (i := 34) rfl))) (ty := .byte) (by decide)
    have F_value_b1 : Fld Z h1 b1 "java/lang/String" "value" "[B" .null := D1 (Or.inr (hw _ (List.mem_of_getElem? (i := 36) rfl))) (ty := (.array .byte)) (by decide)
    refine own_fs (st1 _ (Steps.refl _)) ?_
    show own_G p.tables e below _ (T1.setTop (mkF m 35 #[.val (.int p1), .val (.int p2), .val (.int ((p1 &&& (255 : Int32)).toUInt32.toUInt16.toUInt32.toInt32)), .val (.int ((((p1.toUInt32 >>> ((8 : Int32) &&& 31).toUInt32).toInt32) &&& (255 : Int32)).toUInt32.toUInt16.toUInt32.toInt32)), .val (.int ((((p1.toUInt32 >>> ((16 : Int32) &&& 31).toUInt32).toInt32) &&& (255 : Int32)).toUInt32.toUInt16.toUInt32.toInt32))] [(.ref b1)]))
    refine own_fs (XS.dup X1.here hx rfl (hb hby own_d1_35) rfl rfl (Steps.refl _)) ?_
    show own_G p.tables e below _ (T1.setTop (mkF m 36 #[.val (.int p1), .val (.int p2), .val (.int ((p1 &&& (255 : Int32)).toUInt32.toUInt16.toUInt32.toInt32)), .val (.int ((((p1.toUInt32 >>> ((8 : Int32) &&& 31).toUInt32).toInt32) &&& (255 : Int32)).toUInt32.toUInt16.toUInt32.toInt32)), .val (.int ((((p1.toUInt32 >>> ((16 : Int32) &&& 31).toUInt32).toInt32) &&& (255 : Int32)).toUInt32.toUInt16.toUInt32.toInt32))] [(.ref b1), (.ref b1)]))
    refine own_fs (XS.iconst X1.here hx rfl (hb hby own_d1_36) (Steps.refl _)) ?_
    show own_G p.tables e below _ (T1.setTop (mkF m 37 #[.val (.int p1), .val (.int p2), .val (.int ((p1 &&& (255 : Int32)).toUInt32.toUInt16.toUInt32.toInt32)), .val (.int ((((p1.toUInt32 >>> ((8 : Int32) &&& 31).toUInt32).toInt32) &&& (255 : Int32)).toUInt32.toUInt16.toUInt32.toInt32)), .val (.int ((((p1.toUInt32 >>> ((16 : Int32) &&& 31).toUInt32).toInt32) &&& (255 : Int32)).toUInt32.toUInt16.toUInt32.toInt32))] [(.int (0 : Int32)), (.ref b1), (.ref b1)]))
    obtain ⟨T3, h3, k3, X3, e3, E3, A3, st3⟩ := newP X1 hx hZ (hw _ (List.mem_of_getElem? (i := 10) rfl)) e1 (g := (mkF m 37 #[.val (.int p1), .val (.int p2), .val (.int ((p1 &&& (255 : Int32)).toUInt32.toUInt16.toUInt32.toInt32)), .val (.int ((((p1.toUInt32 >>> ((8 : Int32) &&& 31).toUInt32).toInt32) &&& (255 : Int32)).toUInt32.toUInt16.toUInt32.toInt32)), .val (.int ((((p1.toUInt32 >>> ((16 : Int32) &&& 31).toUInt32).toInt32) &&& (255 : Int32)).toUInt32.toUInt16.toUInt32.toInt32))] [(.int (0 : Int32)), (.ref b1), (.ref b1)])) rfl (hb hby own_d1_37) rfl (by decide) (cap := 0) (by decide) (by decide) (by decide) (by decide)
    obtain ⟨b3, g3⟩ : ∃ z, z = h1.size := ⟨_, rfl⟩
    rw [← g3] at A3 st3
    have ge_b3 : n0 ≤ b3 := Nat.le_trans (Nat.le_trans Z0 E1.1) (Nat.le_of_eq g3.symm)
    have gz_b3 : h0.size ≤ b3 := Nat.le_trans (Nat.le_trans (Nat.le_refl _) E1.1) (Nat.le_of_eq g3.symm)
    have Sf_b3 : Safe Z own_EL s.vm h1 b3 := Safe.new (Nat.le_of_eq g3.symm)
    have V_b3 : Arv Z h3 b3 k3 .char (0 : Int32) [] (.int (0 : Int32)) := (Arv.new A3 (by decide)).pad (pad_rep [] (.int (0 : Int32)) 0)
    have CH4 := CHv.ext E3 CH2
    have RR4 := CHr.trans RR2 (CHr.ext E3 CH2)
    have Sf4_b1 := Safe.ext E3 CH2 Sf2_b1
    have Sf4_b3 := Safe.ext E3 CH2 Sf_b3
    refine own_fs (st3 _ (Steps.refl _)) ?_
    show own_G p.tables e below _ (T3.setTop (mkF m 39 #[.val (.int p1), .val (.int p2), .val (.int ((p1 &&& (255 : Int32)).toUInt32.toUInt16.toUInt32.toInt32)), .val (.int ((((p1.toUInt32 >>> ((8 : Int32) &&& 31).toUInt32).toInt32) &&& (255 : Int32)).toUInt32.toUInt16.toUInt32.toInt32)), .val (.int ((((p1.toUInt32 >>> ((16 : Int32) &&& 31).toUInt32).toInt32) &&& (255 : Int32)).toUInt32.toUInt16.toUInt32.toInt32))] [(.ref b3), (.ref b1), (.ref b1)]))
    have Zs8 : n0 ≤ h3.size := (Nat.le_trans (Nat.le_trans Z0 E1.1) E3.1)
    obtain ⟨_, _, ⟨T7, L7, k7, n7⟩, -, X7', hS7', gr7, ⟨Lc7, hQ7, l7, y7, z7, hR7⟩, st7⟩ := X3.specialBackS hx (y := (⟨"java/lang/String", "<init>", "([C)V"⟩ : MethodName)) rfl hown (mvT hZ (hw _ (List.mem_of_getElem? (i := 11) rfl))) (mvT hZ (hw _ (List.mem_of_getElem? (i := 12) rfl))) (mvT hZ (hw _ (List.mem_of_getElem? (i := 13) rfl))) (by decide) (backOfSH (s := s) (vm0 := s.vm) (W := 1) (own_iSC0 l Z a0 hw [] b1 b3 (0 : Int32) k3 h3 n0 Zs8 (Exa.ext E3 A1) (Fld.ext E3 F_value_b1) (Fld.ext E3 F_coder_b1) ge_b1 V_b3) hZ (hw _ (List.mem_of_getElem? (i := 13) rfl)) (hw _ (List.mem_of_getElem? (i := 9) rfl)) (by decide) (by decide) hEL CH4) (g := (mkF m 39 #[.val (.int p1), .val (.int p2), .val (.int ((p1 &&& (255 : Int32)).toUInt32.toUInt16.toUInt32.toInt32)), .val (.int ((((p1.toUInt32 >>> ((8 : Int32) &&& 31).toUInt32).toInt32) &&& (255 : Int32)).toUInt32.toUInt16.toUInt32.toInt32)), .val (.int ((((p1.toUInt32 >>> ((16 : Int32) &&& 31).toUInt32).toInt32) &&& (255 : Int32)).toUInt32.toUInt16.toUInt32.toInt32))] [(.ref b3), (.ref b1), (.ref b1)])) rfl (by rw [hml]; rfl) (Steps.refl _) (a := b1) (argsL := [(.ref b3)]) (rest := [(.ref b1)]) (lenOf own_pd1 rfl) rfl (by show 2 * 0 + _ ≤ _; exact Nat.le_of_eq rfl) (hb hby own_d1_39) (fun _ _ => ⟨rfl, e3, (by decide : 2 + 4 ≤ _), (by decide : 4 + 8 ≤ _)⟩)
    dsimp only [Pt.U, Pt.locs, Pt.cells, Pt.slots] at X7' hS7' gr7 l7 y7 z7 st7 hQ7 hR7
    subst l7 y7 z7
    obtain ⟨X7, hS7, hZ, hown⟩ := rebS hS0 (by rw [e3]; exact (Nat.le_trans (Nat.le_trans hk0 E1.1) E3.1)) X7' hS7' gr7 hZ hown
    obtain ⟨h7, e7⟩ : ∃ h, T7.heap = h := ⟨_, rfl⟩
    rw [e7] at hQ7 hS7 hR7
    obtain ⟨tt5, kt5, rfl, Nq7, K7, P6_0, P6_1, P6_2, P6_3⟩ := hQ7
    have Sf7_b1 := CHr.safe hR7 (Exa.lt (Exa.ext E3 A1)) Sf4_b1
    have Sf7_b3 := CHr.safe hR7 (Arv.lt V_b3) Sf4_b3
    have RR7 := CHr.trans RR4 hR7
    have CH7 := hR7.1
    have N7 := Fr.app N0 Nq7
    refine own_fs st7 ?_
    show own_G p.tables e below _ (T7.setTop (mkF m 42 #[.val (.int p1), .val (.int p2), .val (.int ((p1 &&& (255 : Int32)).toUInt32.toUInt16.toUInt32.toInt32)), .val (.int ((((p1.toUInt32 >>> ((8 : Int32) &&& 31).toUInt32).toInt32) &&& (255 : Int32)).toUInt32.toUInt16.toUInt32.toInt32)), .val (.int ((((p1.toUInt32 >>> ((16 : Int32) &&& 31).toUInt32).toInt32) &&& (255 : Int32)).toUInt32.toUInt16.toUInt32.toInt32))] [(.ref b1)]))
    exact own_retAW X7 hx (t := (.object "java/lang/String")) Bd.returns hlk rfl rfl (hb hby own_d1_42) (by decide) (by decide) e7 hS7 (Nat.le_refl _) (by rw [hh]; exact RR7.trans (CHv.at X7 hZ hEL CH7)) ⟨b1, tt5, kt5, rfl, N7, ((((Keep.refl _ _).ext E1).ext E3).trans K7 (allS (Or.inr gz_b1) all0)), P6_0, P6_2, P6_1, (by rw [show own_cs p1 p2 = [] from by simp only [own_cs, if_pos hc29]]; exact P6_3), gz_b1⟩
  · refine own_fs (XS.ifYes X0.here hx rfl (pc0 := 29) (pc' := 43) rfl (hb hby own_d1_29) rfl (XT.i0_ne_t hc29) (by decide) (by decide) (Steps.refl _)) ?_
    show own_G p.tables e below _ (s₁.setTop (mkF m 43 #[.val (.int p1), .val (.int p2), .val (.int ((p1 &&& (255 : Int32)).toUInt32.toUInt16.toUInt32.toInt32)), .val (.int ((((p1.toUInt32 >>> ((8 : Int32) &&& 31).toUInt32).toInt32) &&& (255 : Int32)).toUInt32.toUInt16.toUInt32.toInt32)), .val (.int ((((p1.toUInt32 >>> ((16 : Int32) &&& 31).toUInt32).toInt32) &&& (255 : Int32)).toUInt32.toUInt16.toUInt32.toInt32))] []))
    refine own_fs (XS.iloadN X0.here hx rfl (hb hby own_d1_43) rfl (Steps.refl _)) ?_
    show own_G p.tables e below _ (s₁.setTop (mkF m 44 #[.val (.int p1), .val (.int p2), .val (.int ((p1 &&& (255 : Int32)).toUInt32.toUInt16.toUInt32.toInt32)), .val (.int ((((p1.toUInt32 >>> ((8 : Int32) &&& 31).toUInt32).toInt32) &&& (255 : Int32)).toUInt32.toUInt16.toUInt32.toInt32)), .val (.int ((((p1.toUInt32 >>> ((16 : Int32) &&& 31).toUInt32).toInt32) &&& (255 : Int32)).toUInt32.toUInt16.toUInt32.toInt32))] [(.int p2)]))
    refine own_fs (XS.iconst X0.here hx rfl (hb hby own_d1_44) (Steps.refl _)) ?_
    show own_G p.tables e below _ (s₁.setTop (mkF m 45 #[.val (.int p1), .val (.int p2), .val (.int ((p1 &&& (255 : Int32)).toUInt32.toUInt16.toUInt32.toInt32)), .val (.int ((((p1.toUInt32 >>> ((8 : Int32) &&& 31).toUInt32).toInt32) &&& (255 : Int32)).toUInt32.toUInt16.toUInt32.toInt32)), .val (.int ((((p1.toUInt32 >>> ((16 : Int32) &&& 31).toUInt32).toInt32) &&& (255 : Int32)).toUInt32.toUInt16.toUInt32.toInt32))] [(.int (1 : Int32)), (.int p2)]))
    by_cases hc45 : p2 = (1 : Int32)
    · refine own_fs (XS.icmpNo X0.here hx rfl (hb hby own_d1_45) rfl (XT.ii_ne_f hc45) (Steps.refl _)) ?_
      show own_G p.tables e below _ (s₁.setTop (mkF m 48 #[.val (.int p1), .val (.int p2), .val (.int ((p1 &&& (255 : Int32)).toUInt32.toUInt16.toUInt32.toInt32)), .val (.int ((((p1.toUInt32 >>> ((8 : Int32) &&& 31).toUInt32).toInt32) &&& (255 : Int32)).toUInt32.toUInt16.toUInt32.toInt32)), .val (.int ((((p1.toUInt32 >>> ((16 : Int32) &&& 31).toUInt32).toInt32) &&& (255 : Int32)).toUInt32.toUInt16.toUInt32.toInt32))] []))
      obtain ⟨T9, h9, X9, e9, E9, A9, D9, -, st9⟩ := newO X0 hx hZ hown (hw _ (List.mem_of_getElem? (i := 7) rfl)) (hw _ (List.mem_of_getElem? (i := 8) rfl)) (hw _ (List.mem_of_getElem? (i := 9) rfl)) e0 (g := (mkF m 48 #[.val (.int p1), .val (.int p2), .val (.int ((p1 &&& (255 : Int32)).toUInt32.toUInt16.toUInt32.toInt32)), .val (.int ((((p1.toUInt32 >>> ((8 : Int32) &&& 31).toUInt32).toInt32) &&& (255 : Int32)).toUInt32.toUInt16.toUInt32.toInt32)), .val (.int ((((p1.toUInt32 >>> ((16 : Int32) &&& 31).toUInt32).toInt32) &&& (255 : Int32)).toUInt32.toUInt16.toUInt32.toInt32))] [])) rfl (hb hby own_d1_48) (by decide) (by decide)
      obtain ⟨b9, g9⟩ : ∃ z, z = h0.size := ⟨_, rfl⟩
      rw [← g9] at A9 D9 st9
      have ge_b9 : n0 ≤ b9 := Nat.le_trans Z0 (Nat.le_of_eq g9.symm)
      have gz_b9 : h0.size ≤ b9 := Nat.le_trans (Nat.le_refl _) (Nat.le_of_eq g9.symm)
      have Sf_b9 : Safe Z own_EL s.vm h0 b9 := Safe.new (Nat.le_of_eq g9.symm)
      have CH10 := CHv.ext E9 CH0
      have RR10 := CHr.trans R0 (CHr.ext E9 CH0)
      have Sf10_b9 := Safe.ext E9 CH0 Sf_b9
      have F_coder_b9 : Fld Z h9 b9 "java/lang/String" "coder" "B" (.int (0 : Int32)) := D9 (Or.inr (hw _ (List.mem_of_getElem? (i := 34) rfl))) (ty := .byte) (by decide)
      have F_value_b9 : Fld Z h9 b9 "java/lang/String" "value" "[B" .null := D9 (Or.inr (hw _ (List.mem_of_getElem? (i := 36) rfl))) (ty := (.array .byte)) (by decide)
      refine own_fs (st9 _ (Steps.refl _)) ?_
      show own_G p.tables e below _ (T9.setTop (mkF m 51 #[.val (.int p1), .val (.int p2), .val (.int ((p1 &&& (255 : Int32)).toUInt32.toUInt16.toUInt32.toInt32)), .val (.int ((((p1.toUInt32 >>> ((8 : Int32) &&& 31).toUInt32).toInt32) &&& (255 : Int32)).toUInt32.toUInt16.toUInt32.toInt32)), .val (.int ((((p1.toUInt32 >>> ((16 : Int32) &&& 31).toUInt32).toInt32) &&& (255 : Int32)).toUInt32.toUInt16.toUInt32.toInt32))] [(.ref b9)]))
      refine own_fs (XS.dup X9.here hx rfl (hb hby own_d1_51) rfl rfl (Steps.refl _)) ?_
      show own_G p.tables e below _ (T9.setTop (mkF m 52 #[.val (.int p1), .val (.int p2), .val (.int ((p1 &&& (255 : Int32)).toUInt32.toUInt16.toUInt32.toInt32)), .val (.int ((((p1.toUInt32 >>> ((8 : Int32) &&& 31).toUInt32).toInt32) &&& (255 : Int32)).toUInt32.toUInt16.toUInt32.toInt32)), .val (.int ((((p1.toUInt32 >>> ((16 : Int32) &&& 31).toUInt32).toInt32) &&& (255 : Int32)).toUInt32.toUInt16.toUInt32.toInt32))] [(.ref b9), (.ref b9)]))
      refine own_fs (XS.iconst X9.here hx rfl (hb hby own_d1_52) (Steps.refl _)) ?_
      show own_G p.tables e below _ (T9.setTop (mkF m 53 #[.val (.int p1), .val (.int p2), .val (.int ((p1 &&& (255 : Int32)).toUInt32.toUInt16.toUInt32.toInt32)), .val (.int ((((p1.toUInt32 >>> ((8 : Int32) &&& 31).toUInt32).toInt32) &&& (255 : Int32)).toUInt32.toUInt16.toUInt32.toInt32)), .val (.int ((((p1.toUInt32 >>> ((16 : Int32) &&& 31).toUInt32).toInt32) &&& (255 : Int32)).toUInt32.toUInt16.toUInt32.toInt32))] [(.int (1 : Int32)), (.ref b9), (.ref b9)]))
      obtain ⟨T11, h11, k11, X11, e11, E11, A11, st11⟩ := newP X9 hx hZ (hw _ (List.mem_of_getElem? (i := 10) rfl)) e9 (g := (mkF m 53 #[.val (.int p1), .val (.int p2), .val (.int ((p1 &&& (255 : Int32)).toUInt32.toUInt16.toUInt32.toInt32)), .val (.int ((((p1.toUInt32 >>> ((8 : Int32) &&& 31).toUInt32).toInt32) &&& (255 : Int32)).toUInt32.toUInt16.toUInt32.toInt32)), .val (.int ((((p1.toUInt32 >>> ((16 : Int32) &&& 31).toUInt32).toInt32) &&& (255 : Int32)).toUInt32.toUInt16.toUInt32.toInt32))] [(.int (1 : Int32)), (.ref b9), (.ref b9)])) rfl (hb hby own_d1_53) rfl (by decide) (cap := 1) (by decide) (by decide) (by decide) (by decide)
      obtain ⟨b11, g11⟩ : ∃ z, z = h9.size := ⟨_, rfl⟩
      rw [← g11] at A11 st11
      have ge_b11 : n0 ≤ b11 := Nat.le_trans (Nat.le_trans Z0 E9.1) (Nat.le_of_eq g11.symm)
      have gz_b11 : h0.size ≤ b11 := Nat.le_trans (Nat.le_trans (Nat.le_refl _) E9.1) (Nat.le_of_eq g11.symm)
      have Sf_b11 : Safe Z own_EL s.vm h9 b11 := Safe.new (Nat.le_of_eq g11.symm)
      have V_b11 : Arv Z h11 b11 k11 .char (1 : Int32) [(.int (0 : Int32))] (.int (0 : Int32)) := (Arv.new A11 (by decide)).pad (pad_rep [] (.int (0 : Int32)) 1)
      have CH12 := CHv.ext E11 CH10
      have RR12 := CHr.trans RR10 (CHr.ext E11 CH10)
      have Sf12_b9 := Safe.ext E11 CH10 Sf10_b9
      have Sf12_b11 := Safe.ext E11 CH10 Sf_b11
      refine own_fs (st11 _ (Steps.refl _)) ?_
      show own_G p.tables e below _ (T11.setTop (mkF m 55 #[.val (.int p1), .val (.int p2), .val (.int ((p1 &&& (255 : Int32)).toUInt32.toUInt16.toUInt32.toInt32)), .val (.int ((((p1.toUInt32 >>> ((8 : Int32) &&& 31).toUInt32).toInt32) &&& (255 : Int32)).toUInt32.toUInt16.toUInt32.toInt32)), .val (.int ((((p1.toUInt32 >>> ((16 : Int32) &&& 31).toUInt32).toInt32) &&& (255 : Int32)).toUInt32.toUInt16.toUInt32.toInt32))] [(.ref b11), (.ref b9), (.ref b9)]))
      refine own_fs (XS.dup X11.here hx rfl (hb hby own_d1_55) rfl rfl (Steps.refl _)) ?_
      show own_G p.tables e below _ (T11.setTop (mkF m 56 #[.val (.int p1), .val (.int p2), .val (.int ((p1 &&& (255 : Int32)).toUInt32.toUInt16.toUInt32.toInt32)), .val (.int ((((p1.toUInt32 >>> ((8 : Int32) &&& 31).toUInt32).toInt32) &&& (255 : Int32)).toUInt32.toUInt16.toUInt32.toInt32)), .val (.int ((((p1.toUInt32 >>> ((16 : Int32) &&& 31).toUInt32).toInt32) &&& (255 : Int32)).toUInt32.toUInt16.toUInt32.toInt32))] [(.ref b11), (.ref b11), (.ref b9), (.ref b9)]))
      refine own_fs (XS.iconst X11.here hx rfl (hb hby own_d1_56) (Steps.refl _)) ?_
      show own_G p.tables e below _ (T11.setTop (mkF m 57 #[.val (.int p1), .val (.int p2), .val (.int ((p1 &&& (255 : Int32)).toUInt32.toUInt16.toUInt32.toInt32)), .val (.int ((((p1.toUInt32 >>> ((8 : Int32) &&& 31).toUInt32).toInt32) &&& (255 : Int32)).toUInt32.toUInt16.toUInt32.toInt32)), .val (.int ((((p1.toUInt32 >>> ((16 : Int32) &&& 31).toUInt32).toInt32) &&& (255 : Int32)).toUInt32.toUInt16.toUInt32.toInt32))] [(.int (0 : Int32)), (.ref b11), (.ref b11), (.ref b9), (.ref b9)]))
      refine own_fs (XS.iloadN X11.here hx rfl (hb hby own_d1_57) rfl (Steps.refl _)) ?_
      show own_G p.tables e below _ (T11.setTop (mkF m 58 #[.val (.int p1), .val (.int p2), .val (.int ((p1 &&& (255 : Int32)).toUInt32.toUInt16.toUInt32.toInt32)), .val (.int ((((p1.toUInt32 >>> ((8 : Int32) &&& 31).toUInt32).toInt32) &&& (255 : Int32)).toUInt32.toUInt16.toUInt32.toInt32)), .val (.int ((((p1.toUInt32 >>> ((16 : Int32) &&& 31).toUInt32).toInt32) &&& (255 : Int32)).toUInt32.toUInt16.toUInt32.toInt32))] [(.int ((p1 &&& (255 : Int32)).toUInt32.toUInt16.toUInt32.toInt32)), (.int (0 : Int32)), (.ref b11), (.ref b11), (.ref b9), (.ref b9)]))
      obtain ⟨cl13, Ar13, q13, S13, O13, H13, G13⟩ := (id V_b11)
      obtain ⟨T14, h14, X14, e14, W14, st14⟩ := stC X11 hx hZ e11 Ar13 (j := (0 : Int32)) (inb_of S13 ⟨by decide, by decide⟩) (g := (mkF m 58 #[.val (.int p1), .val (.int p2), .val (.int ((p1 &&& (255 : Int32)).toUInt32.toUInt16.toUInt32.toInt32)), .val (.int ((((p1.toUInt32 >>> ((8 : Int32) &&& 31).toUInt32).toInt32) &&& (255 : Int32)).toUInt32.toUInt16.toUInt32.toInt32)), .val (.int ((((p1.toUInt32 >>> ((16 : Int32) &&& 31).toUInt32).toInt32) &&& (255 : Int32)).toUInt32.toUInt16.toUInt32.toInt32))] [(.int ((p1 &&& (255 : Int32)).toUInt32.toUInt16.toUInt32.toInt32)), (.int (0 : Int32)), (.ref b11), (.ref b11), (.ref b9), (.ref b9)])) rfl rfl (hb hby own_d1_58)
      refine own_fs (st14 _ (Steps.refl _)) ?_
      have V14 : Arv Z h14 b11 k11 .char (1 : Int32) [(.int (nar .char ((p1 &&& (255 : Int32)).toUInt32.toUInt16.toUInt32.toInt32)))] (.int (0 : Int32)) := Arv.set Ar13 q13 S13 O13 H13 G13 (fits_nar_char _) W14 0 rfl (Nat.le_of_ble_eq_true rfl)
      have CH15 := CHv.wr W14 Sf12_b11 CH12
      have RR15 := CHr.trans RR12 (CHr.wr W14 Sf12_b11 CH12)
      have Sf15_b9 := Safe.wr W14 Sf12_b11 CH12 Sf12_b9
      have Sf15_b11 := Safe.wr W14 Sf12_b11 CH12 Sf12_b11
      have N14 := Fr.snoc X14 N0 ge_b11
      show own_G p.tables e below _ (T14.setTop (mkF m 59 #[.val (.int p1), .val (.int p2), .val (.int ((p1 &&& (255 : Int32)).toUInt32.toUInt16.toUInt32.toInt32)), .val (.int ((((p1.toUInt32 >>> ((8 : Int32) &&& 31).toUInt32).toInt32) &&& (255 : Int32)).toUInt32.toUInt16.toUInt32.toInt32)), .val (.int ((((p1.toUInt32 >>> ((16 : Int32) &&& 31).toUInt32).toInt32) &&& (255 : Int32)).toUInt32.toUInt16.toUInt32.toInt32))] [(.ref b11), (.ref b9), (.ref b9)]))
      have hws : ∀ d ∈ StrChars.Road.words, d.before a0 Z = true := fun d hd => hw d ((by decide +kernel : ∀ d ∈ StrChars.Road.words, d ∈ tables_1) d hd)
      have hlat : ∀ c ∈ [(nar .char ((p1 &&& (255 : Int32)).toUInt32.toUInt16.toUInt32.toInt32))], ¬ c < 0 ∧ ¬ (255 : Int32) < c := by
        intro c hc
        simp only [List.mem_cons, List.not_mem_nil, or_false] at hc
        rcases hc with rfl
        · exact own_ch1_rng _
      have Zs19 : n0 ≤ h14.size := (Nat.le_trans (Nat.le_trans (Nat.le_trans Z0 E9.1) E11.1) (Keep.of_wr W14).1)
      obtain ⟨_, _, ⟨T18, L18, k18, n18⟩, -, X18, ⟨Lc18, hQ18, l18, y18, z18⟩, st18⟩ := X14.specialBack hx (y := (⟨"java/lang/String", "<init>", "([C)V"⟩ : MethodName)) rfl hown (mvT hZ (hw _ (List.mem_of_getElem? (i := 11) rfl))) (mvT hZ (hw _ (List.mem_of_getElem? (i := 12) rfl))) (mvT hZ (hw _ (List.mem_of_getElem? (i := 13) rfl))) (by decide) (StrChars.Road.backV (W := 1) hZ hws (kI := 4) (hw _ (List.mem_of_getElem? (i := 8) rfl)) (cs := [(nar .char ((p1 &&& (255 : Int32)).toUInt32.toUInt16.toUInt32.toInt32))]) (bs := [((nar .char ((p1 &&& (255 : Int32)).toUInt32.toUInt16.toUInt32.toInt32))).toInt8.toInt32]) (n := 1) ge_b9 (Nat.le_trans (Nat.le_trans (Nat.le_trans Z0 E9.1) E11.1) (Keep.of_wr W14).1) (Exa.wr W14 (Exa.ext E11 A9)) (Fld.other W14 (Fld.ext E11 F_value_b9) (Or.inl (Nat.ne_of_lt (Nat.lt_of_lt_of_le (Exa.lt A9) (Nat.le_of_eq g11.symm))))) (Fld.other W14 (Fld.ext E11 F_coder_b9) (Or.inl (Nat.ne_of_lt (Nat.lt_of_lt_of_le (Exa.lt A9) (Nat.le_of_eq g11.symm))))) V14 (Sta.ext (Old.wr (Old.ext (Old.ext hOld E9) E11) W14 ge_b11).2 hSc) hcz rfl rfl (by decide) (by decide) hlat rfl (by decide) (by decide)) (g := (mkF m 59 #[.val (.int p1), .val (.int p2), .val (.int ((p1 &&& (255 : Int32)).toUInt32.toUInt16.toUInt32.toInt32)), .val (.int ((((p1.toUInt32 >>> ((8 : Int32) &&& 31).toUInt32).toInt32) &&& (255 : Int32)).toUInt32.toUInt16.toUInt32.toInt32)), .val (.int ((((p1.toUInt32 >>> ((16 : Int32) &&& 31).toUInt32).toInt32) &&& (255 : Int32)).toUInt32.toUInt16.toUInt32.toInt32))] [(.ref b11), (.ref b9), (.ref b9)])) rfl (by rw [hml]; rfl) (Steps.refl _) (a := b9) (argsL := [(.ref b11)]) (rest := [(.ref b9)]) (lenOf own_pd1 rfl) rfl (by show 2 * 0 + _ ≤ _; exact Nat.le_of_eq rfl) (hb hby own_d1_59) (fun _ _ => ⟨rfl, e14, (by decide : 2 + 1 ≤ _), (by decide : 5 + 1 ≤ _)⟩)
      dsimp only [Pt.U, Pt.locs, Pt.cells, Pt.slots] at X18 l18 y18 z18 st18 hQ18
      subst l18 y18 z18
      obtain ⟨h18, e18⟩ : ∃ h, T18.heap = h := ⟨_, rfl⟩
      rw [e18] at hQ18
      obtain ⟨rfl, Nq18, K18, PE17, PC17, tt17, kb17, Pg17, Pz17, Pn17, PV17, PA17⟩ := hQ18
      have CH20 := CHv.keep K18 (sfS Sf15_b9 sf0) CH15
      have RR20 := CHr.trans RR15 (CHr.keep K18 (sfS Sf15_b9 sf0) CH15)
      have Sf20_b9 := Safe.keep K18 (sfS Sf15_b9 sf0) CH15 Sf15_b9
      have Sf20_b11 := Safe.keep K18 (sfS Sf15_b9 sf0) CH15 Sf15_b11
      have N18 := Fr.app N14 Nq18
      refine own_fs st18 ?_
      show own_G p.tables e below _ (T18.setTop (mkF m 62 #[.val (.int p1), .val (.int p2), .val (.int ((p1 &&& (255 : Int32)).toUInt32.toUInt16.toUInt32.toInt32)), .val (.int ((((p1.toUInt32 >>> ((8 : Int32) &&& 31).toUInt32).toInt32) &&& (255 : Int32)).toUInt32.toUInt16.toUInt32.toInt32)), .val (.int ((((p1.toUInt32 >>> ((16 : Int32) &&& 31).toUInt32).toInt32) &&& (255 : Int32)).toUInt32.toUInt16.toUInt32.toInt32))] [(.ref b9)]))
      exact own_retAW X18 hx (t := (.object "java/lang/String")) Bd.returns hlk rfl rfl (hb hby own_d1_62) (by decide) (by decide) e18 hS0 (Nat.le_trans (Nat.le_trans (Nat.le_trans (Nat.le_trans hk0 E9.1) E11.1) (Keep.of_wr W14).1) K18.1) (by rw [hh]; exact RR20.trans (CHv.at X18 hZ hEL CH20)) ⟨b9, tt17, kb17, rfl, N18, (((((Keep.refl _ _).ext E9).ext E11).wr W14 (Or.inr gz_b11)).trans K18 (allS (Or.inr gz_b9) all0)), PE17, PV17, PC17, (by rw [show own_cs p1 p2 = [own_ch1 p1] from by simp only [own_cs, if_neg hc29, if_pos hc45]]; exact PA17), gz_b9⟩
    · refine own_fs (XS.icmpYes X0.here hx rfl (pc0 := 45) (pc' := 63) rfl (hb hby own_d1_45) rfl (XT.ii_ne_t hc45) (by decide) (by decide) (Steps.refl _)) ?_
      show own_G p.tables e below _ (s₁.setTop (mkF m 63 #[.val (.int p1), .val (.int p2), .val (.int ((p1 &&& (255 : Int32)).toUInt32.toUInt16.toUInt32.toInt32)), .val (.int ((((p1.toUInt32 >>> ((8 : Int32) &&& 31).toUInt32).toInt32) &&& (255 : Int32)).toUInt32.toUInt16.toUInt32.toInt32)), .val (.int ((((p1.toUInt32 >>> ((16 : Int32) &&& 31).toUInt32).toInt32) &&& (255 : Int32)).toUInt32.toUInt16.toUInt32.toInt32))] []))
      refine own_fs (XS.iloadN X0.here hx rfl (hb hby own_d1_63) rfl (Steps.refl _)) ?_
      show own_G p.tables e below _ (s₁.setTop (mkF m 64 #[.val (.int p1), .val (.int p2), .val (.int ((p1 &&& (255 : Int32)).toUInt32.toUInt16.toUInt32.toInt32)), .val (.int ((((p1.toUInt32 >>> ((8 : Int32) &&& 31).toUInt32).toInt32) &&& (255 : Int32)).toUInt32.toUInt16.toUInt32.toInt32)), .val (.int ((((p1.toUInt32 >>> ((16 : Int32) &&& 31).toUInt32).toInt32) &&& (255 : Int32)).toUInt32.toUInt16.toUInt32.toInt32))] [(.int p2)]))
      refine own_fs (XS.iconst X0.here hx rfl (hb hby own_d1_64) (Steps.refl _)) ?_
      show own_G p.tables e below _ (s₁.setTop (mkF m 65 #[.val (.int p1), .val (.int p2), .val (.int ((p1 &&& (255 : Int32)).toUInt32.toUInt16.toUInt32.toInt32)), .val (.int ((((p1.toUInt32 >>> ((8 : Int32) &&& 31).toUInt32).toInt32) &&& (255 : Int32)).toUInt32.toUInt16.toUInt32.toInt32)), .val (.int ((((p1.toUInt32 >>> ((16 : Int32) &&& 31).toUInt32).toInt32) &&& (255 : Int32)).toUInt32.toUInt16.toUInt32.toInt32))] [(.int (2 : Int32)), (.int p2)]))
      by_cases hc65 : p2 = (2 : Int32)
      · refine own_fs (XS.icmpNo X0.here hx rfl (hb hby own_d1_65) rfl (XT.ii_ne_f hc65) (Steps.refl _)) ?_
        show own_G p.tables e below _ (s₁.setTop (mkF m 68 #[.val (.int p1), .val (.int p2), .val (.int ((p1 &&& (255 : Int32)).toUInt32.toUInt16.toUInt32.toInt32)), .val (.int ((((p1.toUInt32 >>> ((8 : Int32) &&& 31).toUInt32).toInt32) &&& (255 : Int32)).toUInt32.toUInt16.toUInt32.toInt32)), .val (.int ((((p1.toUInt32 >>> ((16 : Int32) &&& 31).toUInt32).toInt32) &&& (255 : Int32)).toUInt32.toUInt16.toUInt32.toInt32))] []))
        obtain ⟨T21, h21, X21, e21, E21, A21, D21, -, st21⟩ := newO X0 hx hZ hown (hw _ (List.mem_of_getElem? (i := 7) rfl)) (hw _ (List.mem_of_getElem? (i := 8) rfl)) (hw _ (List.mem_of_getElem? (i := 9) rfl)) e0 (g := (mkF m 68 #[.val (.int p1), .val (.int p2), .val (.int ((p1 &&& (255 : Int32)).toUInt32.toUInt16.toUInt32.toInt32)), .val (.int ((((p1.toUInt32 >>> ((8 : Int32) &&& 31).toUInt32).toInt32) &&& (255 : Int32)).toUInt32.toUInt16.toUInt32.toInt32)), .val (.int ((((p1.toUInt32 >>> ((16 : Int32) &&& 31).toUInt32).toInt32) &&& (255 : Int32)).toUInt32.toUInt16.toUInt32.toInt32))] [])) rfl (hb hby own_d1_68) (by decide) (by decide)
        obtain ⟨b21, g21⟩ : ∃ z, z = h0.size := ⟨_, rfl⟩
        rw [← g21] at A21 D21 st21
        have ge_b21 : n0 ≤ b21 := Nat.le_trans Z0 (Nat.le_of_eq g21.symm)
        have gz_b21 : h0.size ≤ b21 := Nat.le_trans (Nat.le_refl _) (Nat.le_of_eq g21.symm)
        have Sf_b21 : Safe Z own_EL s.vm h0 b21 := Safe.new (Nat.le_of_eq g21.symm)
        have CH22 := CHv.ext E21 CH0
        have RR22 := CHr.trans R0 (CHr.ext E21 CH0)
        have Sf22_b21 := Safe.ext E21 CH0 Sf_b21
        have F_coder_b21 : Fld Z h21 b21 "java/lang/String" "coder" "B" (.int (0 : Int32)) := D21 (Or.inr (hw _ (List.mem_of_getElem? (i := 34) rfl))) (ty := .byte) (by decide)
        have F_value_b21 : Fld Z h21 b21 "java/lang/String" "value" "[B" .null := D21 (Or.inr (hw _ (List.mem_of_getElem? (i := 36) rfl))) (ty := (.array .byte)) (by decide)
        refine own_fs (st21 _ (Steps.refl _)) ?_
        show own_G p.tables e below _ (T21.setTop (mkF m 71 #[.val (.int p1), .val (.int p2), .val (.int ((p1 &&& (255 : Int32)).toUInt32.toUInt16.toUInt32.toInt32)), .val (.int ((((p1.toUInt32 >>> ((8 : Int32) &&& 31).toUInt32).toInt32) &&& (255 : Int32)).toUInt32.toUInt16.toUInt32.toInt32)), .val (.int ((((p1.toUInt32 >>> ((16 : Int32) &&& 31).toUInt32).toInt32) &&& (255 : Int32)).toUInt32.toUInt16.toUInt32.toInt32))] [(.ref b21)]))
        refine own_fs (XS.dup X21.here hx rfl (hb hby own_d1_71) rfl rfl (Steps.refl _)) ?_
        show own_G p.tables e below _ (T21.setTop (mkF m 72 #[.val (.int p1), .val (.int p2), .val (.int ((p1 &&& (255 : Int32)).toUInt32.toUInt16.toUInt32.toInt32)), .val (.int ((((p1.toUInt32 >>> ((8 : Int32) &&& 31).toUInt32).toInt32) &&& (255 : Int32)).toUInt32.toUInt16.toUInt32.toInt32)), .val (.int ((((p1.toUInt32 >>> ((16 : Int32) &&& 31).toUInt32).toInt32) &&& (255 : Int32)).toUInt32.toUInt16.toUInt32.toInt32))] [(.ref b21), (.ref b21)]))
        refine own_fs (XS.iconst X21.here hx rfl (hb hby own_d1_72) (Steps.refl _)) ?_
        show own_G p.tables e below _ (T21.setTop (mkF m 73 #[.val (.int p1), .val (.int p2), .val (.int ((p1 &&& (255 : Int32)).toUInt32.toUInt16.toUInt32.toInt32)), .val (.int ((((p1.toUInt32 >>> ((8 : Int32) &&& 31).toUInt32).toInt32) &&& (255 : Int32)).toUInt32.toUInt16.toUInt32.toInt32)), .val (.int ((((p1.toUInt32 >>> ((16 : Int32) &&& 31).toUInt32).toInt32) &&& (255 : Int32)).toUInt32.toUInt16.toUInt32.toInt32))] [(.int (2 : Int32)), (.ref b21), (.ref b21)]))
        obtain ⟨T23, h23, k23, X23, e23, E23, A23, st23⟩ := newP X21 hx hZ (hw _ (List.mem_of_getElem? (i := 10) rfl)) e21 (g := (mkF m 73 #[.val (.int p1), .val (.int p2), .val (.int ((p1 &&& (255 : Int32)).toUInt32.toUInt16.toUInt32.toInt32)), .val (.int ((((p1.toUInt32 >>> ((8 : Int32) &&& 31).toUInt32).toInt32) &&& (255 : Int32)).toUInt32.toUInt16.toUInt32.toInt32)), .val (.int ((((p1.toUInt32 >>> ((16 : Int32) &&& 31).toUInt32).toInt32) &&& (255 : Int32)).toUInt32.toUInt16.toUInt32.toInt32))] [(.int (2 : Int32)), (.ref b21), (.ref b21)])) rfl (hb hby own_d1_73) rfl (by decide) (cap := 2) (by decide) (by decide) (by decide) (by decide)
        obtain ⟨b23, g23⟩ : ∃ z, z = h21.size := ⟨_, rfl⟩
        rw [← g23] at A23 st23
        have ge_b23 : n0 ≤ b23 := Nat.le_trans (Nat.le_trans Z0 E21.1) (Nat.le_of_eq g23.symm)
        have gz_b23 : h0.size ≤ b23 := Nat.le_trans (Nat.le_trans (Nat.le_refl _) E21.1) (Nat.le_of_eq g23.symm)
        have Sf_b23 : Safe Z own_EL s.vm h21 b23 := Safe.new (Nat.le_of_eq g23.symm)
        have V_b23 : Arv Z h23 b23 k23 .char (2 : Int32) [(.int (0 : Int32)), (.int (0 : Int32))] (.int (0 : Int32)) := (Arv.new A23 (by decide)).pad (pad_rep [] (.int (0 : Int32)) 2)
        have CH24 := CHv.ext E23 CH22
        have RR24 := CHr.trans RR22 (CHr.ext E23 CH22)
        have Sf24_b21 := Safe.ext E23 CH22 Sf22_b21
        have Sf24_b23 := Safe.ext E23 CH22 Sf_b23
        refine own_fs (st23 _ (Steps.refl _)) ?_
        show own_G p.tables e below _ (T23.setTop (mkF m 75 #[.val (.int p1), .val (.int p2), .val (.int ((p1 &&& (255 : Int32)).toUInt32.toUInt16.toUInt32.toInt32)), .val (.int ((((p1.toUInt32 >>> ((8 : Int32) &&& 31).toUInt32).toInt32) &&& (255 : Int32)).toUInt32.toUInt16.toUInt32.toInt32)), .val (.int ((((p1.toUInt32 >>> ((16 : Int32) &&& 31).toUInt32).toInt32) &&& (255 : Int32)).toUInt32.toUInt16.toUInt32.toInt32))] [(.ref b23), (.ref b21), (.ref b21)]))
        refine own_fs (XS.dup X23.here hx rfl (hb hby own_d1_75) rfl rfl (Steps.refl _)) ?_
        show own_G p.tables e below _ (T23.setTop (mkF m 76 #[.val (.int p1), .val (.int p2), .val (.int ((p1 &&& (255 : Int32)).toUInt32.toUInt16.toUInt32.toInt32)), .val (.int ((((p1.toUInt32 >>> ((8 : Int32) &&& 31).toUInt32).toInt32) &&& (255 : Int32)).toUInt32.toUInt16.toUInt32.toInt32)), .val (.int ((((p1.toUInt32 >>> ((16 : Int32) &&& 31).toUInt32).toInt32) &&& (255 : Int32)).toUInt32.toUInt16.toUInt32.toInt32))] [(.ref b23), (.ref b23), (.ref b21), (.ref b21)]))
        refine own_fs (XS.iconst X23.here hx rfl (hb hby own_d1_76) (Steps.refl _)) ?_
        show own_G p.tables e below _ (T23.setTop (mkF m 77 #[.val (.int p1), .val (.int p2), .val (.int ((p1 &&& (255 : Int32)).toUInt32.toUInt16.toUInt32.toInt32)), .val (.int ((((p1.toUInt32 >>> ((8 : Int32) &&& 31).toUInt32).toInt32) &&& (255 : Int32)).toUInt32.toUInt16.toUInt32.toInt32)), .val (.int ((((p1.toUInt32 >>> ((16 : Int32) &&& 31).toUInt32).toInt32) &&& (255 : Int32)).toUInt32.toUInt16.toUInt32.toInt32))] [(.int (0 : Int32)), (.ref b23), (.ref b23), (.ref b21), (.ref b21)]))
        refine own_fs (XS.iloadN X23.here hx rfl (hb hby own_d1_77) rfl (Steps.refl _)) ?_
        show own_G p.tables e below _ (T23.setTop (mkF m 78 #[.val (.int p1), .val (.int p2), .val (.int ((p1 &&& (255 : Int32)).toUInt32.toUInt16.toUInt32.toInt32)), .val (.int ((((p1.toUInt32 >>> ((8 : Int32) &&& 31).toUInt32).toInt32) &&& (255 : Int32)).toUInt32.toUInt16.toUInt32.toInt32)), .val (.int ((((p1.toUInt32 >>> ((16 : Int32) &&& 31).toUInt32).toInt32) &&& (255 : Int32)).toUInt32.toUInt16.toUInt32.toInt32))] [(.int ((p1 &&& (255 : Int32)).toUInt32.toUInt16.toUInt32.toInt32)), (.int (0 : Int32)), (.ref b23), (.ref b23), (.ref b21), (.ref b21)]))
        obtain ⟨cl25, Ar25, q25, S25, O25, H25, G25⟩ := (id V_b23)
        obtain ⟨T26, h26, X26, e26, W26, st26⟩ := stC X23 hx hZ e23 Ar25 (j := (0 : Int32)) (inb_of S25 ⟨by decide, by decide⟩) (g := (mkF m 78 #[.val (.int p1), .val (.int p2), .val (.int ((p1 &&& (255 : Int32)).toUInt32.toUInt16.toUInt32.toInt32)), .val (.int ((((p1.toUInt32 >>> ((8 : Int32) &&& 31).toUInt32).toInt32) &&& (255 : Int32)).toUInt32.toUInt16.toUInt32.toInt32)), .val (.int ((((p1.toUInt32 >>> ((16 : Int32) &&& 31).toUInt32).toInt32) &&& (255 : Int32)).toUInt32.toUInt16.toUInt32.toInt32))] [(.int ((p1 &&& (255 : Int32)).toUInt32.toUInt16.toUInt32.toInt32)), (.int (0 : Int32)), (.ref b23), (.ref b23), (.ref b21), (.ref b21)])) rfl rfl (hb hby own_d1_78)
        refine own_fs (st26 _ (Steps.refl _)) ?_
        have V26 : Arv Z h26 b23 k23 .char (2 : Int32) [(.int (nar .char ((p1 &&& (255 : Int32)).toUInt32.toUInt16.toUInt32.toInt32))), (.int (0 : Int32))] (.int (0 : Int32)) := Arv.set Ar25 q25 S25 O25 H25 G25 (fits_nar_char _) W26 0 rfl (Nat.le_of_ble_eq_true rfl)
        have CH27 := CHv.wr W26 Sf24_b23 CH24
        have RR27 := CHr.trans RR24 (CHr.wr W26 Sf24_b23 CH24)
        have Sf27_b21 := Safe.wr W26 Sf24_b23 CH24 Sf24_b21
        have Sf27_b23 := Safe.wr W26 Sf24_b23 CH24 Sf24_b23
        have N26 := Fr.snoc X26 N0 ge_b23
        show own_G p.tables e below _ (T26.setTop (mkF m 79 #[.val (.int p1), .val (.int p2), .val (.int ((p1 &&& (255 : Int32)).toUInt32.toUInt16.toUInt32.toInt32)), .val (.int ((((p1.toUInt32 >>> ((8 : Int32) &&& 31).toUInt32).toInt32) &&& (255 : Int32)).toUInt32.toUInt16.toUInt32.toInt32)), .val (.int ((((p1.toUInt32 >>> ((16 : Int32) &&& 31).toUInt32).toInt32) &&& (255 : Int32)).toUInt32.toUInt16.toUInt32.toInt32))] [(.ref b23), (.ref b21), (.ref b21)]))
        refine own_fs (XS.dup X26.here hx rfl (hb hby own_d1_79) rfl rfl (Steps.refl _)) ?_
        show own_G p.tables e below _ (T26.setTop (mkF m 80 #[.val (.int p1), .val (.int p2), .val (.int ((p1 &&& (255 : Int32)).toUInt32.toUInt16.toUInt32.toInt32)), .val (.int ((((p1.toUInt32 >>> ((8 : Int32) &&& 31).toUInt32).toInt32) &&& (255 : Int32)).toUInt32.toUInt16.toUInt32.toInt32)), .val (.int ((((p1.toUInt32 >>> ((16 : Int32) &&& 31).toUInt32).toInt32) &&& (255 : Int32)).toUInt32.toUInt16.toUInt32.toInt32))] [(.ref b23), (.ref b23), (.ref b21), (.ref b21)]))
        refine own_fs (XS.iconst X26.here hx rfl (hb hby own_d1_80) (Steps.refl _)) ?_
        show own_G p.tables e below _ (T26.setTop (mkF m 81 #[.val (.int p1), .val (.int p2), .val (.int ((p1 &&& (255 : Int32)).toUInt32.toUInt16.toUInt32.toInt32)), .val (.int ((((p1.toUInt32 >>> ((8 : Int32) &&& 31).toUInt32).toInt32) &&& (255 : Int32)).toUInt32.toUInt16.toUInt32.toInt32)), .val (.int ((((p1.toUInt32 >>> ((16 : Int32) &&& 31).toUInt32).toInt32) &&& (255 : Int32)).toUInt32.toUInt16.toUInt32.toInt32))] [(.int (1 : Int32)), (.ref b23), (.ref b23), (.ref b21), (.ref b21)]))
        refine own_fs (XS.iloadN X26.here hx rfl (hb hby own_d1_81) rfl (Steps.refl _)) ?_
        show own_G p.tables e below _ (T26.setTop (mkF m 82 #[.val (.int p1), .val (.int p2), .val (.int ((p1 &&& (255 : Int32)).toUInt32.toUInt16.toUInt32.toInt32)), .val (.int ((((p1.toUInt32 >>> ((8 : Int32) &&& 31).toUInt32).toInt32) &&& (255 : Int32)).toUInt32.toUInt16.toUInt32.toInt32)), .val (.int ((((p1.toUInt32 >>> ((16 : Int32) &&& 31).toUInt32).toInt32) &&& (255 : Int32)).toUInt32.toUInt16.toUInt32.toInt32))] [(.int ((((p1.toUInt32 >>> ((8 : Int32) &&& 31).toUInt32).toInt32) &&& (255 : Int32)).toUInt32.toUInt16.toUInt32.toInt32)), (.int (1 : Int32)), (.ref b23), (.ref b23), (.ref b21), (.ref b21)]))
        obtain ⟨cl28, Ar28, q28, S28, O28, H28, G28⟩ := (id V26)
        obtain ⟨T29, h29, X29, e29, W29, st29⟩ := stC X26 hx hZ e26 Ar28 (j := (1 : Int32)) (inb_of S28 ⟨by decide, by decide⟩) (g := (mkF m 82 #[.val (.int p1), .val (.int p2), .val (.int ((p1 &&& (255 : Int32)).toUInt32.toUInt16.toUInt32.toInt32)), .val (.int ((((p1.toUInt32 >>> ((8 : Int32) &&& 31).toUInt32).toInt32) &&& (255 : Int32)).toUInt32.toUInt16.toUInt32.toInt32)), .val (.int ((((p1.toUInt32 >>> ((16 : Int32) &&& 31).toUInt32).toInt32) &&& (255 : Int32)).toUInt32.toUInt16.toUInt32.toInt32))] [(.int ((((p1.toUInt32 >>> ((8 : Int32) &&& 31).toUInt32).toInt32) &&& (255 : Int32)).toUInt32.toUInt16.toUInt32.toInt32)), (.int (1 : Int32)), (.ref b23), (.ref b23), (.ref b21), (.ref b21)])) rfl rfl (hb hby own_d1_82)
        refine own_fs (st29 _ (Steps.refl _)) ?_
        have V29 : Arv Z h29 b23 k23 .char (2 : Int32) [(.int (nar .char ((p1 &&& (255 : Int32)).toUInt32.toUInt16.toUInt32.toInt32))), (.int (nar .char ((((p1.toUInt32 >>> ((8 : Int32) &&& 31).toUInt32).toInt32) &&& (255 : Int32)).toUInt32.toUInt16.toUInt32.toInt32)))] (.int (0 : Int32)) := Arv.set Ar28 q28 S28 O28 H28 G28 (fits_nar_char _) W29 1 rfl (Nat.le_of_ble_eq_true rfl)
        have CH30 := CHv.wr W29 Sf27_b23 CH27
        have RR30 := CHr.trans RR27 (CHr.wr W29 Sf27_b23 CH27)
        have Sf30_b21 := Safe.wr W29 Sf27_b23 CH27 Sf27_b21
        have Sf30_b23 := Safe.wr W29 Sf27_b23 CH27 Sf27_b23
        have N29 := Fr.snoc X29 N26 ge_b23
        show own_G p.tables e below _ (T29.setTop (mkF m 83 #[.val (.int p1), .val (.int p2), .val (.int ((p1 &&& (255 : Int32)).toUInt32.toUInt16.toUInt32.toInt32)), .val (.int ((((p1.toUInt32 >>> ((8 : Int32) &&& 31).toUInt32).toInt32) &&& (255 : Int32)).toUInt32.toUInt16.toUInt32.toInt32)), .val (.int ((((p1.toUInt32 >>> ((16 : Int32) &&& 31).toUInt32).toInt32) &&& (255 : Int32)).toUInt32.toUInt16.toUInt32.toInt32))] [(.ref b23), (.ref b21), (.ref b21)]))
        have hws : ∀ d ∈ StrChars.Road.words, d.before a0 Z = true := fun d hd => hw d ((by decide +kernel : ∀ d ∈ StrChars.Road.words, d ∈ tables_1) d hd)
        have hlat : ∀ c ∈ [(nar .char ((p1 &&& (255 : Int32)).toUInt32.toUInt16.toUInt32.toInt32)), (nar .char ((((p1.toUInt32 >>> ((8 : Int32) &&& 31).toUInt32).toInt32) &&& (255 : Int32)).toUInt32.toUInt16.toUInt32.toInt32))], ¬ c < 0 ∧ ¬ (255 : Int32) < c := by
          intro c hc
          simp only [List.mem_cons, List.not_mem_nil, or_false] at hc
          rcases hc with rfl | rfl
          · exact own_ch1_rng _
          · exact own_ch1_rng _
        have Zs34 : n0 ≤ h29.size := (Nat.le_trans (Nat.le_trans (Nat.le_trans (Nat.le_trans Z0 E21.1) E23.1) (Keep.of_wr W26).1) (Keep.of_wr W29).1)
        obtain ⟨_, _, ⟨T33, L33, k33, n33⟩, -, X33, ⟨Lc33, hQ33, l33, y33, z33⟩, st33⟩ := X29.specialBack hx (y := (⟨"java/lang/String", "<init>", "([C)V"⟩ : MethodName)) rfl hown (mvT hZ (hw _ (List.mem_of_getElem? (i := 11) rfl))) (mvT hZ (hw _ (List.mem_of_getElem? (i := 12) rfl))) (mvT hZ (hw _ (List.mem_of_getElem? (i := 13) rfl))) (by decide) (StrChars.Road.backV (W := 1) hZ hws (kI := 4) (hw _ (List.mem_of_getElem? (i := 8) rfl)) (cs := [(nar .char ((p1 &&& (255 : Int32)).toUInt32.toUInt16.toUInt32.toInt32)), (nar .char ((((p1.toUInt32 >>> ((8 : Int32) &&& 31).toUInt32).toInt32) &&& (255 : Int32)).toUInt32.toUInt16.toUInt32.toInt32))]) (bs := [((nar .char ((p1 &&& (255 : Int32)).toUInt32.toUInt16.toUInt32.toInt32))).toInt8.toInt32, ((nar .char ((((p1.toUInt32 >>> ((8 : Int32) &&& 31).toUInt32).toInt32) &&& (255 : Int32)).toUInt32.toUInt16.toUInt32.toInt32))).toInt8.toInt32]) (n := 2) ge_b21 (Nat.le_trans (Nat.le_trans (Nat.le_trans (Nat.le_trans Z0 E21.1) E23.1) (Keep.of_wr W26).1) (Keep.of_wr W29).1) (Exa.wr W29 (Exa.wr W26 (Exa.ext E23 A21))) (Fld.other W29 (Fld.other W26 (Fld.ext E23 F_value_b21) (Or.inl (Nat.ne_of_lt (Nat.lt_of_lt_of_le (Exa.lt A21) (Nat.le_of_eq g23.symm))))) (Or.inl (Nat.ne_of_lt (Nat.lt_of_lt_of_le (Exa.lt A21) (Nat.le_of_eq g23.symm))))) (Fld.other W29 (Fld.other W26 (Fld.ext E23 F_coder_b21) (Or.inl (Nat.ne_of_lt (Nat.lt_of_lt_of_le (Exa.lt A21) (Nat.le_of_eq g23.symm))))) (Or.inl (Nat.ne_of_lt (Nat.lt_of_lt_of_le (Exa.lt A21) (Nat.le_of_eq g23.symm))))) V29 (Sta.ext (Old.wr (Old.wr (Old.ext (Old.ext hOld E21) E23) W26 ge_b23) W29 ge_b23).2 hSc) hcz rfl rfl (by decide) (by decide) hlat rfl (by decide) (by decide)) (g := (mkF m 83 #[.val (.int p1), .val (.int p2), .val (.int ((p1 &&& (255 : Int32)).toUInt32.toUInt16.toUInt32.toInt32)), .val (.int ((((p1.toUInt32 >>> ((8 : Int32) &&& 31).toUInt32).toInt32) &&& (255 : Int32)).toUInt32.toUInt16.toUInt32.toInt32)), .val (.int ((((p1.toUInt32 >>> ((16 : Int32) &&& 31).toUInt32).toInt32) &&& (255 : Int32)).toUInt32.toUInt16.toUInt32.toInt32))] [(.ref b23), (.ref b21), (.ref b21)])) rfl (by rw [hml]; rfl) (Steps.refl _) (a := b21) (argsL := [(.ref b23)]) (rest := [(.ref b21)]) (lenOf own_pd1 rfl) rfl (by show 2 * 0 + _ ≤ _; exact Nat.le_of_eq rfl) (hb hby own_d1_83) (fun _ _ => ⟨rfl, e29, (by decide : 2 + 1 ≤ _), (by decide : 6 + 2 ≤ _)⟩)
        dsimp only [Pt.U, Pt.locs, Pt.cells, Pt.slots] at X33 l33 y33 z33 st33 hQ33
        subst l33 y33 z33
        obtain ⟨h33, e33⟩ : ∃ h, T33.heap = h := ⟨_, rfl⟩
        rw [e33] at hQ33
        obtain ⟨rfl, Nq33, K33, PE32, PC32, tt32, kb32, Pg32, Pz32, Pn32, PV32, PA32⟩ := hQ33
        have CH35 := CHv.keep K33 (sfS Sf30_b21 sf0) CH30
        have RR35 := CHr.trans RR30 (CHr.keep K33 (sfS Sf30_b21 sf0) CH30)
        have Sf35_b21 := Safe.keep K33 (sfS Sf30_b21 sf0) CH30 Sf30_b21
        have Sf35_b23 := Safe.keep K33 (sfS Sf30_b21 sf0) CH30 Sf30_b23
        have N33 := Fr.app N29 Nq33
        refine own_fs st33 ?_
        show own_G p.tables e below _ (T33.setTop (mkF m 86 #[.val (.int p1), .val (.int p2), .val (.int ((p1 &&& (255 : Int32)).toUInt32.toUInt16.toUInt32.toInt32)), .val (.int ((((p1.toUInt32 >>> ((8 : Int32) &&& 31).toUInt32).toInt32) &&& (255 : Int32)).toUInt32.toUInt16.toUInt32.toInt32)), .val (.int ((((p1.toUInt32 >>> ((16 : Int32) &&& 31).toUInt32).toInt32) &&& (255 : Int32)).toUInt32.toUInt16.toUInt32.toInt32))] [(.ref b21)]))
        exact own_retAW X33 hx (t := (.object "java/lang/String")) Bd.returns hlk rfl rfl (hb hby own_d1_86) (by decide) (by decide) e33 hS0 (Nat.le_trans (Nat.le_trans (Nat.le_trans (Nat.le_trans (Nat.le_trans hk0 E21.1) E23.1) (Keep.of_wr W26).1) (Keep.of_wr W29).1) K33.1) (by rw [hh]; exact RR35.trans (CHv.at X33 hZ hEL CH35)) ⟨b21, tt32, kb32, rfl, N33, ((((((Keep.refl _ _).ext E21).ext E23).wr W26 (Or.inr gz_b23)).wr W29 (Or.inr gz_b23)).trans K33 (allS (Or.inr gz_b21) all0)), PE32, PV32, PC32, (by rw [show own_cs p1 p2 = [own_ch1 p1, own_ch1 ((p1.toUInt32 >>> ((8 : Int32) &&& 31).toUInt32).toInt32)] from by simp only [own_cs, if_neg hc29, if_neg hc45, if_pos hc65]]; exact PA32), gz_b21⟩
      · refine own_fs (XS.icmpYes X0.here hx rfl (pc0 := 65) (pc' := 87) rfl (hb hby own_d1_65) rfl (XT.ii_ne_t hc65) (by decide) (by decide) (Steps.refl _)) ?_
        show own_G p.tables e below _ (s₁.setTop (mkF m 87 #[.val (.int p1), .val (.int p2), .val (.int ((p1 &&& (255 : Int32)).toUInt32.toUInt16.toUInt32.toInt32)), .val (.int ((((p1.toUInt32 >>> ((8 : Int32) &&& 31).toUInt32).toInt32) &&& (255 : Int32)).toUInt32.toUInt16.toUInt32.toInt32)), .val (.int ((((p1.toUInt32 >>> ((16 : Int32) &&& 31).toUInt32).toInt32) &&& (255 : Int32)).toUInt32.toUInt16.toUInt32.toInt32))] []))
        obtain ⟨T36, h36, X36, e36, E36, A36, D36, -, st36⟩ := newO X0 hx hZ hown (hw _ (List.mem_of_getElem? (i := 7) rfl)) (hw _ (List.mem_of_getElem? (i := 8) rfl)) (hw _ (List.mem_of_getElem? (i := 9) rfl)) e0 (g := (mkF m 87 #[.val (.int p1), .val (.int p2), .val (.int ((p1 &&& (255 : Int32)).toUInt32.toUInt16.toUInt32.toInt32)), .val (.int ((((p1.toUInt32 >>> ((8 : Int32) &&& 31).toUInt32).toInt32) &&& (255 : Int32)).toUInt32.toUInt16.toUInt32.toInt32)), .val (.int ((((p1.toUInt32 >>> ((16 : Int32) &&& 31).toUInt32).toInt32) &&& (255 : Int32)).toUInt32.toUInt16.toUInt32.toInt32))] [])) rfl (hb hby own_d1_87) (by decide) (by decide)
        obtain ⟨b36, g36⟩ : ∃ z, z = h0.size := ⟨_, rfl⟩
        rw [← g36] at A36 D36 st36
        have ge_b36 : n0 ≤ b36 := Nat.le_trans Z0 (Nat.le_of_eq g36.symm)
        have gz_b36 : h0.size ≤ b36 := Nat.le_trans (Nat.le_refl _) (Nat.le_of_eq g36.symm)
        have Sf_b36 : Safe Z own_EL s.vm h0 b36 := Safe.new (Nat.le_of_eq g36.symm)
        have CH37 := CHv.ext E36 CH0
        have RR37 := CHr.trans R0 (CHr.ext E36 CH0)
        have Sf37_b36 := Safe.ext E36 CH0 Sf_b36
        have F_coder_b36 : Fld Z h36 b36 "java/lang/String" "coder" "B" (.int (0 : Int32)) := D36 (Or.inr (hw _ (List.mem_of_getElem? (i := 34) rfl))) (ty := .byte) (by decide)
        have F_value_b36 : Fld Z h36 b36 "java/lang/String" "value" "[B" .null := D36 (Or.inr (hw _ (List.mem_of_getElem? (i := 36) rfl))) (ty := (.array .byte)) (by decide)
        refine own_fs (st36 _ (Steps.refl _)) ?_
        show own_G p.tables e below _ (T36.setTop (mkF m 90 #[.val (.int p1), .val (.int p2), .val (.int ((p1 &&& (255 : Int32)).toUInt32.toUInt16.toUInt32.toInt32)), .val (.int ((((p1.toUInt32 >>> ((8 : Int32) &&& 31).toUInt32).toInt32) &&& (255 : Int32)).toUInt32.toUInt16.toUInt32.toInt32)), .val (.int ((((p1.toUInt32 >>> ((16 : Int32) &&& 31).toUInt32).toInt32) &&& (255 : Int32)).toUInt32.toUInt16.toUInt32.toInt32))] [(.ref b36)]))
        refine own_fs (XS.dup X36.here hx rfl (hb hby own_d1_90) rfl rfl (Steps.refl _)) ?_
        show own_G p.tables e below _ (T36.setTop (mkF m 91 #[.val (.int p1), .val (.int p2), .val (.int ((p1 &&& (255 : Int32)).toUInt32.toUInt16.toUInt32.toInt32)), .val (.int ((((p1.toUInt32 >>> ((8 : Int32) &&& 31).toUInt32).toInt32) &&& (255 : Int32)).toUInt32.toUInt16.toUInt32.toInt32)), .val (.int ((((p1.toUInt32 >>> ((16 : Int32) &&& 31).toUInt32).toInt32) &&& (255 : Int32)).toUInt32.toUInt16.toUInt32.toInt32))] [(.ref b36), (.ref b36)]))
        refine own_fs (XS.iconst X36.here hx rfl (hb hby own_d1_91) (Steps.refl _)) ?_
        show own_G p.tables e below _ (T36.setTop (mkF m 92 #[.val (.int p1), .val (.int p2), .val (.int ((p1 &&& (255 : Int32)).toUInt32.toUInt16.toUInt32.toInt32)), .val (.int ((((p1.toUInt32 >>> ((8 : Int32) &&& 31).toUInt32).toInt32) &&& (255 : Int32)).toUInt32.toUInt16.toUInt32.toInt32)), .val (.int ((((p1.toUInt32 >>> ((16 : Int32) &&& 31).toUInt32).toInt32) &&& (255 : Int32)).toUInt32.toUInt16.toUInt32.toInt32))] [(.int (3 : Int32)), (.ref b36), (.ref b36)]))
        obtain ⟨T38, h38, k38, X38, e38, E38, A38, st38⟩ := newP X36 hx hZ (hw _ (List.mem_of_getElem? (i := 10) rfl)) e36 (g := (mkF m 92 #[.val (.int p1), .val (.int p2), .val (.int ((p1 &&& (255 : Int32)).toUInt32.toUInt16.toUInt32.toInt32)), .val (.int ((((p1.toUInt32 >>> ((8 : Int32) &&& 31).toUInt32).toInt32) &&& (255 : Int32)).toUInt32.toUInt16.toUInt32.toInt32)), .val (.int ((((p1.toUInt32 >>> ((16 : Int32) &&& 31).toUInt32).toInt32) &&& (255 : Int32)).toUInt32.toUInt16.toUInt32.toInt32))] [(.int (3 : Int32)), (.ref b36), (.ref b36)])) rfl (hb hby own_d1_92) rfl (by decide) (cap := 3) (by decide) (by decide) (by decide) (by decide)
        obtain ⟨b38, g38⟩ : ∃ z, z = h36.size := ⟨_, rfl⟩
        rw [← g38] at A38 st38
        have ge_b38 : n0 ≤ b38 := Nat.le_trans (Nat.le_trans Z0 E36.1) (Nat.le_of_eq g38.symm)
        have gz_b38 : h0.size ≤ b38 := Nat.le_trans (Nat.le_trans (Nat.le_refl _) E36.1) (Nat.le_of_eq g38.symm)
        have Sf_b38 : Safe Z own_EL s.vm h36 b38 := Safe.new (Nat.le_of_eq g38.symm)
        have V_b38 : Arv Z h38 b38 k38 .char (3 : Int32) [(.int (0 : Int32)), (.int (0 : Int32)), (.int (0 : Int32))] (.int (0 : Int32)) := (Arv.new A38 (by decide)).pad (pad_rep [] (.int (0 : Int32)) 3)
        have CH39 := CHv.ext E38 CH37
        have RR39 := CHr.trans RR37 (CHr.ext E38 CH37)
        have Sf39_b36 := Safe.ext E38 CH37 Sf37_b36
        have Sf39_b38 := Safe.ext E38 CH37 Sf_b38
        refine own_fs (st38 _ (Steps.refl _)) ?_
        show own_G p.tables e below _ (T38.setTop (mkF m 94 #[.val (.int p1), .val (.int p2), .val (.int ((p1 &&& (255 : Int32)).toUInt32.toUInt16.toUInt32.toInt32)), .val (.int ((((p1.toUInt32 >>> ((8 : Int32) &&& 31).toUInt32).toInt32) &&& (255 : Int32)).toUInt32.toUInt16.toUInt32.toInt32)), .val (.int ((((p1.toUInt32 >>> ((16 : Int32) &&& 31).toUInt32).toInt32) &&& (255 : Int32)).toUInt32.toUInt16.toUInt32.toInt32))] [(.ref b38), (.ref b36), (.ref b36)]))
        refine own_fs (XS.dup X38.here hx rfl (hb hby own_d1_94) rfl rfl (Steps.refl _)) ?_
        show own_G p.tables e below _ (T38.setTop (mkF m 95 #[.val (.int p1), .val (.int p2), .val (.int ((p1 &&& (255 : Int32)).toUInt32.toUInt16.toUInt32.toInt32)), .val (.int ((((p1.toUInt32 >>> ((8 : Int32) &&& 31).toUInt32).toInt32) &&& (255 : Int32)).toUInt32.toUInt16.toUInt32.toInt32)), .val (.int ((((p1.toUInt32 >>> ((16 : Int32) &&& 31).toUInt32).toInt32) &&& (255 : Int32)).toUInt32.toUInt16.toUInt32.toInt32))] [(.ref b38), (.ref b38), (.ref b36), (.ref b36)]))
        refine own_fs (XS.iconst X38.here hx rfl (hb hby own_d1_95) (Steps.refl _)) ?_
        show own_G p.tables e below _ (T38.setTop (mkF m 96 #[.val (.int p1), .val (.int p2), .val (.int ((p1 &&& (255 : Int32)).toUInt32.toUInt16.toUInt32.toInt32)), .val (.int ((((p1.toUInt32 >>> ((8 : Int32) &&& 31).toUInt32).toInt32) &&& (255 : Int32)).toUInt32.toUInt16.toUInt32.toInt32)), .val (.int ((((p1.toUInt32 >>> ((16 : Int32) &&& 31).toUInt32).toInt32) &&& (255 : Int32)).toUInt32.toUInt16.toUInt32.toInt32))] [(.int (0 : Int32)), (.ref b38), (.ref b38), (.ref b36), (.ref b36)]))
        refine own_fs (XS.iloadN X38.here hx rfl (hb hby own_d1_96) rfl (Steps.refl _)) ?_
        show own_G p.tables e below _ (T38.setTop (mkF m 97 #[.val (.int p1), .val (.int p2), .val (.int ((p1 &&& (255 : Int32)).toUInt32.toUInt16.toUInt32.toInt32)), .val (.int ((((p1.toUInt32 >>> ((8 : Int32) &&& 31).toUInt32).toInt32) &&& (255 : Int32)).toUInt32.toUInt16.toUInt32.toInt32)), .val (.int ((((p1.toUInt32 >>> ((16 : Int32) &&& 31).toUInt32).toInt32) &&& (255 : Int32)).toUInt32.toUInt16.toUInt32.toInt32))] [(.int ((p1 &&& (255 : Int32)).toUInt32.toUInt16.toUInt32.toInt32)), (.int (0 : Int32)), (.ref b38), (.ref b38), (.ref b36), (.ref b36)]))
        obtain ⟨cl40, Ar40, q40, S40, O40, H40, G40⟩ := (id V_b38)
        obtain ⟨T41, h41, X41, e41, W41, st41⟩ := stC X38 hx hZ e38 Ar40 (j := (0 : Int32)) (inb_of S40 ⟨by decide, by decide⟩) (g := (mkF m 97 #[.val (.int p1), .val (.int p2), .val (.int ((p1 &&& (255 : Int32)).toUInt32.toUInt16.toUInt32.toInt32)), .val (.int ((((p1.toUInt32 >>> ((8 : Int32) &&& 31).toUInt32).toInt32) &&& (255 : Int32)).toUInt32.toUInt16.toUInt32.toInt32)), .val (.int ((((p1.toUInt32 >>> ((16 : Int32) &&& 31).toUInt32).toInt32) &&& (255 : Int32)).toUInt32.toUInt16.toUInt32.toInt32))] [(.int ((p1 &&& (255 : Int32)).toUInt32.toUInt16.toUInt32.toInt32)), (.int (0 : Int32)), (.ref b38), (.ref b38), (.ref b36), (.ref b36)])) rfl rfl (hb hby own_d1_97)
        refine own_fs (st41 _ (Steps.refl _)) ?_
        have V41 : Arv Z h41 b38 k38 .char (3 : Int32) [(.int (nar .char ((p1 &&& (255 : Int32)).toUInt32.toUInt16.toUInt32.toInt32))), (.int (0 : Int32)), (.int (0 : Int32))] (.int (0 : Int32)) := Arv.set Ar40 q40 S40 O40 H40 G40 (fits_nar_char _) W41 0 rfl (Nat.le_of_ble_eq_true rfl)
        have CH42 := CHv.wr W41 Sf39_b38 CH39
        have RR42 := CHr.trans RR39 (CHr.wr W41 Sf39_b38 CH39)
        have Sf42_b36 := Safe.wr W41 Sf39_b38 CH39 Sf39_b36
        have Sf42_b38 := Safe.wr W41 Sf39_b38 CH39 Sf39_b38
        have N41 := Fr.snoc X41 N0 ge_b38
        show own_G p.tables e below _ (T41.setTop (mkF m 98 #[.val (.int p1), .val (.int p2), .val (.int ((p1 &&& (255 : Int32)).toUInt32.toUInt16.toUInt32.toInt32)), .val (.int ((((p1.toUInt32 >>> ((8 : Int32) &&& 31).toUInt32).toInt32) &&& (255 : Int32)).toUInt32.toUInt16.toUInt32.toInt32)), .val (.int ((((p1.toUInt32 >>> ((16 : Int32) &&& 31).toUInt32).toInt32) &&& (255 : Int32)).toUInt32.toUInt16.toUInt32.toInt32))] [(.ref b38), (.ref b36), (.ref b36)]))
        refine own_fs (XS.dup X41.here hx rfl (hb hby own_d1_98) rfl rfl (Steps.refl _)) ?_
        show own_G p.tables e below _ (T41.setTop (mkF m 99 #[.val (.int p1), .val (.int p2), .val (.int ((p1 &&& (255 : Int32)).toUInt32.toUInt16.toUInt32.toInt32)), .val (.int ((((p1.toUInt32 >>> ((8 : Int32) &&& 31).toUInt32).toInt32) &&& (255 : Int32)).toUInt32.toUInt16.toUInt32.toInt32)), .val (.int ((((p1.toUInt32 >>> ((16 : Int32) &&& 31).toUInt32).toInt32) &&& (255 : Int32)).toUInt32.toUInt16.toUInt32.toInt32))] [(.ref b38), (.ref b38), (.ref b36), (.ref b36)]))
        refine own_fs (XS.iconst X41.here hx rfl (hb hby own_d1_99) (Steps.refl _)) ?_
        show own_G p.tables e below _ (T41.setTop (mkF m 100 #[.val (.int p1), .val (.int p2), .val (.int ((p1 &&& (255 : Int32)).toUInt32.toUInt16.toUInt32.toInt32)), .val (.int ((((p1.toUInt32 >>> ((8 : Int32) &&& 31).toUInt32).toInt32) &&& (255 : Int32)).toUInt32.toUInt16.toUInt32.toInt32)), .val (.int ((((p1.toUInt32 >>> ((16 : Int32) &&& 31).toUInt32).toInt32) &&& (255 : Int32)).toUInt32.toUInt16.toUInt32.toInt32))] [(.int (1 : Int32)), (.ref b38), (.ref b38), (.ref b36), (.ref b36)]))
        refine own_fs (XS.iloadN X41.here hx rfl (hb hby own_d1_100) rfl (Steps.refl _)) ?_
        show own_G p.tables e below _ (T41.setTop (mkF m 101 #[.val (.int p1), .val (.int p2), .val (.int ((p1 &&& (255 : Int32)).toUInt32.toUInt16.toUInt32.toInt32)), .val (.int ((((p1.toUInt32 >>> ((8 : Int32) &&& 31).toUInt32).toInt32) &&& (255 : Int32)).toUInt32.toUInt16.toUInt32.toInt32)), .val (.int ((((p1.toUInt32 >>> ((16 : Int32) &&& 31).toUInt32).toInt32) &&& (255 : Int32)).toUInt32.toUInt16.toUInt32.toInt32))] [(.int ((((p1.toUInt32 >>> ((8 : Int32) &&& 31).toUInt32).toInt32) &&& (255 : Int32)).toUInt32.toUInt16.toUInt32.toInt32)), (.int (1 : Int32)), (.ref b38), (.ref b38), (.ref b36), (.ref b36)]))
        obtain ⟨cl43, Ar43, q43, S43, O43, H43, G43⟩ := (id V41)
        obtain ⟨T44, h44, X44, e44, W44, st44⟩ := stC X41 hx hZ e41 Ar43 (j := (1 : Int32)) (inb_of S43 ⟨by decide, by decide⟩) (g := (mkF m 101 #[.val (.int p1), .val (.int p2), .val (.int ((p1 &&& (255 : Int32)).toUInt32.toUInt16.toUInt32.toInt32)), .val (.int ((((p1.toUInt32 >>> ((8 : Int32) &&& 31).toUInt32).toInt32) &&& (255 : Int32)).toUInt32.toUInt16.toUInt32.toInt32)), .val (.int ((((p1.toUInt32 >>> ((16 : Int32) &&& 31).toUInt32).toInt32) &&& (255 : Int32)).toUInt32.toUInt16.toUInt32.toInt32))] [(.int ((((p1.toUInt32 >>> ((8 : Int32) &&& 31).toUInt32).toInt32) &&& (255 : Int32)).toUInt32.toUInt16.toUInt32.toInt32)), (.int (1 : Int32)), (.ref b38), (.ref b38), (.ref b36), (.ref b36)])) rfl rfl (hb hby own_d1_101)
        refine own_fs (st44 _ (Steps.refl _)) ?_
        have V44 : Arv Z h44 b38 k38 .char (3 : Int32) [(.int (nar .char ((p1 &&& (255 : Int32)).toUInt32.toUInt16.toUInt32.toInt32))), (.int (nar .char ((((p1.toUInt32 >>> ((8 : Int32) &&& 31).toUInt32).toInt32) &&& (255 : Int32)).toUInt32.toUInt16.toUInt32.toInt32))), (.int (0 : Int32))] (.int (0 : Int32)) := Arv.set Ar43 q43 S43 O43 H43 G43 (fits_nar_char _) W44 1 rfl (Nat.le_of_ble_eq_true rfl)
        have CH45 := CHv.wr W44 Sf42_b38 CH42
        have RR45 := CHr.trans RR42 (CHr.wr W44 Sf42_b38 CH42)
        have Sf45_b36 := Safe.wr W44 Sf42_b38 CH42 Sf42_b36
        have Sf45_b38 := Safe.wr W44 Sf42_b38 CH42 Sf42_b38
        have N44 := Fr.snoc X44 N41 ge_b38
        show own_G p.tables e below _ (T44.setTop (mkF m 102 #[.val (.int p1), .val (.int p2), .val (.int ((p1 &&& (255 : Int32)).toUInt32.toUInt16.toUInt32.toInt32)), .val (.int ((((p1.toUInt32 >>> ((8 : Int32) &&& 31).toUInt32).toInt32) &&& (255 : Int32)).toUInt32.toUInt16.toUInt32.toInt32)), .val (.int ((((p1.toUInt32 >>> ((16 : Int32) &&& 31).toUInt32).toInt32) &&& (255 : Int32)).toUInt32.toUInt16.toUInt32.toInt32))] [(.ref b38), (.ref b36), (.ref b36)]))
        refine own_fs (XS.dup X44.here hx rfl (hb hby own_d1_102) rfl rfl (Steps.refl _)) ?_
        show own_G p.tables e below _ (T44.setTop (mkF m 103 #[.val (.int p1), .val (.int p2), .val (.int ((p1 &&& (255 : Int32)).toUInt32.toUInt16.toUInt32.toInt32)), .val (.int ((((p1.toUInt32 >>> ((8 : Int32) &&& 31).toUInt32).toInt32) &&& (255 : Int32)).toUInt32.toUInt16.toUInt32.toInt32)), .val (.int ((((p1.toUInt32 >>> ((16 : Int32) &&& 31).toUInt32).toInt32) &&& (255 : Int32)).toUInt32.toUInt16.toUInt32.toInt32))] [(.ref b38), (.ref b38), (.ref b36), (.ref b36)]))
        refine own_fs (XS.iconst X44.here hx rfl (hb hby own_d1_103) (Steps.refl _)) ?_
        show own_G p.tables e below _ (T44.setTop (mkF m 104 #[.val (.int p1), .val (.int p2), .val (.int ((p1 &&& (255 : Int32)).toUInt32.toUInt16.toUInt32.toInt32)), .val (.int ((((p1.toUInt32 >>> ((8 : Int32) &&& 31).toUInt32).toInt32) &&& (255 : Int32)).toUInt32.toUInt16.toUInt32.toInt32)), .val (.int ((((p1.toUInt32 >>> ((16 : Int32) &&& 31).toUInt32).toInt32) &&& (255 : Int32)).toUInt32.toUInt16.toUInt32.toInt32))] [(.int (2 : Int32)), (.ref b38), (.ref b38), (.ref b36), (.ref b36)]))
        refine own_fs (XS.iload X44.here hx rfl (hb hby own_d1_104) rfl (Steps.refl _)) ?_
        show own_G p.tables e below _ (T44.setTop (mkF m 106 #[.val (.int p1), .val (.int p2), .val (.int ((p1 &&& (255 : Int32)).toUInt32.toUInt16.toUInt32.toInt32)), .val (.int ((((p1.toUInt32 >>> ((8 : Int32) &&& 31).toUInt32).toInt32) &&& (255 : Int32)).toUInt32.toUInt16.toUInt32.toInt32)), .val (.int ((((p1.toUInt32 >>> ((16 : Int32) &&& 31).toUInt32).toInt32) &&& (255 : Int32)).toUInt32.toUInt16.toUInt32.toInt32))] [(.int ((((p1.toUInt32 >>> ((16 : Int32) &&& 31).toUInt32).toInt32) &&& (255 : Int32)).toUInt32.toUInt16.toUInt32.toInt32)), (.int (2 : Int32)), (.ref b38), (.ref b38), (.ref b36), (.ref b36)]))
        obtain ⟨cl46, Ar46, q46, S46, O46, H46, G46⟩ := (id V44)
        obtain ⟨T47, h47, X47, e47, W47, st47⟩ := stC X44 hx hZ e44 Ar46 (j := (2 : Int32)) (inb_of S46 ⟨by decide, by decide⟩) (g := (mkF m 106 #[.val (.int p1), .val (.int p2), .val (.int ((p1 &&& (255 : Int32)).toUInt32.toUInt16.toUInt32.toInt32)), .val (.int ((((p1.toUInt32 >>> ((8 : Int32) &&& 31).toUInt32).toInt32) &&& (255 : Int32)).toUInt32.toUInt16.toUInt32.toInt32)), .val (.int ((((p1.toUInt32 >>> ((16 : Int32) &&& 31).toUInt32).toInt32) &&& (255 : Int32)).toUInt32.toUInt16.toUInt32.toInt32))] [(.int ((((p1.toUInt32 >>> ((16 : Int32) &&& 31).toUInt32).toInt32) &&& (255 : Int32)).toUInt32.toUInt16.toUInt32.toInt32)), (.int (2 : Int32)), (.ref b38), (.ref b38), (.ref b36), (.ref b36)])) rfl rfl (hb hby own_d1_106)
        refine own_fs (st47 _ (Steps.refl _)) ?_
        have V47 : Arv Z h47 b38 k38 .char (3 : Int32) [(.int (nar .char ((p1 &&& (255 : Int32)).toUInt32.toUInt16.toUInt32.toInt32))), (.int (nar .char ((((p1.toUInt32 >>> ((8 : Int32) &&& 31).toUInt32).toInt32) &&& (255 : Int32)).toUInt32.toUInt16.toUInt32.toInt32))), (.int (nar .char ((((p1.toUInt32 >>> ((16 : Int32) &&& 31).toUInt32).toInt32) &&& (255 : Int32)).toUInt32.toUInt16.toUInt32.toInt32)))] (.int (0 : Int32)) := Arv.set Ar46 q46 S46 O46 H46 G46 (fits_nar_char _) W47 2 rfl (Nat.le_of_ble_eq_true rfl)
        have CH48 := CHv.wr W47 Sf45_b38 CH45
        have RR48 := CHr.trans RR45 (CHr.wr W47 Sf45_b38 CH45)
        have Sf48_b36 := Safe.wr W47 Sf45_b38 CH45 Sf45_b36
        have Sf48_b38 := Safe.wr W47 Sf45_b38 CH45 Sf45_b38
        have N47 := Fr.snoc X47 N44 ge_b38
        show own_G p.tables e below _ (T47.setTop (mkF m 107 #[.val (.int p1), .val (.int p2), .val (.int ((p1 &&& (255 : Int32)).toUInt32.toUInt16.toUInt32.toInt32)), .val (.int ((((p1.toUInt32 >>> ((8 : Int32) &&& 31).toUInt32).toInt32) &&& (255 : Int32)).toUInt32.toUInt16.toUInt32.toInt32)), .val (.int ((((p1.toUInt32 >>> ((16 : Int32) &&& 31).toUInt32).toInt32) &&& (255 : Int32)).toUInt32.toUInt16.toUInt32.toInt32))] [(.ref b38), (.ref b36), (.ref b36)]))
        have hws : ∀ d ∈ StrChars.Road.words, d.before a0 Z = true := fun d hd => hw d ((by decide +kernel : ∀ d ∈ StrChars.Road.words, d ∈ tables_1) d hd)
        have hlat : ∀ c ∈ [(nar .char ((p1 &&& (255 : Int32)).toUInt32.toUInt16.toUInt32.toInt32)), (nar .char ((((p1.toUInt32 >>> ((8 : Int32) &&& 31).toUInt32).toInt32) &&& (255 : Int32)).toUInt32.toUInt16.toUInt32.toInt32)), (nar .char ((((p1.toUInt32 >>> ((16 : Int32) &&& 31).toUInt32).toInt32) &&& (255 : Int32)).toUInt32.toUInt16.toUInt32.toInt32))], ¬ c < 0 ∧ ¬ (255 : Int32) < c := by
          intro c hc
          simp only [List.mem_cons, List.not_mem_nil, or_false] at hc
          rcases hc with rfl | rfl | rfl
          · exact own_ch1_rng _
          · exact own_ch1_rng _
          · exact own_ch1_rng _
        have Zs52 : n0 ≤ h47.size := (Nat.le_trans (Nat.le_trans (Nat.le_trans (Nat.le_trans (Nat.le_trans Z0 E36.1) E38.1) (Keep.of_wr W41).1) (Keep.of_wr W44).1) (Keep.of_wr W47).1)
        obtain ⟨_, _, ⟨T51, L51, k51, n51⟩, -, X51, ⟨Lc51, hQ51, l51, y51, z51⟩, st51⟩ := X47.specialBack hx (y := (⟨"java/lang/String", "<init>", "([C)V"⟩ : MethodName)) rfl hown (mvT hZ (hw _ (List.mem_of_getElem? (i := 11) rfl))) (mvT hZ (hw _ (List.mem_of_getElem? (i := 12) rfl))) (mvT hZ (hw _ (List.mem_of_getElem? (i := 13) rfl))) (by decide) (StrChars.Road.backV (W := 1) hZ hws (kI := 4) (hw _ (List.mem_of_getElem? (i := 8) rfl)) (cs := [(nar .char ((p1 &&& (255 : Int32)).toUInt32.toUInt16.toUInt32.toInt32)), (nar .char ((((p1.toUInt32 >>> ((8 : Int32) &&& 31).toUInt32).toInt32) &&& (255 : Int32)).toUInt32.toUInt16.toUInt32.toInt32)), (nar .char ((((p1.toUInt32 >>> ((16 : Int32) &&& 31).toUInt32).toInt32) &&& (255 : Int32)).toUInt32.toUInt16.toUInt32.toInt32))]) (bs := [((nar .char ((p1 &&& (255 : Int32)).toUInt32.toUInt16.toUInt32.toInt32))).toInt8.toInt32, ((nar .char ((((p1.toUInt32 >>> ((8 : Int32) &&& 31).toUInt32).toInt32) &&& (255 : Int32)).toUInt32.toUInt16.toUInt32.toInt32))).toInt8.toInt32, ((nar .char ((((p1.toUInt32 >>> ((16 : Int32) &&& 31).toUInt32).toInt32) &&& (255 : Int32)).toUInt32.toUInt16.toUInt32.toInt32))).toInt8.toInt32]) (n := 3) ge_b36 (Nat.le_trans (Nat.le_trans (Nat.le_trans (Nat.le_trans (Nat.le_trans Z0 E36.1) E38.1) (Keep.of_wr W41).1) (Keep.of_wr W44).1) (Keep.of_wr W47).1) (Exa.wr W47 (Exa.wr W44 (Exa.wr W41 (Exa.ext E38 A36)))) (Fld.other W47 (Fld.other W44 (Fld.other W41 (Fld.ext E38 F_value_b36) (Or.inl (Nat.ne_of_lt (Nat.lt_of_lt_of_le (Exa.lt A36) (Nat.le_of_eq g38.symm))))) (Or.inl (Nat.ne_of_lt (Nat.lt_of_lt_of_le (Exa.lt A36) (Nat.le_of_eq g38.symm))))) (Or.inl (Nat.ne_of_lt (Nat.lt_of_lt_of_le (Exa.lt A36) (Nat.le_of_eq g38.symm))))) (Fld.other W47 (Fld.other W44 (Fld.other W41 (Fld.ext E38 F_coder_b36) (Or.inl (Nat.ne_of_lt (Nat.lt_of_lt_of_le (Exa.lt A36) (Nat.le_of_eq g38.symm))))) (Or.inl (Nat.ne_of_lt (Nat.lt_of_lt_of_le (Exa.lt A36) (Nat.le_of_eq g38.symm))))) (Or.inl (Nat.ne_of_lt (Nat.lt_of_lt_of_le (Exa.lt A36) (Nat.le_of_eq g38.symm))))) V47 (Sta.ext (Old.wr (Old.wr (Old.wr (Old.ext (Old.ext hOld E36) E38) W41 ge_b38) W44 ge_b38) W47 ge_b38).2 hSc) hcz rfl rfl (by decide) (by decide) hlat rfl (by decide) (by decide)) (g := (mkF m 107 #[.val (.int p1), .val (.int p2), .val (.int ((p1 &&& (255 : Int32)).toUInt32.toUInt16.toUInt32.toInt32)), .val (.int ((((p1.toUInt32 >>> ((8 : Int32) &&& 31).toUInt32).toInt32) &&& (255 : Int32)).toUInt32.toUInt16.toUInt32.toInt32)), .val (.int ((((p1.toUInt32 >>> ((16 : Int32) &&& 31).toUInt32).toInt32) &&& (255 : Int32)).toUInt32.toUInt16.toUInt32.toInt32))] [(.ref b38), (.ref b36), (.ref b36)])) rfl (by rw [hml]; rfl) (Steps.refl _) (a := b36) (argsL := [(.ref b38)]) (rest := [(.ref b36)]) (lenOf own_pd1 rfl) rfl (by show 2 * 0 + _ ≤ _; exact Nat.le_of_eq rfl) (hb hby own_d1_107) (fun _ _ => ⟨rfl, e47, (by decide : 2 + 1 ≤ _), (by decide : 7 + 3 ≤ _)⟩)
        dsimp only [Pt.U, Pt.locs, Pt.cells, Pt.slots] at X51 l51 y51 z51 st51 hQ51
        subst l51 y51 z51
        obtain ⟨h51, e51⟩ : ∃ h, T51.heap = h := ⟨_, rfl⟩
        rw [e51] at hQ51
        obtain ⟨rfl, Nq51, K51, PE50, PC50, tt50, kb50, Pg50, Pz50, Pn50, PV50, PA50⟩ := hQ51
        have CH53 := CHv.keep K51 (sfS Sf48_b36 sf0) CH48
        have RR53 := CHr.trans RR48 (CHr.keep K51 (sfS Sf48_b36 sf0) CH48)
        have Sf53_b36 := Safe.keep K51 (sfS Sf48_b36 sf0) CH48 Sf48_b36
        have Sf53_b38 := Safe.keep K51 (sfS Sf48_b36 sf0) CH48 Sf48_b38
        have N51 := Fr.app N47 Nq51
        refine own_fs st51 ?_
        show own_G p.tables e below _ (T51.setTop (mkF m 110 #[.val (.int p1), .val (.int p2), .val (.int ((p1 &&& (255 : Int32)).toUInt32.toUInt16.toUInt32.toInt32)), .val (.int ((((p1.toUInt32 >>> ((8 : Int32) &&& 31).toUInt32).toInt32) &&& (255 : Int32)).toUInt32.toUInt16.toUInt32.toInt32)), .val (.int ((((p1.toUInt32 >>> ((16 : Int32) &&& 31).toUInt32).toInt32) &&& (255 : Int32)).toUInt32.toUInt16.toUInt32.toInt32))] [(.ref b36)]))
        exact own_retAW X51 hx (t := (.object "java/lang/String")) Bd.returns hlk rfl rfl (hb hby own_d1_110) (by decide) (by decide) e51 hS0 (Nat.le_trans (Nat.le_trans (Nat.le_trans (Nat.le_trans (Nat.le_trans (Nat.le_trans hk0 E36.1) E38.1) (Keep.of_wr W41).1) (Keep.of_wr W44).1) (Keep.of_wr W47).1) K51.1) (by rw [hh]; exact RR53.trans (CHv.at X51 hZ hEL CH53)) ⟨b36, tt50, kb50, rfl, N51, (((((((Keep.refl _ _).ext E36).ext E38).wr W41 (Or.inr gz_b38)).wr W44 (Or.inr gz_b38)).wr W47 (Or.inr gz_b38)).trans K51 (allS (Or.inr gz_b36) all0)), PE50, PV50, PC50, (by rw [show own_cs p1 p2 = [own_ch1 p1, own_ch1 ((p1.toUInt32 >>> ((8 : Int32) &&& 31).toUInt32).toInt32), own_ch1 ((p1.toUInt32 >>> ((16 : Int32) &&& 31).toUInt32).toInt32)] from by simp only [own_cs, if_neg hc29, if_neg hc45, if_neg hc65]]; exact PA50), gz_b36⟩
theorem own_rsame_ef (m : MethodId) (x0 : Int32) (x1 : Int32) (x2 : Int32) (x3 : Int32) : entryFrame m #[(.int x0), (.int x1), (.int x2), (.int x3)] 4 = mkF m 0 #[.val (.int x0), .val (.int x1), .val (.int x2), .val (.int x3)] [] := by first | (simp [entryFrame, mkF, argsToLocals, Value.category]; done) | rfl
def own_rsame_Q (Z : State) (p1 : Int32) (p2 : Int32) (p3 : Int32) (p4 : Int32) (h0 : Heap) (n0 : Nat) (v : Option Value) (h : Heap) (L : List Loc) : Prop := (v = some (.int (own_same p1 p2 p3 p4)) ∧ Fr n0 L ∧ h = h0)
set_option maxRecDepth 65536 in
set_option maxHeartbeats 40000000 in
theorem own_rsame (l : Launch) (Z : State) (a0 : Array Value) (hw : ∀ d ∈ tables_1, d.before a0 Z = true) (ws : List Jvm.Cond) (p1 : Int32) (p2 : Int32) (p3 : Int32) (p4 : Int32) (h0 : Heap) (n0 : Nat) (Z0 : n0 ≤ h0.size)  :
    MetFree l (⟨"com/example/diligent_tableau/diligenttableau/logic/ConceptNameEqualsPinLaw", "sameText", "(IIII)Z"⟩ : MethodName) (head1 (Jvm.Cond.code (⟨"com/example/diligent_tableau/diligenttableau/logic/ConceptNameEqualsPinLaw", "sameText", "(IIII)Z"⟩ : MethodName) method_3_code 4 (some .boolean) :: ws) ({ frames := 0, cells := 0, slots := 0, locals := 0 } : Room)) (fun a U => a = #[(.int p1), (.int p2), (.int p3), (.int p4)] ∧ Z.Warmed39 U.vm ∧ U.heap = h0) (fun _ _ _ _ _ => True) (fun _ U o U' => ∃ v L, o = .returned v ∧ own_rsame_Q Z p1 p2 p3 p4 h0 n0 v U'.heap L ∧ FrameEnd U o U' L ({ frames := 0, cells := 0, slots := 0, locals := 0 } : Room).cells ({ frames := 0, cells := 0, slots := 0, locals := 0 } : Room).slots) := by
  refine MetFree.of_bodySF (plainFor_of_name own_pn2) hisR ?_
  intro p e s m args below meth c s₁ Bd hml0 hP hK
  obtain ⟨rfl, hZ, hh⟩ := hP
  have hx := Bd.exec
  have hby := Bd.bytes
  have hlk : meth.locks = false := BodyLoose.notSynchronized Bd
  have hml : c.maxLocals = 4 := hml0
  have hown : s.vm.findClass "com/example/diligent_tableau/diligenttableau/logic/ConceptNameEqualsPinLaw" = some m.cls := findClass_of_methodNamed Bd.named
  have hnm := (name_of_methodNamed Bd.named Bd.method).1
  have X0 : Stand p l e ({ frames := 0, cells := 0, slots := 0, locals := 0 } : Room) s m #[(.int p1), (.int p2), (.int p3), (.int p4)] below meth c s₁ [] 0 0 := Stand.of_body Bd
  have e0 : s₁.heap = h0 := by rw [← hh, Bd.state]; rfl
  have N0 := Fr.nil n0
  refine own_start (QQ := own_rsame_Q Z p1 p2 p3 p4 h0 n0) (rc := ({ frames := 0, cells := 0, slots := 0, locals := 0 } : Room).cells) (rs := ({ frames := 0, cells := 0, slots := 0, locals := 0 } : Room).slots) (own_rsame_ef m p1 p2 p3 p4 ) ?_
  show own_G p.tables e below _ (s₁.setTop (mkF m 0 #[.val (.int p1), .val (.int p2), .val (.int p3), .val (.int p4)] []))
  refine own_fs (XS.iloadN X0.here hx rfl (hb hby own_d10_0) rfl (Steps.refl _)) ?_
  show own_G p.tables e below _ (s₁.setTop (mkF m 1 #[.val (.int p1), .val (.int p2), .val (.int p3), .val (.int p4)] [(.int p2)]))
  refine own_fs (XS.iloadN X0.here hx rfl (hb hby own_d10_1) rfl (Steps.refl _)) ?_
  show own_G p.tables e below _ (s₁.setTop (mkF m 2 #[.val (.int p1), .val (.int p2), .val (.int p3), .val (.int p4)] [(.int p4), (.int p2)]))
  by_cases hc2 : p2 = p4
  · refine own_fs (XS.icmpYes X0.here hx rfl (pc0 := 2) (pc' := 7) rfl (hb hby own_d10_2) rfl (XT.ii_eq_t hc2) (by decide) (by decide) (Steps.refl _)) ?_
    show own_G p.tables e below _ (s₁.setTop (mkF m 7 #[.val (.int p1), .val (.int p2), .val (.int p3), .val (.int p4)] []))
    refine own_fs (XS.iloadN X0.here hx rfl (hb hby own_d10_7) rfl (Steps.refl _)) ?_
    show own_G p.tables e below _ (s₁.setTop (mkF m 8 #[.val (.int p1), .val (.int p2), .val (.int p3), .val (.int p4)] [(.int p2)]))
    refine own_fs (XS.iconst X0.here hx rfl (hb hby own_d10_8) (Steps.refl _)) ?_
    show own_G p.tables e below _ (s₁.setTop (mkF m 9 #[.val (.int p1), .val (.int p2), .val (.int p3), .val (.int p4)] [(.int (1 : Int32)), (.int p2)]))
    by_cases hc9 : p2 < (1 : Int32)
    · refine own_fs (XS.icmpYes X0.here hx rfl (pc0 := 9) (pc' := 27) rfl (hb hby own_d10_9) rfl (XT.ii_lt_t hc9) (by decide) (by decide) (Steps.refl _)) ?_
      show own_G p.tables e below _ (s₁.setTop (mkF m 27 #[.val (.int p1), .val (.int p2), .val (.int p3), .val (.int p4)] []))
      refine own_fs (XS.iloadN X0.here hx rfl (hb hby own_d10_27) rfl (Steps.refl _)) ?_
      show own_G p.tables e below _ (s₁.setTop (mkF m 28 #[.val (.int p1), .val (.int p2), .val (.int p3), .val (.int p4)] [(.int p2)]))
      refine own_fs (XS.iconst X0.here hx rfl (hb hby own_d10_28) (Steps.refl _)) ?_
      show own_G p.tables e below _ (s₁.setTop (mkF m 29 #[.val (.int p1), .val (.int p2), .val (.int p3), .val (.int p4)] [(.int (2 : Int32)), (.int p2)]))
      by_cases hc29 : p2 < (2 : Int32)
      · refine own_fs (XS.icmpYes X0.here hx rfl (pc0 := 29) (pc' := 53) rfl (hb hby own_d10_29) rfl (XT.ii_lt_t hc29) (by decide) (by decide) (Steps.refl _)) ?_
        show own_G p.tables e below _ (s₁.setTop (mkF m 53 #[.val (.int p1), .val (.int p2), .val (.int p3), .val (.int p4)] []))
        refine own_fs (XS.iloadN X0.here hx rfl (hb hby own_d10_53) rfl (Steps.refl _)) ?_
        show own_G p.tables e below _ (s₁.setTop (mkF m 54 #[.val (.int p1), .val (.int p2), .val (.int p3), .val (.int p4)] [(.int p2)]))
        refine own_fs (XS.iconst X0.here hx rfl (hb hby own_d10_54) (Steps.refl _)) ?_
        show own_G p.tables e below _ (s₁.setTop (mkF m 55 #[.val (.int p1), .val (.int p2), .val (.int p3), .val (.int p4)] [(.int (3 : Int32)), (.int p2)]))
        by_cases hc55 : p2 < (3 : Int32)
        · refine own_fs (XS.icmpYes X0.here hx rfl (pc0 := 55) (pc' := 79) rfl (hb hby own_d10_55) rfl (XT.ii_lt_t hc55) (by decide) (by decide) (Steps.refl _)) ?_
          show own_G p.tables e below _ (s₁.setTop (mkF m 79 #[.val (.int p1), .val (.int p2), .val (.int p3), .val (.int p4)] []))
          refine own_fs (XS.iconst X0.here hx rfl (hb hby own_d10_79) (Steps.refl _)) ?_
          show own_G p.tables e below _ (s₁.setTop (mkF m 80 #[.val (.int p1), .val (.int p2), .val (.int p3), .val (.int p4)] [(.int (1 : Int32))]))
          exact own_retN X0 hx (t := .boolean) Bd.returns hlk (by simp) (hb hby own_d10_80) (by decide) (by decide) e0 ⟨(by simp only [own_same, own_s2, own_s3, own_nar0, own_nar1, if_pos hc2, if_pos hc29, if_pos hc55, if_pos hc9]), N0, rfl⟩
        · refine own_fs (XS.icmpNo X0.here hx rfl (hb hby own_d10_55) rfl (XT.ii_lt_f hc55) (Steps.refl _)) ?_
          show own_G p.tables e below _ (s₁.setTop (mkF m 58 #[.val (.int p1), .val (.int p2), .val (.int p3), .val (.int p4)] []))
          refine own_fs (XS.iloadN X0.here hx rfl (hb hby own_d10_58) rfl (Steps.refl _)) ?_
          show own_G p.tables e below _ (s₁.setTop (mkF m 59 #[.val (.int p1), .val (.int p2), .val (.int p3), .val (.int p4)] [(.int p1)]))
          refine own_fs (XS.bipush X0.here hx rfl (hb hby own_d10_59) (Steps.refl _)) ?_
          show own_G p.tables e below _ (s₁.setTop (mkF m 61 #[.val (.int p1), .val (.int p2), .val (.int p3), .val (.int p4)] [(.int (16 : Int32)), (.int p1)]))
          refine own_fs (XS.iushr X0.here hx rfl (hb hby own_d10_61) rfl (Steps.refl _)) ?_
          show own_G p.tables e below _ (s₁.setTop (mkF m 62 #[.val (.int p1), .val (.int p2), .val (.int p3), .val (.int p4)] [(.int ((p1.toUInt32 >>> ((16 : Int32) &&& 31).toUInt32).toInt32))]))
          refine own_fs (XS.sipush X0.here hx rfl (hb hby own_d10_62) (Steps.refl _)) ?_
          show own_G p.tables e below _ (s₁.setTop (mkF m 65 #[.val (.int p1), .val (.int p2), .val (.int p3), .val (.int p4)] [(.int (255 : Int32)), (.int ((p1.toUInt32 >>> ((16 : Int32) &&& 31).toUInt32).toInt32))]))
          refine own_fs (XS.iand X0.here hx rfl (hb hby own_d10_65) rfl (Steps.refl _)) ?_
          show own_G p.tables e below _ (s₁.setTop (mkF m 66 #[.val (.int p1), .val (.int p2), .val (.int p3), .val (.int p4)] [(.int (((p1.toUInt32 >>> ((16 : Int32) &&& 31).toUInt32).toInt32) &&& (255 : Int32)))]))
          refine own_fs (XS.iloadN X0.here hx rfl (hb hby own_d10_66) rfl (Steps.refl _)) ?_
          show own_G p.tables e below _ (s₁.setTop (mkF m 67 #[.val (.int p1), .val (.int p2), .val (.int p3), .val (.int p4)] [(.int p3), (.int (((p1.toUInt32 >>> ((16 : Int32) &&& 31).toUInt32).toInt32) &&& (255 : Int32)))]))
          refine own_fs (XS.bipush X0.here hx rfl (hb hby own_d10_67) (Steps.refl _)) ?_
          show own_G p.tables e below _ (s₁.setTop (mkF m 69 #[.val (.int p1), .val (.int p2), .val (.int p3), .val (.int p4)] [(.int (16 : Int32)), (.int p3), (.int (((p1.toUInt32 >>> ((16 : Int32) &&& 31).toUInt32).toInt32) &&& (255 : Int32)))]))
          refine own_fs (XS.iushr X0.here hx rfl (hb hby own_d10_69) rfl (Steps.refl _)) ?_
          show own_G p.tables e below _ (s₁.setTop (mkF m 70 #[.val (.int p1), .val (.int p2), .val (.int p3), .val (.int p4)] [(.int ((p3.toUInt32 >>> ((16 : Int32) &&& 31).toUInt32).toInt32)), (.int (((p1.toUInt32 >>> ((16 : Int32) &&& 31).toUInt32).toInt32) &&& (255 : Int32)))]))
          refine own_fs (XS.sipush X0.here hx rfl (hb hby own_d10_70) (Steps.refl _)) ?_
          show own_G p.tables e below _ (s₁.setTop (mkF m 73 #[.val (.int p1), .val (.int p2), .val (.int p3), .val (.int p4)] [(.int (255 : Int32)), (.int ((p3.toUInt32 >>> ((16 : Int32) &&& 31).toUInt32).toInt32)), (.int (((p1.toUInt32 >>> ((16 : Int32) &&& 31).toUInt32).toInt32) &&& (255 : Int32)))]))
          refine own_fs (XS.iand X0.here hx rfl (hb hby own_d10_73) rfl (Steps.refl _)) ?_
          show own_G p.tables e below _ (s₁.setTop (mkF m 74 #[.val (.int p1), .val (.int p2), .val (.int p3), .val (.int p4)] [(.int (((p3.toUInt32 >>> ((16 : Int32) &&& 31).toUInt32).toInt32) &&& (255 : Int32))), (.int (((p1.toUInt32 >>> ((16 : Int32) &&& 31).toUInt32).toInt32) &&& (255 : Int32)))]))
          by_cases hc74 : (((p1.toUInt32 >>> ((16 : Int32) &&& 31).toUInt32).toInt32) &&& (255 : Int32)) = (((p3.toUInt32 >>> ((16 : Int32) &&& 31).toUInt32).toInt32) &&& (255 : Int32))
          · refine own_fs (XS.icmpYes X0.here hx rfl (pc0 := 74) (pc' := 79) rfl (hb hby own_d10_74) rfl (XT.ii_eq_t hc74) (by decide) (by decide) (Steps.refl _)) ?_
            show own_G p.tables e below _ (s₁.setTop (mkF m 79 #[.val (.int p1), .val (.int p2), .val (.int p3), .val (.int p4)] []))
            refine own_fs (XS.iconst X0.here hx rfl (hb hby own_d10_79) (Steps.refl _)) ?_
            show own_G p.tables e below _ (s₁.setTop (mkF m 80 #[.val (.int p1), .val (.int p2), .val (.int p3), .val (.int p4)] [(.int (1 : Int32))]))
            exact own_retN X0 hx (t := .boolean) Bd.returns hlk (by simp) (hb hby own_d10_80) (by decide) (by decide) e0 ⟨(by simp only [own_same, own_s2, own_s3, own_nar0, own_nar1, if_neg hc55, if_pos hc2, if_pos hc29, if_pos hc74, if_pos hc9]), N0, rfl⟩
          · refine own_fs (XS.icmpNo X0.here hx rfl (hb hby own_d10_74) rfl (XT.ii_eq_f hc74) (Steps.refl _)) ?_
            show own_G p.tables e below _ (s₁.setTop (mkF m 77 #[.val (.int p1), .val (.int p2), .val (.int p3), .val (.int p4)] []))
            refine own_fs (XS.iconst X0.here hx rfl (hb hby own_d10_77) (Steps.refl _)) ?_
            show own_G p.tables e below _ (s₁.setTop (mkF m 78 #[.val (.int p1), .val (.int p2), .val (.int p3), .val (.int p4)] [(.int (0 : Int32))]))
            exact own_retN X0 hx (t := .boolean) Bd.returns hlk (by simp) (hb hby own_d10_78) (by decide) (by decide) e0 ⟨(by simp only [own_same, own_s2, own_s3, own_nar0, own_nar1, if_neg hc55, if_neg hc74, if_pos hc2, if_pos hc29, if_pos hc9]), N0, rfl⟩
      · refine own_fs (XS.icmpNo X0.here hx rfl (hb hby own_d10_29) rfl (XT.ii_lt_f hc29) (Steps.refl _)) ?_
        show own_G p.tables e below _ (s₁.setTop (mkF m 32 #[.val (.int p1), .val (.int p2), .val (.int p3), .val (.int p4)] []))
        refine own_fs (XS.iloadN X0.here hx rfl (hb hby own_d10_32) rfl (Steps.refl _)) ?_
        show own_G p.tables e below _ (s₁.setTop (mkF m 33 #[.val (.int p1), .val (.int p2), .val (.int p3), .val (.int p4)] [(.int p1)]))
        refine own_fs (XS.bipush X0.here hx rfl (hb hby own_d10_33) (Steps.refl _)) ?_
        show own_G p.tables e below _ (s₁.setTop (mkF m 35 #[.val (.int p1), .val (.int p2), .val (.int p3), .val (.int p4)] [(.int (8 : Int32)), (.int p1)]))
        refine own_fs (XS.iushr X0.here hx rfl (hb hby own_d10_35) rfl (Steps.refl _)) ?_
        show own_G p.tables e below _ (s₁.setTop (mkF m 36 #[.val (.int p1), .val (.int p2), .val (.int p3), .val (.int p4)] [(.int ((p1.toUInt32 >>> ((8 : Int32) &&& 31).toUInt32).toInt32))]))
        refine own_fs (XS.sipush X0.here hx rfl (hb hby own_d10_36) (Steps.refl _)) ?_
        show own_G p.tables e below _ (s₁.setTop (mkF m 39 #[.val (.int p1), .val (.int p2), .val (.int p3), .val (.int p4)] [(.int (255 : Int32)), (.int ((p1.toUInt32 >>> ((8 : Int32) &&& 31).toUInt32).toInt32))]))
        refine own_fs (XS.iand X0.here hx rfl (hb hby own_d10_39) rfl (Steps.refl _)) ?_
        show own_G p.tables e below _ (s₁.setTop (mkF m 40 #[.val (.int p1), .val (.int p2), .val (.int p3), .val (.int p4)] [(.int (((p1.toUInt32 >>> ((8 : Int32) &&& 31).toUInt32).toInt32) &&& (255 : Int32)))]))
        refine own_fs (XS.iloadN X0.here hx rfl (hb hby own_d10_40) rfl (Steps.refl _)) ?_
        show own_G p.tables e below _ (s₁.setTop (mkF m 41 #[.val (.int p1), .val (.int p2), .val (.int p3), .val (.int p4)] [(.int p3), (.int (((p1.toUInt32 >>> ((8 : Int32) &&& 31).toUInt32).toInt32) &&& (255 : Int32)))]))
        refine own_fs (XS.bipush X0.here hx rfl (hb hby own_d10_41) (Steps.refl _)) ?_
        show own_G p.tables e below _ (s₁.setTop (mkF m 43 #[.val (.int p1), .val (.int p2), .val (.int p3), .val (.int p4)] [(.int (8 : Int32)), (.int p3), (.int (((p1.toUInt32 >>> ((8 : Int32) &&& 31).toUInt32).toInt32) &&& (255 : Int32)))]))
        refine own_fs (XS.iushr X0.here hx rfl (hb hby own_d10_43) rfl (Steps.refl _)) ?_
        show own_G p.tables e below _ (s₁.setTop (mkF m 44 #[.val (.int p1), .val (.int p2), .val (.int p3), .val (.int p4)] [(.int ((p3.toUInt32 >>> ((8 : Int32) &&& 31).toUInt32).toInt32)), (.int (((p1.toUInt32 >>> ((8 : Int32) &&& 31).toUInt32).toInt32) &&& (255 : Int32)))]))
        refine own_fs (XS.sipush X0.here hx rfl (hb hby own_d10_44) (Steps.refl _)) ?_
        show own_G p.tables e below _ (s₁.setTop (mkF m 47 #[.val (.int p1), .val (.int p2), .val (.int p3), .val (.int p4)] [(.int (255 : Int32)), (.int ((p3.toUInt32 >>> ((8 : Int32) &&& 31).toUInt32).toInt32)), (.int (((p1.toUInt32 >>> ((8 : Int32) &&& 31).toUInt32).toInt32) &&& (255 : Int32)))]))
        refine own_fs (XS.iand X0.here hx rfl (hb hby own_d10_47) rfl (Steps.refl _)) ?_
        show own_G p.tables e below _ (s₁.setTop (mkF m 48 #[.val (.int p1), .val (.int p2), .val (.int p3), .val (.int p4)] [(.int (((p3.toUInt32 >>> ((8 : Int32) &&& 31).toUInt32).toInt32) &&& (255 : Int32))), (.int (((p1.toUInt32 >>> ((8 : Int32) &&& 31).toUInt32).toInt32) &&& (255 : Int32)))]))
        by_cases hc48 : (((p1.toUInt32 >>> ((8 : Int32) &&& 31).toUInt32).toInt32) &&& (255 : Int32)) = (((p3.toUInt32 >>> ((8 : Int32) &&& 31).toUInt32).toInt32) &&& (255 : Int32))
        · refine own_fs (XS.icmpYes X0.here hx rfl (pc0 := 48) (pc' := 53) rfl (hb hby own_d10_48) rfl (XT.ii_eq_t hc48) (by decide) (by decide) (Steps.refl _)) ?_
          show own_G p.tables e below _ (s₁.setTop (mkF m 53 #[.val (.int p1), .val (.int p2), .val (.int p3), .val (.int p4)] []))
          refine own_fs (XS.iloadN X0.here hx rfl (hb hby own_d10_53) rfl (Steps.refl _)) ?_
          show own_G p.tables e below _ (s₁.setTop (mkF m 54 #[.val (.int p1), .val (.int p2), .val (.int p3), .val (.int p4)] [(.int p2)]))
          refine own_fs (XS.iconst X0.here hx rfl (hb hby own_d10_54) (Steps.refl _)) ?_
          show own_G p.tables e below _ (s₁.setTop (mkF m 55 #[.val (.int p1), .val (.int p2), .val (.int p3), .val (.int p4)] [(.int (3 : Int32)), (.int p2)]))
          by_cases hc55 : p2 < (3 : Int32)
          · refine own_fs (XS.icmpYes X0.here hx rfl (pc0 := 55) (pc' := 79) rfl (hb hby own_d10_55) rfl (XT.ii_lt_t hc55) (by decide) (by decide) (Steps.refl _)) ?_
            show own_G p.tables e below _ (s₁.setTop (mkF m 79 #[.val (.int p1), .val (.int p2), .val (.int p3), .val (.int p4)] []))
            refine own_fs (XS.iconst X0.here hx rfl (hb hby own_d10_79) (Steps.refl _)) ?_
            show own_G p.tables e below _ (s₁.setTop (mkF m 80 #[.val (.int p1), .val (.int p2), .val (.int p3), .val (.int p4)] [(.int (1 : Int32))]))
            exact own_retN X0 hx (t := .boolean) Bd.returns hlk (by simp) (hb hby own_d10_80) (by decide) (by decide) e0 ⟨(by simp only [own_same, own_s2, own_s3, own_nar0, own_nar1, if_neg hc29, if_pos hc2, if_pos hc48, if_pos hc55, if_pos hc9]), N0, rfl⟩
          · refine own_fs (XS.icmpNo X0.here hx rfl (hb hby own_d10_55) rfl (XT.ii_lt_f hc55) (Steps.refl _)) ?_
            show own_G p.tables e below _ (s₁.setTop (mkF m 58 #[.val (.int p1), .val (.int p2), .val (.int p3), .val (.int p4)] []))
            refine own_fs (XS.iloadN X0.here hx rfl (hb hby own_d10_58) rfl (Steps.refl _)) ?_
            show own_G p.tables e below _ (s₁.setTop (mkF m 59 #[.val (.int p1), .val (.int p2), .val (.int p3), .val (.int p4)] [(.int p1)]))
            refine own_fs (XS.bipush X0.here hx rfl (hb hby own_d10_59) (Steps.refl _)) ?_
            show own_G p.tables e below _ (s₁.setTop (mkF m 61 #[.val (.int p1), .val (.int p2), .val (.int p3), .val (.int p4)] [(.int (16 : Int32)), (.int p1)]))
            refine own_fs (XS.iushr X0.here hx rfl (hb hby own_d10_61) rfl (Steps.refl _)) ?_
            show own_G p.tables e below _ (s₁.setTop (mkF m 62 #[.val (.int p1), .val (.int p2), .val (.int p3), .val (.int p4)] [(.int ((p1.toUInt32 >>> ((16 : Int32) &&& 31).toUInt32).toInt32))]))
            refine own_fs (XS.sipush X0.here hx rfl (hb hby own_d10_62) (Steps.refl _)) ?_
            show own_G p.tables e below _ (s₁.setTop (mkF m 65 #[.val (.int p1), .val (.int p2), .val (.int p3), .val (.int p4)] [(.int (255 : Int32)), (.int ((p1.toUInt32 >>> ((16 : Int32) &&& 31).toUInt32).toInt32))]))
            refine own_fs (XS.iand X0.here hx rfl (hb hby own_d10_65) rfl (Steps.refl _)) ?_
            show own_G p.tables e below _ (s₁.setTop (mkF m 66 #[.val (.int p1), .val (.int p2), .val (.int p3), .val (.int p4)] [(.int (((p1.toUInt32 >>> ((16 : Int32) &&& 31).toUInt32).toInt32) &&& (255 : Int32)))]))
            refine own_fs (XS.iloadN X0.here hx rfl (hb hby own_d10_66) rfl (Steps.refl _)) ?_
            show own_G p.tables e below _ (s₁.setTop (mkF m 67 #[.val (.int p1), .val (.int p2), .val (.int p3), .val (.int p4)] [(.int p3), (.int (((p1.toUInt32 >>> ((16 : Int32) &&& 31).toUInt32).toInt32) &&& (255 : Int32)))]))
            refine own_fs (XS.bipush X0.here hx rfl (hb hby own_d10_67) (Steps.refl _)) ?_
            show own_G p.tables e below _ (s₁.setTop (mkF m 69 #[.val (.int p1), .val (.int p2), .val (.int p3), .val (.int p4)] [(.int (16 : Int32)), (.int p3), (.int (((p1.toUInt32 >>> ((16 : Int32) &&& 31).toUInt32).toInt32) &&& (255 : Int32)))]))
            refine own_fs (XS.iushr X0.here hx rfl (hb hby own_d10_69) rfl (Steps.refl _)) ?_
            show own_G p.tables e below _ (s₁.setTop (mkF m 70 #[.val (.int p1), .val (.int p2), .val (.int p3), .val (.int p4)] [(.int ((p3.toUInt32 >>> ((16 : Int32) &&& 31).toUInt32).toInt32)), (.int (((p1.toUInt32 >>> ((16 : Int32) &&& 31).toUInt32).toInt32) &&& (255 : Int32)))]))
            refine own_fs (XS.sipush X0.here hx rfl (hb hby own_d10_70) (Steps.refl _)) ?_
            show own_G p.tables e below _ (s₁.setTop (mkF m 73 #[.val (.int p1), .val (.int p2), .val (.int p3), .val (.int p4)] [(.int (255 : Int32)), (.int ((p3.toUInt32 >>> ((16 : Int32) &&& 31).toUInt32).toInt32)), (.int (((p1.toUInt32 >>> ((16 : Int32) &&& 31).toUInt32).toInt32) &&& (255 : Int32)))]))
            refine own_fs (XS.iand X0.here hx rfl (hb hby own_d10_73) rfl (Steps.refl _)) ?_
            show own_G p.tables e below _ (s₁.setTop (mkF m 74 #[.val (.int p1), .val (.int p2), .val (.int p3), .val (.int p4)] [(.int (((p3.toUInt32 >>> ((16 : Int32) &&& 31).toUInt32).toInt32) &&& (255 : Int32))), (.int (((p1.toUInt32 >>> ((16 : Int32) &&& 31).toUInt32).toInt32) &&& (255 : Int32)))]))
            by_cases hc74 : (((p1.toUInt32 >>> ((16 : Int32) &&& 31).toUInt32).toInt32) &&& (255 : Int32)) = (((p3.toUInt32 >>> ((16 : Int32) &&& 31).toUInt32).toInt32) &&& (255 : Int32))
            · refine own_fs (XS.icmpYes X0.here hx rfl (pc0 := 74) (pc' := 79) rfl (hb hby own_d10_74) rfl (XT.ii_eq_t hc74) (by decide) (by decide) (Steps.refl _)) ?_
              show own_G p.tables e below _ (s₁.setTop (mkF m 79 #[.val (.int p1), .val (.int p2), .val (.int p3), .val (.int p4)] []))
              refine own_fs (XS.iconst X0.here hx rfl (hb hby own_d10_79) (Steps.refl _)) ?_
              show own_G p.tables e below _ (s₁.setTop (mkF m 80 #[.val (.int p1), .val (.int p2), .val (.int p3), .val (.int p4)] [(.int (1 : Int32))]))
              exact own_retN X0 hx (t := .boolean) Bd.returns hlk (by simp) (hb hby own_d10_80) (by decide) (by decide) e0 ⟨(by simp only [own_same, own_s2, own_s3, own_nar0, own_nar1, if_neg hc29, if_neg hc55, if_pos hc2, if_pos hc48, if_pos hc74, if_pos hc9]), N0, rfl⟩
            · refine own_fs (XS.icmpNo X0.here hx rfl (hb hby own_d10_74) rfl (XT.ii_eq_f hc74) (Steps.refl _)) ?_
              show own_G p.tables e below _ (s₁.setTop (mkF m 77 #[.val (.int p1), .val (.int p2), .val (.int p3), .val (.int p4)] []))
              refine own_fs (XS.iconst X0.here hx rfl (hb hby own_d10_77) (Steps.refl _)) ?_
              show own_G p.tables e below _ (s₁.setTop (mkF m 78 #[.val (.int p1), .val (.int p2), .val (.int p3), .val (.int p4)] [(.int (0 : Int32))]))
              exact own_retN X0 hx (t := .boolean) Bd.returns hlk (by simp) (hb hby own_d10_78) (by decide) (by decide) e0 ⟨(by simp only [own_same, own_s2, own_s3, own_nar0, own_nar1, if_neg hc29, if_neg hc55, if_neg hc74, if_pos hc2, if_pos hc48, if_pos hc9]), N0, rfl⟩
        · refine own_fs (XS.icmpNo X0.here hx rfl (hb hby own_d10_48) rfl (XT.ii_eq_f hc48) (Steps.refl _)) ?_
          show own_G p.tables e below _ (s₁.setTop (mkF m 51 #[.val (.int p1), .val (.int p2), .val (.int p3), .val (.int p4)] []))
          refine own_fs (XS.iconst X0.here hx rfl (hb hby own_d10_51) (Steps.refl _)) ?_
          show own_G p.tables e below _ (s₁.setTop (mkF m 52 #[.val (.int p1), .val (.int p2), .val (.int p3), .val (.int p4)] [(.int (0 : Int32))]))
          exact own_retN X0 hx (t := .boolean) Bd.returns hlk (by simp) (hb hby own_d10_52) (by decide) (by decide) e0 ⟨(by simp only [own_same, own_s2, own_s3, own_nar0, own_nar1, if_neg hc29, if_neg hc48, if_pos hc2, if_pos hc9]), N0, rfl⟩
    · refine own_fs (XS.icmpNo X0.here hx rfl (hb hby own_d10_9) rfl (XT.ii_lt_f hc9) (Steps.refl _)) ?_
      show own_G p.tables e below _ (s₁.setTop (mkF m 12 #[.val (.int p1), .val (.int p2), .val (.int p3), .val (.int p4)] []))
      refine own_fs (XS.iloadN X0.here hx rfl (hb hby own_d10_12) rfl (Steps.refl _)) ?_
      show own_G p.tables e below _ (s₁.setTop (mkF m 13 #[.val (.int p1), .val (.int p2), .val (.int p3), .val (.int p4)] [(.int p1)]))
      refine own_fs (XS.sipush X0.here hx rfl (hb hby own_d10_13) (Steps.refl _)) ?_
      show own_G p.tables e below _ (s₁.setTop (mkF m 16 #[.val (.int p1), .val (.int p2), .val (.int p3), .val (.int p4)] [(.int (255 : Int32)), (.int p1)]))
      refine own_fs (XS.iand X0.here hx rfl (hb hby own_d10_16) rfl (Steps.refl _)) ?_
      show own_G p.tables e below _ (s₁.setTop (mkF m 17 #[.val (.int p1), .val (.int p2), .val (.int p3), .val (.int p4)] [(.int (p1 &&& (255 : Int32)))]))
      refine own_fs (XS.iloadN X0.here hx rfl (hb hby own_d10_17) rfl (Steps.refl _)) ?_
      show own_G p.tables e below _ (s₁.setTop (mkF m 18 #[.val (.int p1), .val (.int p2), .val (.int p3), .val (.int p4)] [(.int p3), (.int (p1 &&& (255 : Int32)))]))
      refine own_fs (XS.sipush X0.here hx rfl (hb hby own_d10_18) (Steps.refl _)) ?_
      show own_G p.tables e below _ (s₁.setTop (mkF m 21 #[.val (.int p1), .val (.int p2), .val (.int p3), .val (.int p4)] [(.int (255 : Int32)), (.int p3), (.int (p1 &&& (255 : Int32)))]))
      refine own_fs (XS.iand X0.here hx rfl (hb hby own_d10_21) rfl (Steps.refl _)) ?_
      show own_G p.tables e below _ (s₁.setTop (mkF m 22 #[.val (.int p1), .val (.int p2), .val (.int p3), .val (.int p4)] [(.int (p3 &&& (255 : Int32))), (.int (p1 &&& (255 : Int32)))]))
      by_cases hc22 : (p1 &&& (255 : Int32)) = (p3 &&& (255 : Int32))
      · refine own_fs (XS.icmpYes X0.here hx rfl (pc0 := 22) (pc' := 27) rfl (hb hby own_d10_22) rfl (XT.ii_eq_t hc22) (by decide) (by decide) (Steps.refl _)) ?_
        show own_G p.tables e below _ (s₁.setTop (mkF m 27 #[.val (.int p1), .val (.int p2), .val (.int p3), .val (.int p4)] []))
        refine own_fs (XS.iloadN X0.here hx rfl (hb hby own_d10_27) rfl (Steps.refl _)) ?_
        show own_G p.tables e below _ (s₁.setTop (mkF m 28 #[.val (.int p1), .val (.int p2), .val (.int p3), .val (.int p4)] [(.int p2)]))
        refine own_fs (XS.iconst X0.here hx rfl (hb hby own_d10_28) (Steps.refl _)) ?_
        show own_G p.tables e below _ (s₁.setTop (mkF m 29 #[.val (.int p1), .val (.int p2), .val (.int p3), .val (.int p4)] [(.int (2 : Int32)), (.int p2)]))
        by_cases hc29 : p2 < (2 : Int32)
        · refine own_fs (XS.icmpYes X0.here hx rfl (pc0 := 29) (pc' := 53) rfl (hb hby own_d10_29) rfl (XT.ii_lt_t hc29) (by decide) (by decide) (Steps.refl _)) ?_
          show own_G p.tables e below _ (s₁.setTop (mkF m 53 #[.val (.int p1), .val (.int p2), .val (.int p3), .val (.int p4)] []))
          refine own_fs (XS.iloadN X0.here hx rfl (hb hby own_d10_53) rfl (Steps.refl _)) ?_
          show own_G p.tables e below _ (s₁.setTop (mkF m 54 #[.val (.int p1), .val (.int p2), .val (.int p3), .val (.int p4)] [(.int p2)]))
          refine own_fs (XS.iconst X0.here hx rfl (hb hby own_d10_54) (Steps.refl _)) ?_
          show own_G p.tables e below _ (s₁.setTop (mkF m 55 #[.val (.int p1), .val (.int p2), .val (.int p3), .val (.int p4)] [(.int (3 : Int32)), (.int p2)]))
          by_cases hc55 : p2 < (3 : Int32)
          · refine own_fs (XS.icmpYes X0.here hx rfl (pc0 := 55) (pc' := 79) rfl (hb hby own_d10_55) rfl (XT.ii_lt_t hc55) (by decide) (by decide) (Steps.refl _)) ?_
            show own_G p.tables e below _ (s₁.setTop (mkF m 79 #[.val (.int p1), .val (.int p2), .val (.int p3), .val (.int p4)] []))
            refine own_fs (XS.iconst X0.here hx rfl (hb hby own_d10_79) (Steps.refl _)) ?_
            show own_G p.tables e below _ (s₁.setTop (mkF m 80 #[.val (.int p1), .val (.int p2), .val (.int p3), .val (.int p4)] [(.int (1 : Int32))]))
            exact own_retN X0 hx (t := .boolean) Bd.returns hlk (by simp) (hb hby own_d10_80) (by decide) (by decide) e0 ⟨(by simp only [own_same, own_s2, own_s3, own_nar0, own_nar1, if_neg hc9, if_pos hc2, if_pos hc22, if_pos hc29, if_pos hc55]), N0, rfl⟩
          · refine own_fs (XS.icmpNo X0.here hx rfl (hb hby own_d10_55) rfl (XT.ii_lt_f hc55) (Steps.refl _)) ?_
            show own_G p.tables e below _ (s₁.setTop (mkF m 58 #[.val (.int p1), .val (.int p2), .val (.int p3), .val (.int p4)] []))
            refine own_fs (XS.iloadN X0.here hx rfl (hb hby own_d10_58) rfl (Steps.refl _)) ?_
            show own_G p.tables e below _ (s₁.setTop (mkF m 59 #[.val (.int p1), .val (.int p2), .val (.int p3), .val (.int p4)] [(.int p1)]))
            refine own_fs (XS.bipush X0.here hx rfl (hb hby own_d10_59) (Steps.refl _)) ?_
            show own_G p.tables e below _ (s₁.setTop (mkF m 61 #[.val (.int p1), .val (.int p2), .val (.int p3), .val (.int p4)] [(.int (16 : Int32)), (.int p1)]))
            refine own_fs (XS.iushr X0.here hx rfl (hb hby own_d10_61) rfl (Steps.refl _)) ?_
            show own_G p.tables e below _ (s₁.setTop (mkF m 62 #[.val (.int p1), .val (.int p2), .val (.int p3), .val (.int p4)] [(.int ((p1.toUInt32 >>> ((16 : Int32) &&& 31).toUInt32).toInt32))]))
            refine own_fs (XS.sipush X0.here hx rfl (hb hby own_d10_62) (Steps.refl _)) ?_
            show own_G p.tables e below _ (s₁.setTop (mkF m 65 #[.val (.int p1), .val (.int p2), .val (.int p3), .val (.int p4)] [(.int (255 : Int32)), (.int ((p1.toUInt32 >>> ((16 : Int32) &&& 31).toUInt32).toInt32))]))
            refine own_fs (XS.iand X0.here hx rfl (hb hby own_d10_65) rfl (Steps.refl _)) ?_
            show own_G p.tables e below _ (s₁.setTop (mkF m 66 #[.val (.int p1), .val (.int p2), .val (.int p3), .val (.int p4)] [(.int (((p1.toUInt32 >>> ((16 : Int32) &&& 31).toUInt32).toInt32) &&& (255 : Int32)))]))
            refine own_fs (XS.iloadN X0.here hx rfl (hb hby own_d10_66) rfl (Steps.refl _)) ?_
            show own_G p.tables e below _ (s₁.setTop (mkF m 67 #[.val (.int p1), .val (.int p2), .val (.int p3), .val (.int p4)] [(.int p3), (.int (((p1.toUInt32 >>> ((16 : Int32) &&& 31).toUInt32).toInt32) &&& (255 : Int32)))]))
            refine own_fs (XS.bipush X0.here hx rfl (hb hby own_d10_67) (Steps.refl _)) ?_
            show own_G p.tables e below _ (s₁.setTop (mkF m 69 #[.val (.int p1), .val (.int p2), .val (.int p3), .val (.int p4)] [(.int (16 : Int32)), (.int p3), (.int (((p1.toUInt32 >>> ((16 : Int32) &&& 31).toUInt32).toInt32) &&& (255 : Int32)))]))
            refine own_fs (XS.iushr X0.here hx rfl (hb hby own_d10_69) rfl (Steps.refl _)) ?_
            show own_G p.tables e below _ (s₁.setTop (mkF m 70 #[.val (.int p1), .val (.int p2), .val (.int p3), .val (.int p4)] [(.int ((p3.toUInt32 >>> ((16 : Int32) &&& 31).toUInt32).toInt32)), (.int (((p1.toUInt32 >>> ((16 : Int32) &&& 31).toUInt32).toInt32) &&& (255 : Int32)))]))
            refine own_fs (XS.sipush X0.here hx rfl (hb hby own_d10_70) (Steps.refl _)) ?_
            show own_G p.tables e below _ (s₁.setTop (mkF m 73 #[.val (.int p1), .val (.int p2), .val (.int p3), .val (.int p4)] [(.int (255 : Int32)), (.int ((p3.toUInt32 >>> ((16 : Int32) &&& 31).toUInt32).toInt32)), (.int (((p1.toUInt32 >>> ((16 : Int32) &&& 31).toUInt32).toInt32) &&& (255 : Int32)))]))
            refine own_fs (XS.iand X0.here hx rfl (hb hby own_d10_73) rfl (Steps.refl _)) ?_
            show own_G p.tables e below _ (s₁.setTop (mkF m 74 #[.val (.int p1), .val (.int p2), .val (.int p3), .val (.int p4)] [(.int (((p3.toUInt32 >>> ((16 : Int32) &&& 31).toUInt32).toInt32) &&& (255 : Int32))), (.int (((p1.toUInt32 >>> ((16 : Int32) &&& 31).toUInt32).toInt32) &&& (255 : Int32)))]))
            by_cases hc74 : (((p1.toUInt32 >>> ((16 : Int32) &&& 31).toUInt32).toInt32) &&& (255 : Int32)) = (((p3.toUInt32 >>> ((16 : Int32) &&& 31).toUInt32).toInt32) &&& (255 : Int32))
            · refine own_fs (XS.icmpYes X0.here hx rfl (pc0 := 74) (pc' := 79) rfl (hb hby own_d10_74) rfl (XT.ii_eq_t hc74) (by decide) (by decide) (Steps.refl _)) ?_
              show own_G p.tables e below _ (s₁.setTop (mkF m 79 #[.val (.int p1), .val (.int p2), .val (.int p3), .val (.int p4)] []))
              refine own_fs (XS.iconst X0.here hx rfl (hb hby own_d10_79) (Steps.refl _)) ?_
              show own_G p.tables e below _ (s₁.setTop (mkF m 80 #[.val (.int p1), .val (.int p2), .val (.int p3), .val (.int p4)] [(.int (1 : Int32))]))
              exact own_retN X0 hx (t := .boolean) Bd.returns hlk (by simp) (hb hby own_d10_80) (by decide) (by decide) e0 ⟨(by simp only [own_same, own_s2, own_s3, own_nar0, own_nar1, if_neg hc55, if_neg hc9, if_pos hc2, if_pos hc22, if_pos hc29, if_pos hc74]), N0, rfl⟩
            · refine own_fs (XS.icmpNo X0.here hx rfl (hb hby own_d10_74) rfl (XT.ii_eq_f hc74) (Steps.refl _)) ?_
              show own_G p.tables e below _ (s₁.setTop (mkF m 77 #[.val (.int p1), .val (.int p2), .val (.int p3), .val (.int p4)] []))
              refine own_fs (XS.iconst X0.here hx rfl (hb hby own_d10_77) (Steps.refl _)) ?_
              show own_G p.tables e below _ (s₁.setTop (mkF m 78 #[.val (.int p1), .val (.int p2), .val (.int p3), .val (.int p4)] [(.int (0 : Int32))]))
              exact own_retN X0 hx (t := .boolean) Bd.returns hlk (by simp) (hb hby own_d10_78) (by decide) (by decide) e0 ⟨(by simp only [own_same, own_s2, own_s3, own_nar0, own_nar1, if_neg hc55, if_neg hc74, if_neg hc9, if_pos hc2, if_pos hc22, if_pos hc29]), N0, rfl⟩
        · refine own_fs (XS.icmpNo X0.here hx rfl (hb hby own_d10_29) rfl (XT.ii_lt_f hc29) (Steps.refl _)) ?_
          show own_G p.tables e below _ (s₁.setTop (mkF m 32 #[.val (.int p1), .val (.int p2), .val (.int p3), .val (.int p4)] []))
          refine own_fs (XS.iloadN X0.here hx rfl (hb hby own_d10_32) rfl (Steps.refl _)) ?_
          show own_G p.tables e below _ (s₁.setTop (mkF m 33 #[.val (.int p1), .val (.int p2), .val (.int p3), .val (.int p4)] [(.int p1)]))
          refine own_fs (XS.bipush X0.here hx rfl (hb hby own_d10_33) (Steps.refl _)) ?_
          show own_G p.tables e below _ (s₁.setTop (mkF m 35 #[.val (.int p1), .val (.int p2), .val (.int p3), .val (.int p4)] [(.int (8 : Int32)), (.int p1)]))
          refine own_fs (XS.iushr X0.here hx rfl (hb hby own_d10_35) rfl (Steps.refl _)) ?_
          show own_G p.tables e below _ (s₁.setTop (mkF m 36 #[.val (.int p1), .val (.int p2), .val (.int p3), .val (.int p4)] [(.int ((p1.toUInt32 >>> ((8 : Int32) &&& 31).toUInt32).toInt32))]))
          refine own_fs (XS.sipush X0.here hx rfl (hb hby own_d10_36) (Steps.refl _)) ?_
          show own_G p.tables e below _ (s₁.setTop (mkF m 39 #[.val (.int p1), .val (.int p2), .val (.int p3), .val (.int p4)] [(.int (255 : Int32)), (.int ((p1.toUInt32 >>> ((8 : Int32) &&& 31).toUInt32).toInt32))]))
          refine own_fs (XS.iand X0.here hx rfl (hb hby own_d10_39) rfl (Steps.refl _)) ?_
          show own_G p.tables e below _ (s₁.setTop (mkF m 40 #[.val (.int p1), .val (.int p2), .val (.int p3), .val (.int p4)] [(.int (((p1.toUInt32 >>> ((8 : Int32) &&& 31).toUInt32).toInt32) &&& (255 : Int32)))]))
          refine own_fs (XS.iloadN X0.here hx rfl (hb hby own_d10_40) rfl (Steps.refl _)) ?_
          show own_G p.tables e below _ (s₁.setTop (mkF m 41 #[.val (.int p1), .val (.int p2), .val (.int p3), .val (.int p4)] [(.int p3), (.int (((p1.toUInt32 >>> ((8 : Int32) &&& 31).toUInt32).toInt32) &&& (255 : Int32)))]))
          refine own_fs (XS.bipush X0.here hx rfl (hb hby own_d10_41) (Steps.refl _)) ?_
          show own_G p.tables e below _ (s₁.setTop (mkF m 43 #[.val (.int p1), .val (.int p2), .val (.int p3), .val (.int p4)] [(.int (8 : Int32)), (.int p3), (.int (((p1.toUInt32 >>> ((8 : Int32) &&& 31).toUInt32).toInt32) &&& (255 : Int32)))]))
          refine own_fs (XS.iushr X0.here hx rfl (hb hby own_d10_43) rfl (Steps.refl _)) ?_
          show own_G p.tables e below _ (s₁.setTop (mkF m 44 #[.val (.int p1), .val (.int p2), .val (.int p3), .val (.int p4)] [(.int ((p3.toUInt32 >>> ((8 : Int32) &&& 31).toUInt32).toInt32)), (.int (((p1.toUInt32 >>> ((8 : Int32) &&& 31).toUInt32).toInt32) &&& (255 : Int32)))]))
          refine own_fs (XS.sipush X0.here hx rfl (hb hby own_d10_44) (Steps.refl _)) ?_
          show own_G p.tables e below _ (s₁.setTop (mkF m 47 #[.val (.int p1), .val (.int p2), .val (.int p3), .val (.int p4)] [(.int (255 : Int32)), (.int ((p3.toUInt32 >>> ((8 : Int32) &&& 31).toUInt32).toInt32)), (.int (((p1.toUInt32 >>> ((8 : Int32) &&& 31).toUInt32).toInt32) &&& (255 : Int32)))]))
          refine own_fs (XS.iand X0.here hx rfl (hb hby own_d10_47) rfl (Steps.refl _)) ?_
          show own_G p.tables e below _ (s₁.setTop (mkF m 48 #[.val (.int p1), .val (.int p2), .val (.int p3), .val (.int p4)] [(.int (((p3.toUInt32 >>> ((8 : Int32) &&& 31).toUInt32).toInt32) &&& (255 : Int32))), (.int (((p1.toUInt32 >>> ((8 : Int32) &&& 31).toUInt32).toInt32) &&& (255 : Int32)))]))
          by_cases hc48 : (((p1.toUInt32 >>> ((8 : Int32) &&& 31).toUInt32).toInt32) &&& (255 : Int32)) = (((p3.toUInt32 >>> ((8 : Int32) &&& 31).toUInt32).toInt32) &&& (255 : Int32))
          · refine own_fs (XS.icmpYes X0.here hx rfl (pc0 := 48) (pc' := 53) rfl (hb hby own_d10_48) rfl (XT.ii_eq_t hc48) (by decide) (by decide) (Steps.refl _)) ?_
            show own_G p.tables e below _ (s₁.setTop (mkF m 53 #[.val (.int p1), .val (.int p2), .val (.int p3), .val (.int p4)] []))
            refine own_fs (XS.iloadN X0.here hx rfl (hb hby own_d10_53) rfl (Steps.refl _)) ?_
            show own_G p.tables e below _ (s₁.setTop (mkF m 54 #[.val (.int p1), .val (.int p2), .val (.int p3), .val (.int p4)] [(.int p2)]))
            refine own_fs (XS.iconst X0.here hx rfl (hb hby own_d10_54) (Steps.refl _)) ?_
            show own_G p.tables e below _ (s₁.setTop (mkF m 55 #[.val (.int p1), .val (.int p2), .val (.int p3), .val (.int p4)] [(.int (3 : Int32)), (.int p2)]))
            by_cases hc55 : p2 < (3 : Int32)
            · refine own_fs (XS.icmpYes X0.here hx rfl (pc0 := 55) (pc' := 79) rfl (hb hby own_d10_55) rfl (XT.ii_lt_t hc55) (by decide) (by decide) (Steps.refl _)) ?_
              show own_G p.tables e below _ (s₁.setTop (mkF m 79 #[.val (.int p1), .val (.int p2), .val (.int p3), .val (.int p4)] []))
              refine own_fs (XS.iconst X0.here hx rfl (hb hby own_d10_79) (Steps.refl _)) ?_
              show own_G p.tables e below _ (s₁.setTop (mkF m 80 #[.val (.int p1), .val (.int p2), .val (.int p3), .val (.int p4)] [(.int (1 : Int32))]))
              exact own_retN X0 hx (t := .boolean) Bd.returns hlk (by simp) (hb hby own_d10_80) (by decide) (by decide) e0 ⟨(by simp only [own_same, own_s2, own_s3, own_nar0, own_nar1, if_neg hc29, if_neg hc9, if_pos hc2, if_pos hc22, if_pos hc48, if_pos hc55]), N0, rfl⟩
            · refine own_fs (XS.icmpNo X0.here hx rfl (hb hby own_d10_55) rfl (XT.ii_lt_f hc55) (Steps.refl _)) ?_
              show own_G p.tables e below _ (s₁.setTop (mkF m 58 #[.val (.int p1), .val (.int p2), .val (.int p3), .val (.int p4)] []))
              refine own_fs (XS.iloadN X0.here hx rfl (hb hby own_d10_58) rfl (Steps.refl _)) ?_
              show own_G p.tables e below _ (s₁.setTop (mkF m 59 #[.val (.int p1), .val (.int p2), .val (.int p3), .val (.int p4)] [(.int p1)]))
              refine own_fs (XS.bipush X0.here hx rfl (hb hby own_d10_59) (Steps.refl _)) ?_
              show own_G p.tables e below _ (s₁.setTop (mkF m 61 #[.val (.int p1), .val (.int p2), .val (.int p3), .val (.int p4)] [(.int (16 : Int32)), (.int p1)]))
              refine own_fs (XS.iushr X0.here hx rfl (hb hby own_d10_61) rfl (Steps.refl _)) ?_
              show own_G p.tables e below _ (s₁.setTop (mkF m 62 #[.val (.int p1), .val (.int p2), .val (.int p3), .val (.int p4)] [(.int ((p1.toUInt32 >>> ((16 : Int32) &&& 31).toUInt32).toInt32))]))
              refine own_fs (XS.sipush X0.here hx rfl (hb hby own_d10_62) (Steps.refl _)) ?_
              show own_G p.tables e below _ (s₁.setTop (mkF m 65 #[.val (.int p1), .val (.int p2), .val (.int p3), .val (.int p4)] [(.int (255 : Int32)), (.int ((p1.toUInt32 >>> ((16 : Int32) &&& 31).toUInt32).toInt32))]))
              refine own_fs (XS.iand X0.here hx rfl (hb hby own_d10_65) rfl (Steps.refl _)) ?_
              show own_G p.tables e below _ (s₁.setTop (mkF m 66 #[.val (.int p1), .val (.int p2), .val (.int p3), .val (.int p4)] [(.int (((p1.toUInt32 >>> ((16 : Int32) &&& 31).toUInt32).toInt32) &&& (255 : Int32)))]))
              refine own_fs (XS.iloadN X0.here hx rfl (hb hby own_d10_66) rfl (Steps.refl _)) ?_
              show own_G p.tables e below _ (s₁.setTop (mkF m 67 #[.val (.int p1), .val (.int p2), .val (.int p3), .val (.int p4)] [(.int p3), (.int (((p1.toUInt32 >>> ((16 : Int32) &&& 31).toUInt32).toInt32) &&& (255 : Int32)))]))
              refine own_fs (XS.bipush X0.here hx rfl (hb hby own_d10_67) (Steps.refl _)) ?_
              show own_G p.tables e below _ (s₁.setTop (mkF m 69 #[.val (.int p1), .val (.int p2), .val (.int p3), .val (.int p4)] [(.int (16 : Int32)), (.int p3), (.int (((p1.toUInt32 >>> ((16 : Int32) &&& 31).toUInt32).toInt32) &&& (255 : Int32)))]))
              refine own_fs (XS.iushr X0.here hx rfl (hb hby own_d10_69) rfl (Steps.refl _)) ?_
              show own_G p.tables e below _ (s₁.setTop (mkF m 70 #[.val (.int p1), .val (.int p2), .val (.int p3), .val (.int p4)] [(.int ((p3.toUInt32 >>> ((16 : Int32) &&& 31).toUInt32).toInt32)), (.int (((p1.toUInt32 >>> ((16 : Int32) &&& 31).toUInt32).toInt32) &&& (255 : Int32)))]))
              refine own_fs (XS.sipush X0.here hx rfl (hb hby own_d10_70) (Steps.refl _)) ?_
              show own_G p.tables e below _ (s₁.setTop (mkF m 73 #[.val (.int p1), .val (.int p2), .val (.int p3), .val (.int p4)] [(.int (255 : Int32)), (.int ((p3.toUInt32 >>> ((16 : Int32) &&& 31).toUInt32).toInt32)), (.int (((p1.toUInt32 >>> ((16 : Int32) &&& 31).toUInt32).toInt32) &&& (255 : Int32)))]))
              refine own_fs (XS.iand X0.here hx rfl (hb hby own_d10_73) rfl (Steps.refl _)) ?_
              show own_G p.tables e below _ (s₁.setTop (mkF m 74 #[.val (.int p1), .val (.int p2), .val (.int p3), .val (.int p4)] [(.int (((p3.toUInt32 >>> ((16 : Int32) &&& 31).toUInt32).toInt32) &&& (255 : Int32))), (.int (((p1.toUInt32 >>> ((16 : Int32) &&& 31).toUInt32).toInt32) &&& (255 : Int32)))]))
              by_cases hc74 : (((p1.toUInt32 >>> ((16 : Int32) &&& 31).toUInt32).toInt32) &&& (255 : Int32)) = (((p3.toUInt32 >>> ((16 : Int32) &&& 31).toUInt32).toInt32) &&& (255 : Int32))
              · refine own_fs (XS.icmpYes X0.here hx rfl (pc0 := 74) (pc' := 79) rfl (hb hby own_d10_74) rfl (XT.ii_eq_t hc74) (by decide) (by decide) (Steps.refl _)) ?_
                show own_G p.tables e below _ (s₁.setTop (mkF m 79 #[.val (.int p1), .val (.int p2), .val (.int p3), .val (.int p4)] []))
                refine own_fs (XS.iconst X0.here hx rfl (hb hby own_d10_79) (Steps.refl _)) ?_
                show own_G p.tables e below _ (s₁.setTop (mkF m 80 #[.val (.int p1), .val (.int p2), .val (.int p3), .val (.int p4)] [(.int (1 : Int32))]))
                exact own_retN X0 hx (t := .boolean) Bd.returns hlk (by simp) (hb hby own_d10_80) (by decide) (by decide) e0 ⟨(by simp only [own_same, own_s2, own_s3, own_nar0, own_nar1, if_neg hc29, if_neg hc55, if_neg hc9, if_pos hc2, if_pos hc22, if_pos hc48, if_pos hc74]), N0, rfl⟩
              · refine own_fs (XS.icmpNo X0.here hx rfl (hb hby own_d10_74) rfl (XT.ii_eq_f hc74) (Steps.refl _)) ?_
                show own_G p.tables e below _ (s₁.setTop (mkF m 77 #[.val (.int p1), .val (.int p2), .val (.int p3), .val (.int p4)] []))
                refine own_fs (XS.iconst X0.here hx rfl (hb hby own_d10_77) (Steps.refl _)) ?_
                show own_G p.tables e below _ (s₁.setTop (mkF m 78 #[.val (.int p1), .val (.int p2), .val (.int p3), .val (.int p4)] [(.int (0 : Int32))]))
                exact own_retN X0 hx (t := .boolean) Bd.returns hlk (by simp) (hb hby own_d10_78) (by decide) (by decide) e0 ⟨(by simp only [own_same, own_s2, own_s3, own_nar0, own_nar1, if_neg hc29, if_neg hc55, if_neg hc74, if_neg hc9, if_pos hc2, if_pos hc22, if_pos hc48]), N0, rfl⟩
          · refine own_fs (XS.icmpNo X0.here hx rfl (hb hby own_d10_48) rfl (XT.ii_eq_f hc48) (Steps.refl _)) ?_
            show own_G p.tables e below _ (s₁.setTop (mkF m 51 #[.val (.int p1), .val (.int p2), .val (.int p3), .val (.int p4)] []))
            refine own_fs (XS.iconst X0.here hx rfl (hb hby own_d10_51) (Steps.refl _)) ?_
            show own_G p.tables e below _ (s₁.setTop (mkF m 52 #[.val (.int p1), .val (.int p2), .val (.int p3), .val (.int p4)] [(.int (0 : Int32))]))
            exact own_retN X0 hx (t := .boolean) Bd.returns hlk (by simp) (hb hby own_d10_52) (by decide) (by decide) e0 ⟨(by simp only [own_same, own_s2, own_s3, own_nar0, own_nar1, if_neg hc29, if_neg hc48, if_neg hc9, if_pos hc2, if_pos hc22]), N0, rfl⟩
      · refine own_fs (XS.icmpNo X0.here hx rfl (hb hby own_d10_22) rfl (XT.ii_eq_f hc22) (Steps.refl _)) ?_
        show own_G p.tables e below _ (s₁.setTop (mkF m 25 #[.val (.int p1), .val (.int p2), .val (.int p3), .val (.int p4)] []))
        refine own_fs (XS.iconst X0.here hx rfl (hb hby own_d10_25) (Steps.refl _)) ?_
        show own_G p.tables e below _ (s₁.setTop (mkF m 26 #[.val (.int p1), .val (.int p2), .val (.int p3), .val (.int p4)] [(.int (0 : Int32))]))
        exact own_retN X0 hx (t := .boolean) Bd.returns hlk (by simp) (hb hby own_d10_26) (by decide) (by decide) e0 ⟨(by simp only [own_same, own_s2, own_s3, own_nar0, own_nar1, if_neg hc22, if_neg hc9, if_pos hc2]), N0, rfl⟩
  · refine own_fs (XS.icmpNo X0.here hx rfl (hb hby own_d10_2) rfl (XT.ii_eq_f hc2) (Steps.refl _)) ?_
    show own_G p.tables e below _ (s₁.setTop (mkF m 5 #[.val (.int p1), .val (.int p2), .val (.int p3), .val (.int p4)] []))
    refine own_fs (XS.iconst X0.here hx rfl (hb hby own_d10_5) (Steps.refl _)) ?_
    show own_G p.tables e below _ (s₁.setTop (mkF m 6 #[.val (.int p1), .val (.int p2), .val (.int p3), .val (.int p4)] [(.int (0 : Int32))]))
    exact own_retN X0 hx (t := .boolean) Bd.returns hlk (by simp) (hb hby own_d10_6) (by decide) (by decide) e0 ⟨(by simp only [own_same, own_s2, own_s3, own_nar0, own_nar1, if_neg hc2]), N0, rfl⟩
theorem own_i_CN_ef (m : MethodId) (x0 : Addr) (x1 : Addr) (x2 : Int32) : entryFrame m #[(.ref x0), (.ref x1), (.int x2)] 3 = mkF m 0 #[.val (.ref x0), .val (.ref x1), .val (.int x2)] [] := by first | (simp [entryFrame, mkF, argsToLocals, Value.category]; done) | rfl
def own_i_CN_Q (Z : State) (a1 : Addr) (s1 : Addr) (p2 : Int32) (u1 : Value) (u2 : Int32) (h0 : Heap) (n0 : Nat) (v : Option Value) (h : Heap) (L : List Loc) : Prop := (v = none ∧ Fr n0 L ∧ Keep h0 h [a1] ∧ (Fld Z h a1 "com/example/diligent_tableau/diligenttableau/logic/ConceptName" "name" "Ljava/lang/String;" (.ref s1)) ∧ (Fld Z h a1 "com/example/diligent_tableau/diligenttableau/logic/ConceptName" "fresh" "Z" (.int (nar .boolean p2))))
set_option maxRecDepth 65536 in
set_option maxHeartbeats 40000000 in
theorem own_i_CN (l : Launch) (Z : State) (a0 : Array Value) (hw : ∀ d ∈ tables_1, d.before a0 Z = true) (ws : List Jvm.Cond) (a1 : Addr) (s1 : Addr) (p2 : Int32) (u1 : Value) (u2 : Int32) (h0 : Heap) (n0 : Nat) (Z0 : n0 ≤ h0.size) (hE_a1 : Exa Z h0 a1 "com/example/diligent_tableau/diligenttableau/logic/ConceptName") (hF_name_a1 : Fld Z h0 a1 "com/example/diligent_tableau/diligenttableau/logic/ConceptName" "name" "Ljava/lang/String;" u1) (hF_fresh_a1 : Fld Z h0 a1 "com/example/diligent_tableau/diligenttableau/logic/ConceptName" "fresh" "Z" (.int u2)) (ge_a1 : n0 ≤ a1) :
    MetFree l (⟨"com/example/diligent_tableau/diligenttableau/logic/ConceptName", "<init>", "(Ljava/lang/String;Z)V"⟩ : MethodName) (head1 (Jvm.Cond.code (⟨"com/example/diligent_tableau/diligenttableau/logic/ConceptName", "<init>", "(Ljava/lang/String;Z)V"⟩ : MethodName) prog_15_method_2_code 3 none :: ws) ({ frames := 2, cells := 0, slots := 0, locals := 24 } : Room)) (fun a U => a = #[(.ref a1), (.ref s1), (.int p2)] ∧ Z.Warmed39 U.vm ∧ U.heap = h0) (fun _ _ _ _ _ => True) (fun _ U o U' => ∃ v L, o = .returned v ∧ own_i_CN_Q Z a1 s1 p2 u1 u2 h0 n0 v U'.heap L ∧ FrameEnd U o U' L ({ frames := 2, cells := 0, slots := 0, locals := 24 } : Room).cells ({ frames := 2, cells := 0, slots := 0, locals := 24 } : Room).slots) := by
  refine MetFree.of_bodySF (plainFor_of_name own_pn3) hisR ?_
  intro p e s m args below meth c s₁ Bd hml0 hP hK
  obtain ⟨rfl, hZ, hh⟩ := hP
  have hx := Bd.exec
  have hby := Bd.bytes
  have hlk : meth.locks = false := BodyLoose.notSynchronized Bd
  have hml : c.maxLocals = 3 := hml0
  have hown : s.vm.findClass "com/example/diligent_tableau/diligenttableau/logic/ConceptName" = some m.cls := findClass_of_methodNamed Bd.named
  have hnm := (name_of_methodNamed Bd.named Bd.method).1
  have X0 : Stand p l e ({ frames := 2, cells := 0, slots := 0, locals := 24 } : Room) s m #[(.ref a1), (.ref s1), (.int p2)] below meth c s₁ [] 0 0 := Stand.of_body Bd
  have e0 : s₁.heap = h0 := by rw [← hh, Bd.state]; rfl
  have N0 := Fr.nil n0
  refine own_start (QQ := own_i_CN_Q Z a1 s1 p2 u1 u2 h0 n0) (rc := ({ frames := 2, cells := 0, slots := 0, locals := 24 } : Room).cells) (rs := ({ frames := 2, cells := 0, slots := 0, locals := 24 } : Room).slots) (own_i_CN_ef m a1 s1 p2 ) ?_
  show own_G p.tables e below _ (s₁.setTop (mkF m 0 #[.val (.ref a1), .val (.ref s1), .val (.int p2)] []))
  refine own_fs (XS.aloadN X0.here hx rfl (hb hby own_d8_0) rfl rfl (Steps.refl _)) ?_
  show own_G p.tables e below _ (s₁.setTop (mkF m 1 #[.val (.ref a1), .val (.ref s1), .val (.int p2)] [(.ref a1)]))
  have Zs3 : n0 ≤ h0.size := Z0
  obtain ⟨_, _, ⟨T2, L2, k2, n2⟩, -, X2, ⟨Lc2, hQ2, l2, y2, z2⟩, st2⟩ := X0.specialBack hx (y := (⟨"java/lang/Record", "<init>", "()V"⟩ : MethodName)) rfl hown (mvT hZ (hw _ (List.mem_of_getElem? (i := 40) rfl))) (mvT hZ (hw _ (List.mem_of_getElem? (i := 41) rfl))) (mvT hZ (hw _ (List.mem_of_getElem? (i := 44) rfl))) (by decide) (backOf (W := 0) (own_i_Record l Z a0 hw [] a1 h0 n0 Zs3 ) hZ (hw _ (List.mem_of_getElem? (i := 44) rfl)) (hw _ (List.mem_of_getElem? (i := 43) rfl)) (by decide) (by decide)) (g := (mkF m 1 #[.val (.ref a1), .val (.ref s1), .val (.int p2)] [(.ref a1)])) rfl (by rw [hml]; rfl) (Steps.refl _) (a := a1) (argsL := []) (rest := []) (lenOf own_pd2 rfl) rfl (by show 2 * 0 + _ ≤ _; exact Nat.le_of_eq rfl) (hb hby own_d8_1) (fun _ _ => ⟨rfl, e0, (by decide : 0 + 0 ≤ _), (by decide : 0 + 0 ≤ _)⟩)
  dsimp only [Pt.U, Pt.locs, Pt.cells, Pt.slots] at X2 l2 y2 z2 st2 hQ2
  subst l2 y2 z2
  obtain ⟨rfl, Nq2, e2⟩ := hQ2
  have N2 := Fr.app N0 Nq2
  refine own_fs st2 ?_
  show own_G p.tables e below _ (T2.setTop (mkF m 4 #[.val (.ref a1), .val (.ref s1), .val (.int p2)] []))
  refine own_fs (XS.aloadN X2.here hx rfl (hb hby own_d8_4) rfl rfl (Steps.refl _)) ?_
  show own_G p.tables e below _ (T2.setTop (mkF m 5 #[.val (.ref a1), .val (.ref s1), .val (.int p2)] [(.ref a1)]))
  refine own_fs (XS.aloadN X2.here hx rfl (hb hby own_d8_5) rfl rfl (Steps.refl _)) ?_
  show own_G p.tables e below _ (T2.setTop (mkF m 6 #[.val (.ref a1), .val (.ref s1), .val (.int p2)] [(.ref s1), (.ref a1)]))
  obtain ⟨T4, h4, X4, e4, W4, st4⟩ := putF X2 hx hZ hown (host := "") (Or.inl (hw _ (List.mem_of_getElem? (i := 46) rfl))) Via.refl e2 hF_name_a1 hE_a1 (Or.inr ⟨(hw _ (List.mem_of_getElem? (i := 47) rfl)), rfl, hnm⟩) (hw _ (List.mem_of_getElem? (i := 1) rfl)) (ty := (.object "java/lang/String")) (by decide) rfl rfl (g := (mkF m 6 #[.val (.ref a1), .val (.ref s1), .val (.int p2)] [(.ref s1), (.ref a1)])) rfl rfl (hb hby own_d8_6)
  refine own_fs (st4 _ (Steps.refl _)) ?_
  have Fw4 := Fld.same W4 hF_name_a1
  have N4 := Fr.snoc X4 N2 ge_a1
  show own_G p.tables e below _ (T4.setTop (mkF m 9 #[.val (.ref a1), .val (.ref s1), .val (.int p2)] []))
  refine own_fs (XS.aloadN X4.here hx rfl (hb hby own_d8_9) rfl rfl (Steps.refl _)) ?_
  show own_G p.tables e below _ (T4.setTop (mkF m 10 #[.val (.ref a1), .val (.ref s1), .val (.int p2)] [(.ref a1)]))
  refine own_fs (XS.iloadN X4.here hx rfl (hb hby own_d8_10) rfl (Steps.refl _)) ?_
  show own_G p.tables e below _ (T4.setTop (mkF m 11 #[.val (.ref a1), .val (.ref s1), .val (.int p2)] [(.int p2), (.ref a1)]))
  obtain ⟨T5, h5, X5, e5, W5, st5⟩ := putFN X4 hx hZ hown (hw _ (List.mem_of_getElem? (i := 48) rfl)) Via.refl e4 (Fld.other W4 hF_fresh_a1 (Or.inr (slot_ne (Or.inr (hw _ (List.mem_of_getElem? (i := 49) rfl))) (Or.inr (hw _ (List.mem_of_getElem? (i := 47) rfl))) (by decide) (t := .boolean) (t' := (.object "java/lang/String")) (by decide) (by decide)))) (Exa.wr W4 hE_a1) (Or.inr ⟨(hw _ (List.mem_of_getElem? (i := 49) rfl)), rfl, hnm⟩) (hw _ (List.mem_of_getElem? (i := 1) rfl)) (ty := .boolean) (v' := .int (nar .boolean p2)) (by decide) rfl (fits_nar_bool _) (g := (mkF m 11 #[.val (.ref a1), .val (.ref s1), .val (.int p2)] [(.int p2), (.ref a1)])) rfl rfl (hb hby own_d8_11)
  refine own_fs (st5 _ (Steps.refl _)) ?_
  have Fw5 := Fld.same W5 (Fld.other W4 hF_fresh_a1 (Or.inr (slot_ne (Or.inr (hw _ (List.mem_of_getElem? (i := 49) rfl))) (Or.inr (hw _ (List.mem_of_getElem? (i := 47) rfl))) (by decide) (t := .boolean) (t' := (.object "java/lang/String")) (by decide) (by decide))))
  have N5 := Fr.snoc X5 N4 ge_a1
  show own_G p.tables e below _ (T5.setTop (mkF m 14 #[.val (.ref a1), .val (.ref s1), .val (.int p2)] []))
  exact own_retV X5 hx Bd.returns hlk (hb hby own_d8_14) (by decide) (by decide) e5 ⟨rfl, N5, (((Keep.refl _ _).wr W4 (Or.inl (List.mem_of_getElem? (i := 0) rfl))).wr W5 (Or.inl (List.mem_of_getElem? (i := 0) rfl))), (Fld.other W5 Fw4 (Or.inr (slot_ne (Or.inr (hw _ (List.mem_of_getElem? (i := 47) rfl))) (Or.inr (hw _ (List.mem_of_getElem? (i := 49) rfl))) (by decide) (t := (.object "java/lang/String")) (t' := .boolean) (by decide) (by decide)))), Fw5⟩
theorem own_i_NN_ef (m : MethodId) (x0 : Addr) (x1 : Addr) : entryFrame m #[(.ref x0), (.ref x1)] 2 = mkF m 0 #[.val (.ref x0), .val (.ref x1)] [] := by first | (simp [entryFrame, mkF, argsToLocals, Value.category]; done) | rfl
def own_i_NN_Q (Z : State) (a1 : Addr) (a2 : Addr) (u1 : Value) (h0 : Heap) (n0 : Nat) (v : Option Value) (h : Heap) (L : List Loc) : Prop := (v = none ∧ Fr n0 L ∧ Keep h0 h [a1])
set_option maxRecDepth 65536 in
set_option maxHeartbeats 40000000 in
theorem own_i_NN (l : Launch) (Z : State) (a0 : Array Value) (hw : ∀ d ∈ tables_1, d.before a0 Z = true) (ws : List Jvm.Cond) (a1 : Addr) (a2 : Addr) (u1 : Value) (h0 : Heap) (n0 : Nat) (Z0 : n0 ≤ h0.size) (hE_a1 : Exa Z h0 a1 "com/example/diligent_tableau/diligenttableau/logic/NegatedName") (hF_name_a1 : Fld Z h0 a1 "com/example/diligent_tableau/diligenttableau/logic/NegatedName" "name" "Lcom/example/diligent_tableau/diligenttableau/logic/ConceptName;" u1) (ge_a1 : n0 ≤ a1) :
    MetFree l (⟨"com/example/diligent_tableau/diligenttableau/logic/NegatedName", "<init>", "(Lcom/example/diligent_tableau/diligenttableau/logic/ConceptName;)V"⟩ : MethodName) (head1 (Jvm.Cond.code (⟨"com/example/diligent_tableau/diligenttableau/logic/NegatedName", "<init>", "(Lcom/example/diligent_tableau/diligenttableau/logic/ConceptName;)V"⟩ : MethodName) prog_28_method_1_code 2 none :: ws) ({ frames := 2, cells := 0, slots := 0, locals := 24 } : Room)) (fun a U => a = #[(.ref a1), (.ref a2)] ∧ Z.Warmed39 U.vm ∧ U.heap = h0) (fun _ _ _ _ _ => True) (fun _ U o U' => ∃ v L, o = .returned v ∧ own_i_NN_Q Z a1 a2 u1 h0 n0 v U'.heap L ∧ FrameEnd U o U' L ({ frames := 2, cells := 0, slots := 0, locals := 24 } : Room).cells ({ frames := 2, cells := 0, slots := 0, locals := 24 } : Room).slots) := by
  refine MetFree.of_bodySF (plainFor_of_name own_pn4) hisR ?_
  intro p e s m args below meth c s₁ Bd hml0 hP hK
  obtain ⟨rfl, hZ, hh⟩ := hP
  have hx := Bd.exec
  have hby := Bd.bytes
  have hlk : meth.locks = false := BodyLoose.notSynchronized Bd
  have hml : c.maxLocals = 2 := hml0
  have hown : s.vm.findClass "com/example/diligent_tableau/diligenttableau/logic/NegatedName" = some m.cls := findClass_of_methodNamed Bd.named
  have hnm := (name_of_methodNamed Bd.named Bd.method).1
  have X0 : Stand p l e ({ frames := 2, cells := 0, slots := 0, locals := 24 } : Room) s m #[(.ref a1), (.ref a2)] below meth c s₁ [] 0 0 := Stand.of_body Bd
  have e0 : s₁.heap = h0 := by rw [← hh, Bd.state]; rfl
  have N0 := Fr.nil n0
  refine own_start (QQ := own_i_NN_Q Z a1 a2 u1 h0 n0) (rc := ({ frames := 2, cells := 0, slots := 0, locals := 24 } : Room).cells) (rs := ({ frames := 2, cells := 0, slots := 0, locals := 24 } : Room).slots) (own_i_NN_ef m a1 a2 ) ?_
  show own_G p.tables e below _ (s₁.setTop (mkF m 0 #[.val (.ref a1), .val (.ref a2)] []))
  refine own_fs (XS.aloadN X0.here hx rfl (hb hby own_d14_0) rfl rfl (Steps.refl _)) ?_
  show own_G p.tables e below _ (s₁.setTop (mkF m 1 #[.val (.ref a1), .val (.ref a2)] [(.ref a1)]))
  have Zs3 : n0 ≤ h0.size := Z0
  obtain ⟨_, _, ⟨T2, L2, k2, n2⟩, -, X2, ⟨Lc2, hQ2, l2, y2, z2⟩, st2⟩ := X0.specialBack hx (y := (⟨"java/lang/Record", "<init>", "()V"⟩ : MethodName)) rfl hown (mvT hZ (hw _ (List.mem_of_getElem? (i := 79) rfl))) (mvT hZ (hw _ (List.mem_of_getElem? (i := 41) rfl))) (mvT hZ (hw _ (List.mem_of_getElem? (i := 44) rfl))) (by decide) (backOf (W := 0) (own_i_Record l Z a0 hw [] a1 h0 n0 Zs3 ) hZ (hw _ (List.mem_of_getElem? (i := 44) rfl)) (hw _ (List.mem_of_getElem? (i := 43) rfl)) (by decide) (by decide)) (g := (mkF m 1 #[.val (.ref a1), .val (.ref a2)] [(.ref a1)])) rfl (by rw [hml]; rfl) (Steps.refl _) (a := a1) (argsL := []) (rest := []) (lenOf own_pd2 rfl) rfl (by show 2 * 0 + _ ≤ _; exact Nat.le_of_eq rfl) (hb hby own_d14_1) (fun _ _ => ⟨rfl, e0, (by decide : 0 + 0 ≤ _), (by decide : 0 + 0 ≤ _)⟩)
  dsimp only [Pt.U, Pt.locs, Pt.cells, Pt.slots] at X2 l2 y2 z2 st2 hQ2
  subst l2 y2 z2
  obtain ⟨rfl, Nq2, e2⟩ := hQ2
  have N2 := Fr.app N0 Nq2
  refine own_fs st2 ?_
  show own_G p.tables e below _ (T2.setTop (mkF m 4 #[.val (.ref a1), .val (.ref a2)] []))
  refine own_fs (XS.aloadN X2.here hx rfl (hb hby own_d14_4) rfl rfl (Steps.refl _)) ?_
  show own_G p.tables e below _ (T2.setTop (mkF m 5 #[.val (.ref a1), .val (.ref a2)] [(.ref a1)]))
  refine own_fs (XS.aloadN X2.here hx rfl (hb hby own_d14_5) rfl rfl (Steps.refl _)) ?_
  show own_G p.tables e below _ (T2.setTop (mkF m 6 #[.val (.ref a1), .val (.ref a2)] [(.ref a2), (.ref a1)]))
  obtain ⟨T4, h4, X4, e4, W4, st4⟩ := putF X2 hx hZ hown (host := "") (Or.inl (hw _ (List.mem_of_getElem? (i := 80) rfl))) Via.refl e2 hF_name_a1 hE_a1 (Or.inr ⟨(hw _ (List.mem_of_getElem? (i := 81) rfl)), rfl, hnm⟩) (hw _ (List.mem_of_getElem? (i := 74) rfl)) (ty := (.object "com/example/diligent_tableau/diligenttableau/logic/ConceptName")) (by decide) rfl rfl (g := (mkF m 6 #[.val (.ref a1), .val (.ref a2)] [(.ref a2), (.ref a1)])) rfl rfl (hb hby own_d14_6)
  refine own_fs (st4 _ (Steps.refl _)) ?_
  have Fw4 := Fld.same W4 hF_name_a1
  have N4 := Fr.snoc X4 N2 ge_a1
  show own_G p.tables e below _ (T4.setTop (mkF m 9 #[.val (.ref a1), .val (.ref a2)] []))
  exact own_retV X4 hx Bd.returns hlk (hb hby own_d14_9) (by decide) (by decide) e4 ⟨rfl, N4, ((Keep.refl _ _).wr W4 (Or.inl (List.mem_of_getElem? (i := 0) rfl)))⟩
theorem own_eqnull_ef (m : MethodId) (x0 : Addr) : entryFrame m #[(.ref x0), .null] 3 = mkF m 0 #[.val (.ref x0), .val .null, .unset] [] := by first | (simp [entryFrame, mkF, argsToLocals, Value.category]; done) | rfl
def own_eqnull_Q (Z : State) (a1 : Addr) (h0 : Heap) (n0 : Nat) (v : Option Value) (h : Heap) (L : List Loc) : Prop := (v = some (.int (0 : Int32)) ∧ Fr n0 L ∧ h = h0)
set_option maxRecDepth 65536 in
set_option maxHeartbeats 40000000 in
theorem own_eqnull (l : Launch) (Z : State) (a0 : Array Value) (hw : ∀ d ∈ tables_1, d.before a0 Z = true) (ws : List Jvm.Cond) (a1 : Addr) (h0 : Heap) (n0 : Nat) (Z0 : n0 ≤ h0.size)  :
    MetFree l (⟨"com/example/diligent_tableau/diligenttableau/logic/ConceptName", "equals", "(Ljava/lang/Object;)Z"⟩ : MethodName) (head1 (Jvm.Cond.code (⟨"com/example/diligent_tableau/diligenttableau/logic/ConceptName", "equals", "(Ljava/lang/Object;)Z"⟩ : MethodName) prog_15_method_5_code 3 (some .boolean) :: ws) ({ frames := 0, cells := 0, slots := 0, locals := 0 } : Room)) (fun a U => a = #[(.ref a1), .null] ∧ Z.Warmed39 U.vm ∧ U.heap = h0) (fun _ _ _ _ _ => True) (fun _ U o U' => ∃ v L, o = .returned v ∧ own_eqnull_Q Z a1 h0 n0 v U'.heap L ∧ FrameEnd U o U' L ({ frames := 0, cells := 0, slots := 0, locals := 0 } : Room).cells ({ frames := 0, cells := 0, slots := 0, locals := 0 } : Room).slots) := by
  refine MetFree.of_bodySF (plainFor_of_name own_pn3) hisR ?_
  intro p e s m args below meth c s₁ Bd hml0 hP hK
  obtain ⟨rfl, hZ, hh⟩ := hP
  have hx := Bd.exec
  have hby := Bd.bytes
  have hlk : meth.locks = false := BodyLoose.notSynchronized Bd
  have hml : c.maxLocals = 3 := hml0
  have hown : s.vm.findClass "com/example/diligent_tableau/diligenttableau/logic/ConceptName" = some m.cls := findClass_of_methodNamed Bd.named
  have hnm := (name_of_methodNamed Bd.named Bd.method).1
  have X0 : Stand p l e ({ frames := 0, cells := 0, slots := 0, locals := 0 } : Room) s m #[(.ref a1), .null] below meth c s₁ [] 0 0 := Stand.of_body Bd
  have e0 : s₁.heap = h0 := by rw [← hh, Bd.state]; rfl
  have N0 := Fr.nil n0
  refine own_start (QQ := own_eqnull_Q Z a1 h0 n0) (rc := ({ frames := 0, cells := 0, slots := 0, locals := 0 } : Room).cells) (rs := ({ frames := 0, cells := 0, slots := 0, locals := 0 } : Room).slots) (own_eqnull_ef m a1 ) ?_
  show own_G p.tables e below _ (s₁.setTop (mkF m 0 #[.val (.ref a1), .val .null, .unset] []))
  refine own_fs (XS.aloadN X0.here hx rfl (hb hby own_d11_0) rfl rfl (Steps.refl _)) ?_
  show own_G p.tables e below _ (s₁.setTop (mkF m 1 #[.val (.ref a1), .val .null, .unset] [.null]))
  refine own_fs (X0.instanceofNull hx (g := (mkF m 1 #[.val (.ref a1), .val .null, .unset] [.null])) rfl rfl (hb hby own_d11_1) _ (Steps.refl _)) ?_
  show own_G p.tables e below _ (s₁.setTop (mkF m 4 #[.val (.ref a1), .val .null, .unset] [(.int (0 : Int32))]))
  refine own_fs (XS.ifYes X0.here hx rfl (pc0 := 4) (pc' := 41) rfl (hb hby own_d11_4) rfl (XT.i0_eq_t (by decide : (0 : Int32) = (0 : Int32))) (by decide) (by decide) (Steps.refl _)) ?_
  show own_G p.tables e below _ (s₁.setTop (mkF m 41 #[.val (.ref a1), .val .null, .unset] []))
  refine own_fs (XS.iconst X0.here hx rfl (hb hby own_d11_41) (Steps.refl _)) ?_
  show own_G p.tables e below _ (s₁.setTop (mkF m 42 #[.val (.ref a1), .val .null, .unset] [(.int (0 : Int32))]))
  exact own_retN X0 hx (t := .boolean) Bd.returns hlk (by simp) (hb hby own_d11_42) (by decide) (by decide) e0 ⟨rfl, N0, rfl⟩
theorem own_eqneg_ef (m : MethodId) (x0 : Addr) (x1 : Addr) : entryFrame m #[(.ref x0), (.ref x1)] 3 = mkF m 0 #[.val (.ref x0), .val (.ref x1), .unset] [] := by first | (simp [entryFrame, mkF, argsToLocals, Value.category]; done) | rfl
def own_eqneg_Q (Z : State) (a1 : Addr) (a2 : Addr) (h0 : Heap) (n0 : Nat) (v : Option Value) (h : Heap) (L : List Loc) : Prop := (v = some (.int (0 : Int32)) ∧ Fr n0 L ∧ h = h0)
set_option maxRecDepth 65536 in
set_option maxHeartbeats 40000000 in
theorem own_eqneg (l : Launch) (Z : State) (a0 : Array Value) (hw : ∀ d ∈ tables_1, d.before a0 Z = true) (ws : List Jvm.Cond) (a1 : Addr) (a2 : Addr) (h0 : Heap) (n0 : Nat) (Z0 : n0 ≤ h0.size) (hE_a2 : Exa Z h0 a2 "com/example/diligent_tableau/diligenttableau/logic/NegatedName") :
    MetFree l (⟨"com/example/diligent_tableau/diligenttableau/logic/ConceptName", "equals", "(Ljava/lang/Object;)Z"⟩ : MethodName) (head1 (Jvm.Cond.code (⟨"com/example/diligent_tableau/diligenttableau/logic/ConceptName", "equals", "(Ljava/lang/Object;)Z"⟩ : MethodName) prog_15_method_5_code 3 (some .boolean) :: ws) ({ frames := 0, cells := 0, slots := 0, locals := 0 } : Room)) (fun a U => a = #[(.ref a1), (.ref a2)] ∧ Z.Warmed39 U.vm ∧ U.heap = h0) (fun _ _ _ _ _ => True) (fun _ U o U' => ∃ v L, o = .returned v ∧ own_eqneg_Q Z a1 a2 h0 n0 v U'.heap L ∧ FrameEnd U o U' L ({ frames := 0, cells := 0, slots := 0, locals := 0 } : Room).cells ({ frames := 0, cells := 0, slots := 0, locals := 0 } : Room).slots) := by
  refine MetFree.of_bodySF (plainFor_of_name own_pn3) hisR ?_
  intro p e s m args below meth c s₁ Bd hml0 hP hK
  obtain ⟨rfl, hZ, hh⟩ := hP
  have hx := Bd.exec
  have hby := Bd.bytes
  have hlk : meth.locks = false := BodyLoose.notSynchronized Bd
  have hml : c.maxLocals = 3 := hml0
  have hown : s.vm.findClass "com/example/diligent_tableau/diligenttableau/logic/ConceptName" = some m.cls := findClass_of_methodNamed Bd.named
  have hnm := (name_of_methodNamed Bd.named Bd.method).1
  have X0 : Stand p l e ({ frames := 0, cells := 0, slots := 0, locals := 0 } : Room) s m #[(.ref a1), (.ref a2)] below meth c s₁ [] 0 0 := Stand.of_body Bd
  have e0 : s₁.heap = h0 := by rw [← hh, Bd.state]; rfl
  have N0 := Fr.nil n0
  refine own_start (QQ := own_eqneg_Q Z a1 a2 h0 n0) (rc := ({ frames := 0, cells := 0, slots := 0, locals := 0 } : Room).cells) (rs := ({ frames := 0, cells := 0, slots := 0, locals := 0 } : Room).slots) (own_eqneg_ef m a1 a2 ) ?_
  show own_G p.tables e below _ (s₁.setTop (mkF m 0 #[.val (.ref a1), .val (.ref a2), .unset] []))
  refine own_fs (XS.aloadN X0.here hx rfl (hb hby own_d11_0) rfl rfl (Steps.refl _)) ?_
  show own_G p.tables e below _ (s₁.setTop (mkF m 1 #[.val (.ref a1), .val (.ref a2), .unset] [(.ref a2)]))
  obtain ⟨T1, X1, e1, st1⟩ := instNo X0 hx hZ hown (hw _ (List.mem_of_getElem? (i := 61) rfl)) e0 hE_a2 (own_notsub (hw _ (List.mem_of_getElem? (i := 84) rfl)) (hw _ (List.mem_of_getElem? (i := 83) rfl)) (hw _ (List.mem_of_getElem? (i := 82) rfl)) (hw _ (List.mem_of_getElem? (i := 1) rfl)) (by decide) (by decide) (by decide)) (g := (mkF m 1 #[.val (.ref a1), .val (.ref a2), .unset] [(.ref a2)])) rfl rfl (hb hby own_d11_1)
  refine own_fs (st1 _ (Steps.refl _)) ?_
  show own_G p.tables e below _ (T1.setTop (mkF m 4 #[.val (.ref a1), .val (.ref a2), .unset] [(.int (0 : Int32))]))
  refine own_fs (XS.ifYes X1.here hx rfl (pc0 := 4) (pc' := 41) rfl (hb hby own_d11_4) rfl (XT.i0_eq_t (by decide : (0 : Int32) = (0 : Int32))) (by decide) (by decide) (Steps.refl _)) ?_
  show own_G p.tables e below _ (T1.setTop (mkF m 41 #[.val (.ref a1), .val (.ref a2), .unset] []))
  refine own_fs (XS.iconst X1.here hx rfl (hb hby own_d11_41) (Steps.refl _)) ?_
  show own_G p.tables e below _ (T1.setTop (mkF m 42 #[.val (.ref a1), .val (.ref a2), .unset] [(.int (0 : Int32))]))
  exact own_retN X1 hx (t := .boolean) Bd.returns hlk (by simp) (hb hby own_d11_42) (by decide) (by decide) e1 ⟨rfl, N0, rfl⟩
theorem own_eqcn_ef (m : MethodId) (x0 : Addr) (x1 : Addr) : entryFrame m #[(.ref x0), (.ref x1)] 3 = mkF m 0 #[.val (.ref x0), .val (.ref x1), .unset] [] := by first | (simp [entryFrame, mkF, argsToLocals, Value.category]; done) | rfl
def own_eqcn_Q (Z : State) (a1 : Addr) (a2 : Addr) (fa : Int32) (fb : Int32) (s1 : Addr) (s2 : Addr) (ta : Addr) (td : Addr) (kta : ClassId) (ktd : ClassId) (cs : List Int32) (ds : List Int32) (cz : Int32) (h0 : Heap) (n0 : Nat) (v : Option Value) (h : Heap) (L : List Loc) : Prop := (v = some (.int (own_eqc fa fb cs ds)) ∧ Fr n0 L ∧ h = h0)
set_option maxRecDepth 65536 in
set_option maxHeartbeats 40000000 in
theorem own_eqcn (l : Launch) (Z : State) (a0 : Array Value) (hw : ∀ d ∈ tables_1, d.before a0 Z = true) (ws : List Jvm.Cond) (a1 : Addr) (a2 : Addr) (fa : Int32) (fb : Int32) (s1 : Addr) (s2 : Addr) (ta : Addr) (td : Addr) (kta : ClassId) (ktd : ClassId) (cs : List Int32) (ds : List Int32) (cz : Int32) (h0 : Heap) (n0 : Nat) (Z0 : n0 ≤ h0.size) (hE_a2 : Exa Z h0 a2 "com/example/diligent_tableau/diligenttableau/logic/ConceptName") (hF_fresh_a1 : Fld Z h0 a1 "com/example/diligent_tableau/diligenttableau/logic/ConceptName" "fresh" "Z" (.int fa)) (hF_fresh_a2 : Fld Z h0 a2 "com/example/diligent_tableau/diligenttableau/logic/ConceptName" "fresh" "Z" (.int fb)) (hF_name_a1 : Fld Z h0 a1 "com/example/diligent_tableau/diligenttableau/logic/ConceptName" "name" "Ljava/lang/String;" (.ref s1)) (hF_name_a2 : Fld Z h0 a2 "com/example/diligent_tableau/diligenttableau/logic/ConceptName" "name" "Ljava/lang/String;" (.ref s2)) (hE_s1 : Exa Z h0 s1 "java/lang/String") (hF_value_s1 : Fld Z h0 s1 "java/lang/String" "value" "[B" (.ref ta)) (hF_coder_s1 : Fld Z h0 s1 "java/lang/String" "coder" "B" (.int (0 : Int32))) (hV_ta : Arv Z h0 ta kta .byte (Int32.ofNat cs.length) (cs.map fun c => Value.int (c.toInt8.toInt32)) (.int (0 : Int32))) (hr_cs : ∀ c ∈ cs, ¬ c < 0 ∧ ¬ (255 : Int32) < c) (hl_cs : cs.length ≤ 3) (hE_s2 : Exa Z h0 s2 "java/lang/String") (hF_value_s2 : Fld Z h0 s2 "java/lang/String" "value" "[B" (.ref td)) (hF_coder_s2 : Fld Z h0 s2 "java/lang/String" "coder" "B" (.int (0 : Int32))) (hV_td : Arv Z h0 td ktd .byte (Int32.ofNat ds.length) (ds.map fun c => Value.int (c.toInt8.toInt32)) (.int (0 : Int32))) (hr_ds : ∀ c ∈ ds, ¬ c < 0 ∧ ¬ (255 : Int32) < c) (hl_ds : ds.length ≤ 3) (hSc : Sta Z Z.heap "java/lang/String" "COMPACT_STRINGS" "Z" (.int cz)) (hcz : ¬ (cz = (0 : Int32))) (hOld : Old Z n0 h0) :
    MetFree l (⟨"com/example/diligent_tableau/diligenttableau/logic/ConceptName", "equals", "(Ljava/lang/Object;)Z"⟩ : MethodName) (head1 (Jvm.Cond.code (⟨"com/example/diligent_tableau/diligenttableau/logic/ConceptName", "equals", "(Ljava/lang/Object;)Z"⟩ : MethodName) prog_15_method_5_code 3 (some .boolean) :: ws) ({ frames := 2, cells := 0, slots := 0, locals := 28 } : Room)) (fun a U => a = #[(.ref a1), (.ref a2)] ∧ Z.Warmed39 U.vm ∧ U.heap = h0) (fun _ _ _ _ _ => True) (fun _ U o U' => ∃ v L, o = .returned v ∧ own_eqcn_Q Z a1 a2 fa fb s1 s2 ta td kta ktd cs ds cz h0 n0 v U'.heap L ∧ FrameEnd U o U' L ({ frames := 2, cells := 0, slots := 0, locals := 28 } : Room).cells ({ frames := 2, cells := 0, slots := 0, locals := 28 } : Room).slots) := by
  refine MetFree.of_bodySF (plainFor_of_name own_pn3) hisR ?_
  intro p e s m args below meth c s₁ Bd hml0 hP hK
  obtain ⟨rfl, hZ, hh⟩ := hP
  have hx := Bd.exec
  have hby := Bd.bytes
  have hlk : meth.locks = false := BodyLoose.notSynchronized Bd
  have hml : c.maxLocals = 3 := hml0
  have hown : s.vm.findClass "com/example/diligent_tableau/diligenttableau/logic/ConceptName" = some m.cls := findClass_of_methodNamed Bd.named
  have hnm := (name_of_methodNamed Bd.named Bd.method).1
  have X0 : Stand p l e ({ frames := 2, cells := 0, slots := 0, locals := 28 } : Room) s m #[(.ref a1), (.ref a2)] below meth c s₁ [] 0 0 := Stand.of_body Bd
  have e0 : s₁.heap = h0 := by rw [← hh, Bd.state]; rfl
  have N0 := Fr.nil n0
  refine own_start (QQ := own_eqcn_Q Z a1 a2 fa fb s1 s2 ta td kta ktd cs ds cz h0 n0) (rc := ({ frames := 2, cells := 0, slots := 0, locals := 28 } : Room).cells) (rs := ({ frames := 2, cells := 0, slots := 0, locals := 28 } : Room).slots) (own_eqcn_ef m a1 a2 ) ?_
  show own_G p.tables e below _ (s₁.setTop (mkF m 0 #[.val (.ref a1), .val (.ref a2), .unset] []))
  refine own_fs (XS.aloadN X0.here hx rfl (hb hby own_d11_0) rfl rfl (Steps.refl _)) ?_
  show own_G p.tables e below _ (s₁.setTop (mkF m 1 #[.val (.ref a1), .val (.ref a2), .unset] [(.ref a2)]))
  obtain ⟨T1, X1, e1, st1⟩ := instY X0 hx hZ hown (hw _ (List.mem_of_getElem? (i := 61) rfl)) e0 (Ins.self hE_a2) (g := (mkF m 1 #[.val (.ref a1), .val (.ref a2), .unset] [(.ref a2)])) rfl rfl (hb hby own_d11_1)
  refine own_fs (st1 _ (Steps.refl _)) ?_
  show own_G p.tables e below _ (T1.setTop (mkF m 4 #[.val (.ref a1), .val (.ref a2), .unset] [(.int (1 : Int32))]))
  refine own_fs (XS.ifNo X1.here hx rfl (hb hby own_d11_4) rfl (XT.i0_eq_f (by decide : ¬ ((1 : Int32) = (0 : Int32)))) (Steps.refl _)) ?_
  show own_G p.tables e below _ (T1.setTop (mkF m 7 #[.val (.ref a1), .val (.ref a2), .unset] []))
  refine own_fs (XS.aloadN X1.here hx rfl (hb hby own_d11_7) rfl rfl (Steps.refl _)) ?_
  show own_G p.tables e below _ (T1.setTop (mkF m 8 #[.val (.ref a1), .val (.ref a2), .unset] [(.ref a2)]))
  obtain ⟨T2, X2, e2, st2⟩ := castY X1 hx hZ hown (hw _ (List.mem_of_getElem? (i := 61) rfl)) e1 (Ins.self hE_a2) (g := (mkF m 8 #[.val (.ref a1), .val (.ref a2), .unset] [(.ref a2)])) rfl rfl (hb hby own_d11_8)
  refine own_fs (st2 _ (Steps.refl _)) ?_
  show own_G p.tables e below _ (T2.setTop (mkF m 11 #[.val (.ref a1), .val (.ref a2), .unset] [(.ref a2)]))
  refine own_fs (XS.astoreN X2.here hx rfl (hb hby own_d11_11) rfl rfl (l' := #[.val (.ref a1), .val (.ref a2), .val (.ref a2)]) rfl (Steps.refl _)) ?_
  show own_G p.tables e below _ (T2.setTop (mkF m 12 #[.val (.ref a1), .val (.ref a2), .val (.ref a2)] []))
  refine own_fs (XS.aloadN X2.here hx rfl (hb hby own_d11_12) rfl rfl (Steps.refl _)) ?_
  show own_G p.tables e below _ (T2.setTop (mkF m 13 #[.val (.ref a1), .val (.ref a2), .val (.ref a2)] [(.ref a1)]))
  obtain ⟨T3, X3, e3, st3⟩ := getF X2 hx hZ hown (host := "") (Or.inl (hw _ (List.mem_of_getElem? (i := 48) rfl))) Via.refl e2 hF_fresh_a1 (g := (mkF m 13 #[.val (.ref a1), .val (.ref a2), .val (.ref a2)] [(.ref a1)])) rfl rfl (hb hby own_d11_13)
  refine own_fs (st3 _ (Steps.refl _)) ?_
  show own_G p.tables e below _ (T3.setTop (mkF m 16 #[.val (.ref a1), .val (.ref a2), .val (.ref a2)] [(.int fa)]))
  refine own_fs (XS.aloadN X3.here hx rfl (hb hby own_d11_16) rfl rfl (Steps.refl _)) ?_
  show own_G p.tables e below _ (T3.setTop (mkF m 17 #[.val (.ref a1), .val (.ref a2), .val (.ref a2)] [(.ref a2), (.int fa)]))
  obtain ⟨T4, X4, e4, st4⟩ := getF X3 hx hZ hown (host := "") (Or.inl (hw _ (List.mem_of_getElem? (i := 48) rfl))) Via.refl e3 hF_fresh_a2 (g := (mkF m 17 #[.val (.ref a1), .val (.ref a2), .val (.ref a2)] [(.ref a2), (.int fa)])) rfl rfl (hb hby own_d11_17)
  refine own_fs (st4 _ (Steps.refl _)) ?_
  show own_G p.tables e below _ (T4.setTop (mkF m 20 #[.val (.ref a1), .val (.ref a2), .val (.ref a2)] [(.int fb), (.int fa)]))
  by_cases hc20 : fa = fb
  · refine own_fs (XS.icmpNo X4.here hx rfl (hb hby own_d11_20) rfl (XT.ii_ne_f hc20) (Steps.refl _)) ?_
    show own_G p.tables e below _ (T4.setTop (mkF m 23 #[.val (.ref a1), .val (.ref a2), .val (.ref a2)] []))
    refine own_fs (XS.aloadN X4.here hx rfl (hb hby own_d11_23) rfl rfl (Steps.refl _)) ?_
    show own_G p.tables e below _ (T4.setTop (mkF m 24 #[.val (.ref a1), .val (.ref a2), .val (.ref a2)] [(.ref a1)]))
    obtain ⟨T5, X5, e5, st5⟩ := getF X4 hx hZ hown (host := "") (Or.inl (hw _ (List.mem_of_getElem? (i := 46) rfl))) Via.refl e4 hF_name_a1 (g := (mkF m 24 #[.val (.ref a1), .val (.ref a2), .val (.ref a2)] [(.ref a1)])) rfl rfl (hb hby own_d11_24)
    refine own_fs (st5 _ (Steps.refl _)) ?_
    show own_G p.tables e below _ (T5.setTop (mkF m 27 #[.val (.ref a1), .val (.ref a2), .val (.ref a2)] [(.ref s1)]))
    refine own_fs (XS.aloadN X5.here hx rfl (hb hby own_d11_27) rfl rfl (Steps.refl _)) ?_
    show own_G p.tables e below _ (T5.setTop (mkF m 28 #[.val (.ref a1), .val (.ref a2), .val (.ref a2)] [(.ref a2), (.ref s1)]))
    obtain ⟨T6, X6, e6, st6⟩ := getF X5 hx hZ hown (host := "") (Or.inl (hw _ (List.mem_of_getElem? (i := 46) rfl))) Via.refl e5 hF_name_a2 (g := (mkF m 28 #[.val (.ref a1), .val (.ref a2), .val (.ref a2)] [(.ref a2), (.ref s1)])) rfl rfl (hb hby own_d11_28)
    refine own_fs (st6 _ (Steps.refl _)) ?_
    show own_G p.tables e below _ (T6.setTop (mkF m 31 #[.val (.ref a1), .val (.ref a2), .val (.ref a2)] [(.ref s2), (.ref s1)]))
    have hwq : ∀ d ∈ StrChars.Road.wordsEq, d.before a0 Z = true := fun d hd => hw d ((by decide +kernel : ∀ d ∈ StrChars.Road.wordsEq, d ∈ tables_1) d hd)
    have Zs8 : n0 ≤ h0.size := Z0
    obtain ⟨cq7, kq7, q7a, q7b, q7c⟩ := isOf hZ e6 hE_s1
    obtain ⟨_, _, ⟨T7, L7, k7, n7⟩, -, X7, ⟨Lc7, hQ7, l7, y7, z7⟩, st7⟩ := X6.virtualBack hx (y := (⟨"java/lang/String", "equals", "(Ljava/lang/Object;)Z"⟩ : MethodName)) (z := (⟨"java/lang/String", "equals", "(Ljava/lang/Object;)Z"⟩ : MethodName)) hown (mvT hZ (hw _ (List.mem_of_getElem? (i := 63) rfl))) (mvT hZ (hw _ (List.mem_of_getElem? (i := 64) rfl))) (notFace_of_selects (args := #[]) (mvT hZ (hw _ (List.mem_of_getElem? (i := 66) rfl)))) (mvT hZ (hw _ (List.mem_of_getElem? (i := 66) rfl))) (mvT hZ (hw _ (List.mem_of_getElem? (i := 65) rfl))) (by decide) (own_eqB (n0 := n0) (W := 0) hZ hwq (kI := 4) (hw _ (List.mem_of_getElem? (i := 8) rfl)) hE_s1 hF_value_s1 hF_coder_s1 hV_ta hr_cs hl_cs hE_s2 hF_value_s2 hF_coder_s2 hV_td hr_ds hl_ds (Sta.ext hOld.2 hSc) hcz (by decide) (by decide)) q7a q7c (g := (mkF m 31 #[.val (.ref a1), .val (.ref a2), .val (.ref a2)] [(.ref s2), (.ref s1)])) rfl (by rw [hml]; rfl) (Steps.refl _) (argsL := [(.ref s2)]) (rest := []) (lenOf own_pd3 rfl) rfl (by show 2 * 0 + _ ≤ _; exact Nat.le_of_eq rfl) (hb hby own_d11_31) (fun _ _ => ⟨rfl, e6, (by decide : 0 + 0 ≤ _), (by decide : 0 + 0 ≤ _)⟩)
    dsimp only [Pt.U, Pt.locs, Pt.cells, Pt.slots] at X7 l7 y7 z7 st7 hQ7
    subst l7 y7 z7
    obtain ⟨rfl, Nq7, e7⟩ := hQ7
    have N7 := Fr.app N0 Nq7
    refine own_fs st7 ?_
    show own_G p.tables e below _ (T7.setTop (mkF m 34 #[.val (.ref a1), .val (.ref a2), .val (.ref a2)] [(.int (own_eqv cs ds))]))
    by_cases hc34 : (own_eqv cs ds) = (0 : Int32)
    · refine own_fs (XS.ifYes X7.here hx rfl (pc0 := 34) (pc' := 41) rfl (hb hby own_d11_34) rfl (XT.i0_eq_t hc34) (by decide) (by decide) (Steps.refl _)) ?_
      show own_G p.tables e below _ (T7.setTop (mkF m 41 #[.val (.ref a1), .val (.ref a2), .val (.ref a2)] []))
      refine own_fs (XS.iconst X7.here hx rfl (hb hby own_d11_41) (Steps.refl _)) ?_
      show own_G p.tables e below _ (T7.setTop (mkF m 42 #[.val (.ref a1), .val (.ref a2), .val (.ref a2)] [(.int (0 : Int32))]))
      exact own_retN X7 hx (t := .boolean) Bd.returns hlk (by simp) (hb hby own_d11_42) (by decide) (by decide) e7 ⟨(by simp only [own_eqc, own_nar0, own_nar1, if_pos hc20, if_pos hc34]), N7, rfl⟩
    · refine own_fs (XS.ifNo X7.here hx rfl (hb hby own_d11_34) rfl (XT.i0_eq_f hc34) (Steps.refl _)) ?_
      show own_G p.tables e below _ (T7.setTop (mkF m 37 #[.val (.ref a1), .val (.ref a2), .val (.ref a2)] []))
      refine own_fs (XS.iconst X7.here hx rfl (hb hby own_d11_37) (Steps.refl _)) ?_
      show own_G p.tables e below _ (T7.setTop (mkF m 38 #[.val (.ref a1), .val (.ref a2), .val (.ref a2)] [(.int (1 : Int32))]))
      refine own_fs (XS.goto X7.here hx rfl (pc0 := 38) (pc' := 42) rfl (hb hby own_d11_38) (by decide) (by decide) (Steps.refl _)) ?_
      show own_G p.tables e below _ (T7.setTop (mkF m 42 #[.val (.ref a1), .val (.ref a2), .val (.ref a2)] [(.int (1 : Int32))]))
      exact own_retN X7 hx (t := .boolean) Bd.returns hlk (by simp) (hb hby own_d11_42) (by decide) (by decide) e7 ⟨(by simp only [own_eqc, own_nar0, own_nar1, if_neg hc34, if_pos hc20]), N7, rfl⟩
  · refine own_fs (XS.icmpYes X4.here hx rfl (pc0 := 20) (pc' := 41) rfl (hb hby own_d11_20) rfl (XT.ii_ne_t hc20) (by decide) (by decide) (Steps.refl _)) ?_
    show own_G p.tables e below _ (T4.setTop (mkF m 41 #[.val (.ref a1), .val (.ref a2), .val (.ref a2)] []))
    refine own_fs (XS.iconst X4.here hx rfl (hb hby own_d11_41) (Steps.refl _)) ?_
    show own_G p.tables e below _ (T4.setTop (mkF m 42 #[.val (.ref a1), .val (.ref a2), .val (.ref a2)] [(.int (0 : Int32))]))
    exact own_retN X4 hx (t := .boolean) Bd.returns hlk (by simp) (hb hby own_d11_42) (by decide) (by decide) e4 ⟨(by simp only [own_eqc, own_nar0, own_nar1, if_neg hc20]), N0, rfl⟩
theorem own_law_ef (m : MethodId) (x0 : Int32) (x1 : Int32) (x2 : Int32) : entryFrame m #[(.int x0), (.int x1), (.int x2)] maxLocals = mkF m 0 #[.val (.int x0), .val (.int x1), .val (.int x2), .unset, .unset, .unset, .unset, .unset, .unset, .unset, .unset] [] := by first | (simp [entryFrame, mkF, argsToLocals, Value.category, maxLocals]; done) | rfl
def own_law_Q (Z : State) (x0 : Int32) (x1 : Int32) (x2 : Int32) (cz : Int32) (h0 : Heap) (n0 : Nat) (v : Option Value) (h : Heap) (L : List Loc) : Prop := (v = some (.int (1 : Int32)) ∧ Fr n0 L)
set_option maxRecDepth 65536 in
set_option maxHeartbeats 40000000 in
theorem own_law (l : Launch) (Z : State) (a0 : Array Value) (hw : ∀ d ∈ tables_1, d.before a0 Z = true) (ws : List Jvm.Cond) (x0 : Int32) (x1 : Int32) (x2 : Int32) (cz : Int32) (h0 : Heap) (n0 : Nat) (Z0 : n0 ≤ h0.size) (hSc : Sta Z Z.heap "java/lang/String" "COMPACT_STRINGS" "Z" (.int cz)) (hcz : ¬ (cz = (0 : Int32))) (hOld : Old Z n0 h0) :
    MetFree l x (head1 (Jvm.Cond.code x code maxLocals ret :: ws) room_1) (fun a U => a = #[(.int x0), (.int x1), (.int x2)] ∧ Z.Warmed39 U.vm ∧ U.heap = h0 ∧ CHv Z own_EL U.vm h0) (fun _ _ _ _ _ => True) (fun _ U o U' => ∃ v L, o = .returned v ∧ own_law_Q Z x0 x1 x2 cz h0 n0 v U'.heap L ∧ CHr Z own_EL U.vm U.heap U'.vm U'.heap ∧ ReturnedEndW U o U' L room_1.cells room_1.slots) := by
  refine MetFree.of_bodySF (plainFor_of_name own_pn2) hisR ?_
  intro p e s m args below meth c s₁ Bd hml0 hP hK
  obtain ⟨rfl, hZ, hh, CH0⟩ := hP
  have hx := Bd.exec
  have hby := Bd.bytes
  have hlk : meth.locks = false := BodyLoose.notSynchronized Bd
  have hml : c.maxLocals = 11 := hml0
  have hown : s.vm.findClass "com/example/diligent_tableau/diligenttableau/logic/ConceptNameEqualsPinLaw" = some m.cls := findClass_of_methodNamed Bd.named
  have hnm := (name_of_methodNamed Bd.named Bd.method).1
  have X0 : Stand p l e room_1 (s.setVm s.vm) m #[(.int x0), (.int x1), (.int x2)] below meth c s₁ [] 0 0 := Stand.of_body Bd
  have e0 : s₁.heap = h0 := by rw [← hh, Bd.state]; rfl
  have N0 := Fr.nil n0
  have hEL : EW Z a0 own_EL := own_ew hw
  have hS0 : s.Since s.vm 0 := (State.WarmedH.refl s).since 0
  have hk0 : 0 ≤ h0.size := Nat.zero_le _
  have R0 := CHr.refl CH0
  refine own_startW (QQ := own_law_Q Z x0 x1 x2 cz h0 n0) (rc := room_1.cells) (rs := room_1.slots) hh (own_law_ef m x0 x1 x2 ) ?_
  show own_G p.tables e below _ (s₁.setTop (mkF m 0 #[.val (.int x0), .val (.int x1), .val (.int x2), .unset, .unset, .unset, .unset, .unset, .unset, .unset, .unset] []))
  refine own_fs (XS.iloadN X0.here hx rfl (hb hby at_0) rfl (Steps.refl _)) ?_
  show own_G p.tables e below _ (s₁.setTop (mkF m 1 #[.val (.int x0), .val (.int x1), .val (.int x2), .unset, .unset, .unset, .unset, .unset, .unset, .unset, .unset] [(.int x2)]))
  refine own_fs (XS.iconst X0.here hx rfl (hb hby at_1) (Steps.refl _)) ?_
  show own_G p.tables e below _ (s₁.setTop (mkF m 2 #[.val (.int x0), .val (.int x1), .val (.int x2), .unset, .unset, .unset, .unset, .unset, .unset, .unset, .unset] [(.int (3 : Int32)), (.int x2)]))
  refine own_fs (XS.iand X0.here hx rfl (hb hby at_2) rfl (Steps.refl _)) ?_
  show own_G p.tables e below _ (s₁.setTop (mkF m 3 #[.val (.int x0), .val (.int x1), .val (.int x2), .unset, .unset, .unset, .unset, .unset, .unset, .unset, .unset] [(.int (x2 &&& (3 : Int32)))]))
  refine own_fs (XS.istoreN X0.here hx rfl (hb hby at_3) rfl (l' := #[.val (.int x0), .val (.int x1), .val (.int x2), .val (.int (x2 &&& (3 : Int32))), .unset, .unset, .unset, .unset, .unset, .unset, .unset]) rfl (Steps.refl _)) ?_
  have hlx := own_r3 x2
  show own_G p.tables e below _ (s₁.setTop (mkF m 4 #[.val (.int x0), .val (.int x1), .val (.int x2), .val (.int (x2 &&& (3 : Int32))), .unset, .unset, .unset, .unset, .unset, .unset, .unset] []))
  generalize hg_lx : (x2 &&& (3 : Int32)) = lx at hlx ⊢
  show own_G p.tables e below _ (s₁.setTop (mkF m 4 #[.val (.int x0), .val (.int x1), .val (.int x2), .val (.int lx), .unset, .unset, .unset, .unset, .unset, .unset, .unset] []))
  refine own_fs (XS.iloadN X0.here hx rfl (hb hby at_4) rfl (Steps.refl _)) ?_
  show own_G p.tables e below _ (s₁.setTop (mkF m 5 #[.val (.int x0), .val (.int x1), .val (.int x2), .val (.int lx), .unset, .unset, .unset, .unset, .unset, .unset, .unset] [(.int x2)]))
  refine own_fs (XS.iconst X0.here hx rfl (hb hby at_5) (Steps.refl _)) ?_
  show own_G p.tables e below _ (s₁.setTop (mkF m 6 #[.val (.int x0), .val (.int x1), .val (.int x2), .val (.int lx), .unset, .unset, .unset, .unset, .unset, .unset, .unset] [(.int (2 : Int32)), (.int x2)]))
  refine own_fs (XS.iushr X0.here hx rfl (hb hby at_6) rfl (Steps.refl _)) ?_
  show own_G p.tables e below _ (s₁.setTop (mkF m 7 #[.val (.int x0), .val (.int x1), .val (.int x2), .val (.int lx), .unset, .unset, .unset, .unset, .unset, .unset, .unset] [(.int ((x2.toUInt32 >>> ((2 : Int32) &&& 31).toUInt32).toInt32))]))
  refine own_fs (XS.iconst X0.here hx rfl (hb hby at_7) (Steps.refl _)) ?_
  show own_G p.tables e below _ (s₁.setTop (mkF m 8 #[.val (.int x0), .val (.int x1), .val (.int x2), .val (.int lx), .unset, .unset, .unset, .unset, .unset, .unset, .unset] [(.int (3 : Int32)), (.int ((x2.toUInt32 >>> ((2 : Int32) &&& 31).toUInt32).toInt32))]))
  refine own_fs (XS.iand X0.here hx rfl (hb hby at_8) rfl (Steps.refl _)) ?_
  show own_G p.tables e below _ (s₁.setTop (mkF m 9 #[.val (.int x0), .val (.int x1), .val (.int x2), .val (.int lx), .unset, .unset, .unset, .unset, .unset, .unset, .unset] [(.int (((x2.toUInt32 >>> ((2 : Int32) &&& 31).toUInt32).toInt32) &&& (3 : Int32)))]))
  refine own_fs (XS.istore X0.here hx rfl (hb hby at_9) rfl (l' := #[.val (.int x0), .val (.int x1), .val (.int x2), .val (.int lx), .val (.int (((x2.toUInt32 >>> ((2 : Int32) &&& 31).toUInt32).toInt32) &&& (3 : Int32))), .unset, .unset, .unset, .unset, .unset, .unset]) rfl (Steps.refl _)) ?_
  have hly := own_r3 ((x2.toUInt32 >>> ((2 : Int32) &&& 31).toUInt32).toInt32)
  show own_G p.tables e below _ (s₁.setTop (mkF m 11 #[.val (.int x0), .val (.int x1), .val (.int x2), .val (.int lx), .val (.int (((x2.toUInt32 >>> ((2 : Int32) &&& 31).toUInt32).toInt32) &&& (3 : Int32))), .unset, .unset, .unset, .unset, .unset, .unset] []))
  generalize hg_ly : (((x2.toUInt32 >>> ((2 : Int32) &&& 31).toUInt32).toInt32) &&& (3 : Int32)) = ly at hly ⊢
  have J24 : ∀ (f1 : Int32) (hf1 : f1 = (0 : Int32) ∨ f1 = (1 : Int32)), own_G p.tables e below (own_PW Z own_EL s (own_law_Q Z x0 x1 x2 cz h0 n0) room_1.cells room_1.slots) (s₁.setTop (mkF m 24 #[.val (.int x0), .val (.int x1), .val (.int x2), .val (.int lx), .val (.int ly), .unset, .unset, .unset, .unset, .unset, .unset] [(.int f1)])) := by
    intro f1 hf1
    show own_G p.tables e below _ (s₁.setTop (mkF m 24 #[.val (.int x0), .val (.int x1), .val (.int x2), .val (.int lx), .val (.int ly), .unset, .unset, .unset, .unset, .unset, .unset] [(.int f1)]))
    refine own_fs (XS.istore X0.here hx rfl (hb hby at_24) rfl (l' := #[.val (.int x0), .val (.int x1), .val (.int x2), .val (.int lx), .val (.int ly), .val (.int f1), .unset, .unset, .unset, .unset, .unset]) rfl (Steps.refl _)) ?_
    have J39 : ∀ (f2 : Int32) (hf2 : f2 = (0 : Int32) ∨ f2 = (1 : Int32)), own_G p.tables e below (own_PW Z own_EL s (own_law_Q Z x0 x1 x2 cz h0 n0) room_1.cells room_1.slots) (s₁.setTop (mkF m 39 #[.val (.int x0), .val (.int x1), .val (.int x2), .val (.int lx), .val (.int ly), .val (.int f1), .unset, .unset, .unset, .unset, .unset] [(.int f2)])) := by
      intro f2 hf2
      show own_G p.tables e below _ (s₁.setTop (mkF m 39 #[.val (.int x0), .val (.int x1), .val (.int x2), .val (.int lx), .val (.int ly), .val (.int f1), .unset, .unset, .unset, .unset, .unset] [(.int f2)]))
      refine own_fs (XS.istore X0.here hx rfl (hb hby at_39) rfl (l' := #[.val (.int x0), .val (.int x1), .val (.int x2), .val (.int lx), .val (.int ly), .val (.int f1), .val (.int f2), .unset, .unset, .unset, .unset]) rfl (Steps.refl _)) ?_
      show own_G p.tables e below _ (s₁.setTop (mkF m 41 #[.val (.int x0), .val (.int x1), .val (.int x2), .val (.int lx), .val (.int ly), .val (.int f1), .val (.int f2), .unset, .unset, .unset, .unset] []))
      refine own_fs (XS.iloadN X0.here hx rfl (hb hby at_41) rfl (Steps.refl _)) ?_
      show own_G p.tables e below _ (s₁.setTop (mkF m 42 #[.val (.int x0), .val (.int x1), .val (.int x2), .val (.int lx), .val (.int ly), .val (.int f1), .val (.int f2), .unset, .unset, .unset, .unset] [(.int x2)]))
      refine own_fs (XS.bipush X0.here hx rfl (hb hby at_42) (Steps.refl _)) ?_
      show own_G p.tables e below _ (s₁.setTop (mkF m 44 #[.val (.int x0), .val (.int x1), .val (.int x2), .val (.int lx), .val (.int ly), .val (.int f1), .val (.int f2), .unset, .unset, .unset, .unset] [(.int (6 : Int32)), (.int x2)]))
      refine own_fs (XS.iushr X0.here hx rfl (hb hby at_44) rfl (Steps.refl _)) ?_
      show own_G p.tables e below _ (s₁.setTop (mkF m 45 #[.val (.int x0), .val (.int x1), .val (.int x2), .val (.int lx), .val (.int ly), .val (.int f1), .val (.int f2), .unset, .unset, .unset, .unset] [(.int ((x2.toUInt32 >>> ((6 : Int32) &&& 31).toUInt32).toInt32))]))
      refine own_fs (XS.iconst X0.here hx rfl (hb hby at_45) (Steps.refl _)) ?_
      show own_G p.tables e below _ (s₁.setTop (mkF m 46 #[.val (.int x0), .val (.int x1), .val (.int x2), .val (.int lx), .val (.int ly), .val (.int f1), .val (.int f2), .unset, .unset, .unset, .unset] [(.int (3 : Int32)), (.int ((x2.toUInt32 >>> ((6 : Int32) &&& 31).toUInt32).toInt32))]))
      refine own_fs (XS.iand X0.here hx rfl (hb hby at_46) rfl (Steps.refl _)) ?_
      show own_G p.tables e below _ (s₁.setTop (mkF m 47 #[.val (.int x0), .val (.int x1), .val (.int x2), .val (.int lx), .val (.int ly), .val (.int f1), .val (.int f2), .unset, .unset, .unset, .unset] [(.int (((x2.toUInt32 >>> ((6 : Int32) &&& 31).toUInt32).toInt32) &&& (3 : Int32)))]))
      refine own_fs (XS.istore X0.here hx rfl (hb hby at_47) rfl (l' := #[.val (.int x0), .val (.int x1), .val (.int x2), .val (.int lx), .val (.int ly), .val (.int f1), .val (.int f2), .val (.int (((x2.toUInt32 >>> ((6 : Int32) &&& 31).toUInt32).toInt32) &&& (3 : Int32))), .unset, .unset, .unset]) rfl (Steps.refl _)) ?_
      show own_G p.tables e below _ (s₁.setTop (mkF m 49 #[.val (.int x0), .val (.int x1), .val (.int x2), .val (.int lx), .val (.int ly), .val (.int f1), .val (.int f2), .val (.int (((x2.toUInt32 >>> ((6 : Int32) &&& 31).toUInt32).toInt32) &&& (3 : Int32))), .unset, .unset, .unset] []))
      generalize hg_md : (((x2.toUInt32 >>> ((6 : Int32) &&& 31).toUInt32).toInt32) &&& (3 : Int32)) = md
      show own_G p.tables e below _ (s₁.setTop (mkF m 49 #[.val (.int x0), .val (.int x1), .val (.int x2), .val (.int lx), .val (.int ly), .val (.int f1), .val (.int f2), .val (.int md), .unset, .unset, .unset] []))
      obtain ⟨T1, h1, X1, e1, E1, A1, D1, -, st1⟩ := newO X0 hx hZ hown (hw _ (List.mem_of_getElem? (i := 0) rfl)) (hw _ (List.mem_of_getElem? (i := 1) rfl)) (hw _ (List.mem_of_getElem? (i := 2) rfl)) e0 (g := (mkF m 49 #[.val (.int x0), .val (.int x1), .val (.int x2), .val (.int lx), .val (.int ly), .val (.int f1), .val (.int f2), .val (.int md), .unset, .unset, .unset] [])) rfl (hb hby at_49) (by decide) (by decide)
      obtain ⟨b1, g1⟩ : ∃ z, z = h0.size := ⟨_, rfl⟩
      rw [← g1] at A1 D1 st1
      have ge_b1 : n0 ≤ b1 := Nat.le_trans Z0 (Nat.le_of_eq g1.symm)
      have gz_b1 : h0.size ≤ b1 := Nat.le_trans (Nat.le_refl _) (Nat.le_of_eq g1.symm)
      have Sf_b1 : Safe Z own_EL s.vm h0 b1 := Safe.new (Nat.le_of_eq g1.symm)
      have CH2 := CHv.ext E1 CH0
      have RR2 := CHr.trans R0 (CHr.ext E1 CH0)
      have Sf2_b1 := Safe.ext E1 CH0 Sf_b1
      have F_name_b1 : Fld Z h1 b1 "com/example/diligent_tableau/diligenttableau/logic/ConceptName" "name" "Ljava/lang/String;" .null := D1 (Or.inr (hw _ (List.mem_of_getElem? (i := 47) rfl))) (ty := (.object "java/lang/String")) (by decide)
      have F_fresh_b1 : Fld Z h1 b1 "com/example/diligent_tableau/diligenttableau/logic/ConceptName" "fresh" "Z" (.int (0 : Int32)) := D1 (Or.inr (hw _ (List.mem_of_getElem? (i := 49) rfl))) (ty := .boolean) (by decide)
      refine own_fs (st1 _ (Steps.refl _)) ?_
      show own_G p.tables e below _ (T1.setTop (mkF m 52 #[.val (.int x0), .val (.int x1), .val (.int x2), .val (.int lx), .val (.int ly), .val (.int f1), .val (.int f2), .val (.int md), .unset, .unset, .unset] [(.ref b1)]))
      refine own_fs (XS.dup X1.here hx rfl (hb hby at_52) rfl rfl (Steps.refl _)) ?_
      show own_G p.tables e below _ (T1.setTop (mkF m 53 #[.val (.int x0), .val (.int x1), .val (.int x2), .val (.int lx), .val (.int ly), .val (.int f1), .val (.int f2), .val (.int md), .unset, .unset, .unset] [(.ref b1), (.ref b1)]))
      refine own_fs (XS.iloadN X1.here hx rfl (hb hby at_53) rfl (Steps.refl _)) ?_
      show own_G p.tables e below _ (T1.setTop (mkF m 54 #[.val (.int x0), .val (.int x1), .val (.int x2), .val (.int lx), .val (.int ly), .val (.int f1), .val (.int f2), .val (.int md), .unset, .unset, .unset] [(.int x0), (.ref b1), (.ref b1)]))
      refine own_fs (XS.iloadN X1.here hx rfl (hb hby at_54) rfl (Steps.refl _)) ?_
      show own_G p.tables e below _ (T1.setTop (mkF m 55 #[.val (.int x0), .val (.int x1), .val (.int x2), .val (.int lx), .val (.int ly), .val (.int f1), .val (.int f2), .val (.int md), .unset, .unset, .unset] [(.int lx), (.int x0), (.ref b1), (.ref b1)]))
      have Zs6 : n0 ≤ h1.size := (Nat.le_trans Z0 E1.1)
      obtain ⟨_, _, ⟨T5, L5, k5, n5⟩, -, X5', hS5', gr5, ⟨Lc5, hQ5, l5, y5, z5, hR5⟩, st5⟩ := callSS X1 hx (y := (⟨"com/example/diligent_tableau/diligenttableau/logic/ConceptNameEqualsPinLaw", "str", "(II)Ljava/lang/String;"⟩ : MethodName)) hown (mvT hZ (hw _ (List.mem_of_getElem? (i := 3) rfl))) (mvT hZ (hw _ (List.mem_of_getElem? (i := 4) rfl))) (mvT hZ (hw _ (List.mem_of_getElem? (i := 5) rfl))) (mvT hZ (hw _ (List.mem_of_getElem? (i := 6) rfl))) (by decide) (backOfSH (s := s) (vm0 := s.vm) (W := 2) (own_str l Z a0 hw [] x0 lx cz h1 n0 Zs6 hSc hcz (Old.ext hOld E1)) hZ (hw _ (List.mem_of_getElem? (i := 6) rfl)) (hw _ (List.mem_of_getElem? (i := 5) rfl)) (by decide) (by decide) hEL CH2) (g := (mkF m 55 #[.val (.int x0), .val (.int x1), .val (.int x2), .val (.int lx), .val (.int ly), .val (.int f1), .val (.int f2), .val (.int md), .unset, .unset, .unset] [(.int lx), (.int x0), (.ref b1), (.ref b1)])) rfl (by rw [hml]; rfl) (argsL := [(.int x0), (.int lx)]) (rest := [(.ref b1), (.ref b1)]) (lenOf own_pd4 rfl) rfl (by show 2 * 0 + _ ≤ _; exact Nat.le_of_eq rfl) (hb hby at_55) (fun _ _ => ⟨rfl, e1, (by decide : 1 + 6 ≤ _), (by decide : 2 + 12 ≤ _)⟩)
      dsimp only [Pt.U, Pt.locs, Pt.cells, Pt.slots] at X5' hS5' gr5 l5 y5 z5 st5 hQ5 hR5
      subst l5 y5 z5
      obtain ⟨X5, hS5, hZ, hown⟩ := rebS hS0 (by rw [e1]; exact (Nat.le_trans hk0 E1.1)) X5' hS5' gr5 hZ hown
      obtain ⟨h5, e5⟩ : ∃ h, T5.heap = h := ⟨_, rfl⟩
      rw [e5] at hQ5 hS5 hR5
      obtain ⟨ar3, tt3, kt3, rfl, Nq5, K5, P4_0, P4_1, P4_2, P4_3, P4_4⟩ := hQ5
      have Sf5_b1 := CHr.safe hR5 (Exa.lt A1) Sf2_b1
      have RR5 := CHr.trans RR2 hR5
      have CH5 := hR5.1
      have N5 := Fr.app N0 Nq5
      have ge_ar3 : n0 ≤ ar3 := Nat.le_trans (Nat.le_trans Z0 E1.1) P4_4
      have gz_ar3 : h0.size ≤ ar3 := Nat.le_trans (Nat.le_trans (Nat.le_refl _) E1.1) P4_4
      refine own_fs st5 ?_
      show own_G p.tables e below _ (T5.setTop (mkF m 58 #[.val (.int x0), .val (.int x1), .val (.int x2), .val (.int lx), .val (.int ly), .val (.int f1), .val (.int f2), .val (.int md), .unset, .unset, .unset] [(.ref ar3), (.ref b1), (.ref b1)]))
      refine own_fs (XS.iload X5.here hx rfl (hb hby at_58) rfl (Steps.refl _)) ?_
      show own_G p.tables e below _ (T5.setTop (mkF m 60 #[.val (.int x0), .val (.int x1), .val (.int x2), .val (.int lx), .val (.int ly), .val (.int f1), .val (.int f2), .val (.int md), .unset, .unset, .unset] [(.int f1), (.ref ar3), (.ref b1), (.ref b1)]))
      have Zs9 : n0 ≤ h5.size := (Nat.le_trans (Nat.le_trans Z0 E1.1) K5.1)
      obtain ⟨_, _, ⟨T8, L8, k8, n8⟩, -, X8, ⟨Lc8, hQ8, l8, y8, z8⟩, st8⟩ := X5.specialBack hx (y := (⟨"com/example/diligent_tableau/diligenttableau/logic/ConceptName", "<init>", "(Ljava/lang/String;Z)V"⟩ : MethodName)) rfl hown (mvT hZ (hw _ (List.mem_of_getElem? (i := 37) rfl))) (mvT hZ (hw _ (List.mem_of_getElem? (i := 38) rfl))) (mvT hZ (hw _ (List.mem_of_getElem? (i := 39) rfl))) (by decide) (backOf (W := 1) (own_i_CN l Z a0 hw [] b1 ar3 f1 (.null) (0 : Int32) h5 n0 Zs9 (A1.keep K5) (F_name_b1.keep K5 nin0) (F_fresh_b1.keep K5 nin0) ge_b1) hZ (hw _ (List.mem_of_getElem? (i := 39) rfl)) (hw _ (List.mem_of_getElem? (i := 2) rfl)) (by decide) (by decide)) (g := (mkF m 60 #[.val (.int x0), .val (.int x1), .val (.int x2), .val (.int lx), .val (.int ly), .val (.int f1), .val (.int f2), .val (.int md), .unset, .unset, .unset] [(.int f1), (.ref ar3), (.ref b1), (.ref b1)])) rfl (by rw [hml]; rfl) (Steps.refl _) (a := b1) (argsL := [(.ref ar3), (.int f1)]) (rest := [(.ref b1)]) (lenOf own_pd5 rfl) rfl (by show 2 * 0 + _ ≤ _; exact Nat.le_of_eq rfl) (hb hby at_60) (fun _ _ => ⟨rfl, e5, (by decide : 7 + 0 ≤ _), (by decide : 14 + 0 ≤ _)⟩)
      dsimp only [Pt.U, Pt.locs, Pt.cells, Pt.slots] at X8 l8 y8 z8 st8 hQ8
      subst l8 y8 z8
      obtain ⟨h8, e8⟩ : ∃ h, T8.heap = h := ⟨_, rfl⟩
      rw [e8] at hQ8
      obtain ⟨rfl, Nq8, K8, P7_0, P7_1⟩ := hQ8
      have CH10 := CHv.keep K8 (sfS (Safe.exa (vm := T5.vm) hZ.alike (A1.keep K5) (by decide) (by decide)) sf0) CH5
      have RR10 := CHr.trans RR5 (CHr.keep K8 (sfS (Safe.exa (vm := T5.vm) hZ.alike (A1.keep K5) (by decide) (by decide)) sf0) CH5)
      have Sf10_b1 := Safe.keep K8 (sfS (Safe.exa (vm := T5.vm) hZ.alike (A1.keep K5) (by decide) (by decide)) sf0) CH5 Sf5_b1
      have N8 := Fr.app N5 Nq8
      refine own_fs st8 ?_
      show own_G p.tables e below _ (T8.setTop (mkF m 63 #[.val (.int x0), .val (.int x1), .val (.int x2), .val (.int lx), .val (.int ly), .val (.int f1), .val (.int f2), .val (.int md), .unset, .unset, .unset] [(.ref b1)]))
      refine own_fs (XS.astore X8.here hx rfl (hb hby at_63) rfl rfl (l' := #[.val (.int x0), .val (.int x1), .val (.int x2), .val (.int lx), .val (.int ly), .val (.int f1), .val (.int f2), .val (.int md), .val (.ref b1), .unset, .unset]) rfl (Steps.refl _)) ?_
      show own_G p.tables e below _ (T8.setTop (mkF m 65 #[.val (.int x0), .val (.int x1), .val (.int x2), .val (.int lx), .val (.int ly), .val (.int f1), .val (.int f2), .val (.int md), .val (.ref b1), .unset, .unset] []))
      refine own_fs (XS.iload X8.here hx rfl (hb hby at_65) rfl (Steps.refl _)) ?_
      show own_G p.tables e below _ (T8.setTop (mkF m 67 #[.val (.int x0), .val (.int x1), .val (.int x2), .val (.int lx), .val (.int ly), .val (.int f1), .val (.int f2), .val (.int md), .val (.ref b1), .unset, .unset] [(.int md)]))
      by_cases hc67 : md = (0 : Int32)
      · refine own_fs (XS.ifNo X8.here hx rfl (hb hby at_67) rfl (XT.i0_ne_f hc67) (Steps.refl _)) ?_
        show own_G p.tables e below _ (T8.setTop (mkF m 70 #[.val (.int x0), .val (.int x1), .val (.int x2), .val (.int lx), .val (.int ly), .val (.int f1), .val (.int f2), .val (.int md), .val (.ref b1), .unset, .unset] []))
        obtain ⟨T11, h11, X11, e11, E11, A11, D11, -, st11⟩ := newO X8 hx hZ hown (hw _ (List.mem_of_getElem? (i := 0) rfl)) (hw _ (List.mem_of_getElem? (i := 1) rfl)) (hw _ (List.mem_of_getElem? (i := 2) rfl)) e8 (g := (mkF m 70 #[.val (.int x0), .val (.int x1), .val (.int x2), .val (.int lx), .val (.int ly), .val (.int f1), .val (.int f2), .val (.int md), .val (.ref b1), .unset, .unset] [])) rfl (hb hby at_70) (by decide) (by decide)
        obtain ⟨b11, g11⟩ : ∃ z, z = h8.size := ⟨_, rfl⟩
        rw [← g11] at A11 D11 st11
        have ge_b11 : n0 ≤ b11 := Nat.le_trans (Nat.le_trans (Nat.le_trans (Nat.le_trans Z0 E1.1) K5.1) K8.1) (Nat.le_of_eq g11.symm)
        have gz_b11 : h0.size ≤ b11 := Nat.le_trans (Nat.le_trans (Nat.le_trans (Nat.le_trans (Nat.le_refl _) E1.1) K5.1) K8.1) (Nat.le_of_eq g11.symm)
        have Sf_b11 : Safe Z own_EL T5.vm h8 b11 := Safe.new (Nat.le_of_eq g11.symm)
        have CH12 := CHv.ext E11 CH10
        have RR12 := CHr.trans RR10 (CHr.ext E11 CH10)
        have Sf12_b1 := Safe.ext E11 CH10 Sf10_b1
        have Sf12_b11 := Safe.ext E11 CH10 Sf_b11
        have F_name_b11 : Fld Z h11 b11 "com/example/diligent_tableau/diligenttableau/logic/ConceptName" "name" "Ljava/lang/String;" .null := D11 (Or.inr (hw _ (List.mem_of_getElem? (i := 47) rfl))) (ty := (.object "java/lang/String")) (by decide)
        have F_fresh_b11 : Fld Z h11 b11 "com/example/diligent_tableau/diligenttableau/logic/ConceptName" "fresh" "Z" (.int (0 : Int32)) := D11 (Or.inr (hw _ (List.mem_of_getElem? (i := 49) rfl))) (ty := .boolean) (by decide)
        refine own_fs (st11 _ (Steps.refl _)) ?_
        show own_G p.tables e below _ (T11.setTop (mkF m 73 #[.val (.int x0), .val (.int x1), .val (.int x2), .val (.int lx), .val (.int ly), .val (.int f1), .val (.int f2), .val (.int md), .val (.ref b1), .unset, .unset] [(.ref b11)]))
        refine own_fs (XS.dup X11.here hx rfl (hb hby at_73) rfl rfl (Steps.refl _)) ?_
        show own_G p.tables e below _ (T11.setTop (mkF m 74 #[.val (.int x0), .val (.int x1), .val (.int x2), .val (.int lx), .val (.int ly), .val (.int f1), .val (.int f2), .val (.int md), .val (.ref b1), .unset, .unset] [(.ref b11), (.ref b11)]))
        refine own_fs (XS.iloadN X11.here hx rfl (hb hby at_74) rfl (Steps.refl _)) ?_
        show own_G p.tables e below _ (T11.setTop (mkF m 75 #[.val (.int x0), .val (.int x1), .val (.int x2), .val (.int lx), .val (.int ly), .val (.int f1), .val (.int f2), .val (.int md), .val (.ref b1), .unset, .unset] [(.int x1), (.ref b11), (.ref b11)]))
        refine own_fs (XS.iload X11.here hx rfl (hb hby at_75) rfl (Steps.refl _)) ?_
        show own_G p.tables e below _ (T11.setTop (mkF m 77 #[.val (.int x0), .val (.int x1), .val (.int x2), .val (.int lx), .val (.int ly), .val (.int f1), .val (.int f2), .val (.int md), .val (.ref b1), .unset, .unset] [(.int ly), (.int x1), (.ref b11), (.ref b11)]))
        have Zs16 : n0 ≤ h11.size := (Nat.le_trans (Nat.le_trans (Nat.le_trans (Nat.le_trans Z0 E1.1) K5.1) K8.1) E11.1)
        obtain ⟨_, _, ⟨T15, L15, k15, n15⟩, -, X15', hS15', gr15, ⟨Lc15, hQ15, l15, y15, z15, hR15⟩, st15⟩ := callSS X11 hx (y := (⟨"com/example/diligent_tableau/diligenttableau/logic/ConceptNameEqualsPinLaw", "str", "(II)Ljava/lang/String;"⟩ : MethodName)) hown (mvT hZ (hw _ (List.mem_of_getElem? (i := 3) rfl))) (mvT hZ (hw _ (List.mem_of_getElem? (i := 4) rfl))) (mvT hZ (hw _ (List.mem_of_getElem? (i := 5) rfl))) (mvT hZ (hw _ (List.mem_of_getElem? (i := 6) rfl))) (by decide) (backOfSH (s := s) (vm0 := T5.vm) (W := 2) (own_str l Z a0 hw [] x1 ly cz h11 n0 Zs16 hSc hcz (Old.ext (Old.keep (Old.keep (Old.ext hOld E1) K5 all0) K8 (allS ge_b1 all0)) E11)) hZ (hw _ (List.mem_of_getElem? (i := 6) rfl)) (hw _ (List.mem_of_getElem? (i := 5) rfl)) (by decide) (by decide) hEL CH12) (g := (mkF m 77 #[.val (.int x0), .val (.int x1), .val (.int x2), .val (.int lx), .val (.int ly), .val (.int f1), .val (.int f2), .val (.int md), .val (.ref b1), .unset, .unset] [(.int ly), (.int x1), (.ref b11), (.ref b11)])) rfl (by rw [hml]; rfl) (argsL := [(.int x1), (.int ly)]) (rest := [(.ref b11), (.ref b11)]) (lenOf own_pd4 rfl) rfl (by show 2 * 0 + _ ≤ _; exact Nat.le_of_eq rfl) (hb hby at_77) (fun _ _ => ⟨rfl, e11, (by decide : 8 + 6 ≤ _), (by decide : 16 + 12 ≤ _)⟩)
        dsimp only [Pt.U, Pt.locs, Pt.cells, Pt.slots] at X15' hS15' gr15 l15 y15 z15 st15 hQ15 hR15
        subst l15 y15 z15
        obtain ⟨X15, hS15, hZ, hown⟩ := rebS hS5 (by rw [e11]; exact (Nat.le_trans (Nat.le_trans (Nat.le_refl _) K8.1) E11.1)) X15' hS15' gr15 hZ hown
        obtain ⟨h15, e15⟩ : ∃ h, T15.heap = h := ⟨_, rfl⟩
        rw [e15] at hQ15 hS15 hR15
        obtain ⟨ar13, tt13, kt13, rfl, Nq15, K15, P14_0, P14_1, P14_2, P14_3, P14_4⟩ := hQ15
        have Sf15_b1 := CHr.safe hR15 (Exa.lt (Exa.ext E11 ((A1.keep K5).keep K8))) Sf12_b1
        have Sf15_b11 := CHr.safe hR15 (Exa.lt A11) Sf12_b11
        have RR15 := CHr.trans RR12 hR15
        have CH15 := hR15.1
        have N15 := Fr.app N8 Nq15
        have ge_ar13 : n0 ≤ ar13 := Nat.le_trans (Nat.le_trans (Nat.le_trans (Nat.le_trans (Nat.le_trans Z0 E1.1) K5.1) K8.1) E11.1) P14_4
        have gz_ar13 : h0.size ≤ ar13 := Nat.le_trans (Nat.le_trans (Nat.le_trans (Nat.le_trans (Nat.le_trans (Nat.le_refl _) E1.1) K5.1) K8.1) E11.1) P14_4
        refine own_fs st15 ?_
        show own_G p.tables e below _ (T15.setTop (mkF m 80 #[.val (.int x0), .val (.int x1), .val (.int x2), .val (.int lx), .val (.int ly), .val (.int f1), .val (.int f2), .val (.int md), .val (.ref b1), .unset, .unset] [(.ref ar13), (.ref b11), (.ref b11)]))
        refine own_fs (XS.iload X15.here hx rfl (hb hby at_80) rfl (Steps.refl _)) ?_
        show own_G p.tables e below _ (T15.setTop (mkF m 82 #[.val (.int x0), .val (.int x1), .val (.int x2), .val (.int lx), .val (.int ly), .val (.int f1), .val (.int f2), .val (.int md), .val (.ref b1), .unset, .unset] [(.int f2), (.ref ar13), (.ref b11), (.ref b11)]))
        have Zs19 : n0 ≤ h15.size := (Nat.le_trans (Nat.le_trans (Nat.le_trans (Nat.le_trans (Nat.le_trans Z0 E1.1) K5.1) K8.1) E11.1) K15.1)
        obtain ⟨_, _, ⟨T18, L18, k18, n18⟩, -, X18, ⟨Lc18, hQ18, l18, y18, z18⟩, st18⟩ := X15.specialBack hx (y := (⟨"com/example/diligent_tableau/diligenttableau/logic/ConceptName", "<init>", "(Ljava/lang/String;Z)V"⟩ : MethodName)) rfl hown (mvT hZ (hw _ (List.mem_of_getElem? (i := 37) rfl))) (mvT hZ (hw _ (List.mem_of_getElem? (i := 38) rfl))) (mvT hZ (hw _ (List.mem_of_getElem? (i := 39) rfl))) (by decide) (backOf (W := 1) (own_i_CN l Z a0 hw [] b11 ar13 f2 (.null) (0 : Int32) h15 n0 Zs19 (A11.keep K15) (F_name_b11.keep K15 nin0) (F_fresh_b11.keep K15 nin0) ge_b11) hZ (hw _ (List.mem_of_getElem? (i := 39) rfl)) (hw _ (List.mem_of_getElem? (i := 2) rfl)) (by decide) (by decide)) (g := (mkF m 82 #[.val (.int x0), .val (.int x1), .val (.int x2), .val (.int lx), .val (.int ly), .val (.int f1), .val (.int f2), .val (.int md), .val (.ref b1), .unset, .unset] [(.int f2), (.ref ar13), (.ref b11), (.ref b11)])) rfl (by rw [hml]; rfl) (Steps.refl _) (a := b11) (argsL := [(.ref ar13), (.int f2)]) (rest := [(.ref b11)]) (lenOf own_pd5 rfl) rfl (by show 2 * 0 + _ ≤ _; exact Nat.le_of_eq rfl) (hb hby at_82) (fun _ _ => ⟨rfl, e15, (by decide : 14 + 0 ≤ _), (by decide : 28 + 0 ≤ _)⟩)
        dsimp only [Pt.U, Pt.locs, Pt.cells, Pt.slots] at X18 l18 y18 z18 st18 hQ18
        subst l18 y18 z18
        obtain ⟨h18, e18⟩ : ∃ h, T18.heap = h := ⟨_, rfl⟩
        rw [e18] at hQ18
        obtain ⟨rfl, Nq18, K18, P17_0, P17_1⟩ := hQ18
        have CH20 := CHv.keep K18 (sfS (Safe.exa (vm := T15.vm) hZ.alike (A11.keep K15) (by decide) (by decide)) sf0) CH15
        have RR20 := CHr.trans RR15 (CHr.keep K18 (sfS (Safe.exa (vm := T15.vm) hZ.alike (A11.keep K15) (by decide) (by decide)) sf0) CH15)
        have Sf20_b1 := Safe.keep K18 (sfS (Safe.exa (vm := T15.vm) hZ.alike (A11.keep K15) (by decide) (by decide)) sf0) CH15 Sf15_b1
        have Sf20_b11 := Safe.keep K18 (sfS (Safe.exa (vm := T15.vm) hZ.alike (A11.keep K15) (by decide) (by decide)) sf0) CH15 Sf15_b11
        have N18 := Fr.app N15 Nq18
        refine own_fs st18 ?_
        show own_G p.tables e below _ (T18.setTop (mkF m 85 #[.val (.int x0), .val (.int x1), .val (.int x2), .val (.int lx), .val (.int ly), .val (.int f1), .val (.int f2), .val (.int md), .val (.ref b1), .unset, .unset] [(.ref b11)]))
        refine own_fs (XS.astore X18.here hx rfl (hb hby at_85) rfl rfl (l' := #[.val (.int x0), .val (.int x1), .val (.int x2), .val (.int lx), .val (.int ly), .val (.int f1), .val (.int f2), .val (.int md), .val (.ref b1), .val (.ref b11), .unset]) rfl (Steps.refl _)) ?_
        show own_G p.tables e below _ (T18.setTop (mkF m 87 #[.val (.int x0), .val (.int x1), .val (.int x2), .val (.int lx), .val (.int ly), .val (.int f1), .val (.int f2), .val (.int md), .val (.ref b1), .val (.ref b11), .unset] []))
        refine own_fs (XS.iload X18.here hx rfl (hb hby at_87) rfl (Steps.refl _)) ?_
        show own_G p.tables e below _ (T18.setTop (mkF m 89 #[.val (.int x0), .val (.int x1), .val (.int x2), .val (.int lx), .val (.int ly), .val (.int f1), .val (.int f2), .val (.int md), .val (.ref b1), .val (.ref b11), .unset] [(.int f1)]))
        refine own_fs (XS.iload X18.here hx rfl (hb hby at_89) rfl (Steps.refl _)) ?_
        show own_G p.tables e below _ (T18.setTop (mkF m 91 #[.val (.int x0), .val (.int x1), .val (.int x2), .val (.int lx), .val (.int ly), .val (.int f1), .val (.int f2), .val (.int md), .val (.ref b1), .val (.ref b11), .unset] [(.int f2), (.int f1)]))
        by_cases hc91 : f1 = f2
        · refine own_fs (XS.icmpNo X18.here hx rfl (hb hby at_91) rfl (XT.ii_ne_f hc91) (Steps.refl _)) ?_
          show own_G p.tables e below _ (T18.setTop (mkF m 94 #[.val (.int x0), .val (.int x1), .val (.int x2), .val (.int lx), .val (.int ly), .val (.int f1), .val (.int f2), .val (.int md), .val (.ref b1), .val (.ref b11), .unset] []))
          refine own_fs (XS.iloadN X18.here hx rfl (hb hby at_94) rfl (Steps.refl _)) ?_
          show own_G p.tables e below _ (T18.setTop (mkF m 95 #[.val (.int x0), .val (.int x1), .val (.int x2), .val (.int lx), .val (.int ly), .val (.int f1), .val (.int f2), .val (.int md), .val (.ref b1), .val (.ref b11), .unset] [(.int x0)]))
          refine own_fs (XS.iloadN X18.here hx rfl (hb hby at_95) rfl (Steps.refl _)) ?_
          show own_G p.tables e below _ (T18.setTop (mkF m 96 #[.val (.int x0), .val (.int x1), .val (.int x2), .val (.int lx), .val (.int ly), .val (.int f1), .val (.int f2), .val (.int md), .val (.ref b1), .val (.ref b11), .unset] [(.int lx), (.int x0)]))
          refine own_fs (XS.iloadN X18.here hx rfl (hb hby at_96) rfl (Steps.refl _)) ?_
          show own_G p.tables e below _ (T18.setTop (mkF m 97 #[.val (.int x0), .val (.int x1), .val (.int x2), .val (.int lx), .val (.int ly), .val (.int f1), .val (.int f2), .val (.int md), .val (.ref b1), .val (.ref b11), .unset] [(.int x1), (.int lx), (.int x0)]))
          refine own_fs (XS.iload X18.here hx rfl (hb hby at_97) rfl (Steps.refl _)) ?_
          show own_G p.tables e below _ (T18.setTop (mkF m 99 #[.val (.int x0), .val (.int x1), .val (.int x2), .val (.int lx), .val (.int ly), .val (.int f1), .val (.int f2), .val (.int md), .val (.ref b1), .val (.ref b11), .unset] [(.int ly), (.int x1), (.int lx), (.int x0)]))
          have Zs23 : n0 ≤ h18.size := (Nat.le_trans (Nat.le_trans (Nat.le_trans (Nat.le_trans (Nat.le_trans (Nat.le_trans Z0 E1.1) K5.1) K8.1) E11.1) K15.1) K18.1)
          obtain ⟨_, _, ⟨T22, L22, k22, n22⟩, -, X22, ⟨Lc22, hQ22, l22, y22, z22⟩, st22⟩ := Jvm.LawKit.callS X18 hx (y := (⟨"com/example/diligent_tableau/diligenttableau/logic/ConceptNameEqualsPinLaw", "sameText", "(IIII)Z"⟩ : MethodName)) hown (mvT hZ (hw _ (List.mem_of_getElem? (i := 53) rfl))) (mvT hZ (hw _ (List.mem_of_getElem? (i := 54) rfl))) (mvT hZ (hw _ (List.mem_of_getElem? (i := 5) rfl))) (mvT hZ (hw _ (List.mem_of_getElem? (i := 55) rfl))) (by decide) (backOf (W := 0) (own_rsame l Z a0 hw [] x0 lx x1 ly h18 n0 Zs23 ) hZ (hw _ (List.mem_of_getElem? (i := 55) rfl)) (hw _ (List.mem_of_getElem? (i := 5) rfl)) (by decide) (by decide)) (g := (mkF m 99 #[.val (.int x0), .val (.int x1), .val (.int x2), .val (.int lx), .val (.int ly), .val (.int f1), .val (.int f2), .val (.int md), .val (.ref b1), .val (.ref b11), .unset] [(.int ly), (.int x1), (.int lx), (.int x0)])) rfl (by rw [hml]; rfl) (argsL := [(.int x0), (.int lx), (.int x1), (.int ly)]) (rest := []) (lenOf own_pd6 rfl) rfl (by show 2 * 0 + _ ≤ _; exact Nat.le_of_eq rfl) (hb hby at_99) (fun _ _ => ⟨rfl, e18, (by decide : 14 + 0 ≤ _), (by decide : 28 + 0 ≤ _)⟩)
          dsimp only [Pt.U, Pt.locs, Pt.cells, Pt.slots] at X22 l22 y22 z22 st22 hQ22
          subst l22 y22 z22
          obtain ⟨rfl, Nq22, e22⟩ := hQ22
          have N22 := Fr.app N18 Nq22
          refine own_fs (st22 _ (Steps.refl _)) ?_
          show own_G p.tables e below _ (T22.setTop (mkF m 102 #[.val (.int x0), .val (.int x1), .val (.int x2), .val (.int lx), .val (.int ly), .val (.int f1), .val (.int f2), .val (.int md), .val (.ref b1), .val (.ref b11), .unset] [(.int (own_same x0 lx x1 ly))]))
          by_cases hc102 : (own_same x0 lx x1 ly) = (0 : Int32)
          · refine own_fs (XS.ifYes X22.here hx rfl (pc0 := 102) (pc' := 109) rfl (hb hby at_102) rfl (XT.i0_eq_t hc102) (by decide) (by decide) (Steps.refl _)) ?_
            show own_G p.tables e below _ (T22.setTop (mkF m 109 #[.val (.int x0), .val (.int x1), .val (.int x2), .val (.int lx), .val (.int ly), .val (.int f1), .val (.int f2), .val (.int md), .val (.ref b1), .val (.ref b11), .unset] []))
            refine own_fs (XS.iconst X22.here hx rfl (hb hby at_109) (Steps.refl _)) ?_
            show own_G p.tables e below _ (T22.setTop (mkF m 110 #[.val (.int x0), .val (.int x1), .val (.int x2), .val (.int lx), .val (.int ly), .val (.int f1), .val (.int f2), .val (.int md), .val (.ref b1), .val (.ref b11), .unset] [(.int (0 : Int32))]))
            refine own_fs (XS.istore X22.here hx rfl (hb hby at_110) rfl (l' := #[.val (.int x0), .val (.int x1), .val (.int x2), .val (.int lx), .val (.int ly), .val (.int f1), .val (.int f2), .val (.int md), .val (.ref b1), .val (.ref b11), .val (.int (0 : Int32))]) rfl (Steps.refl _)) ?_
            show own_G p.tables e below _ (T22.setTop (mkF m 112 #[.val (.int x0), .val (.int x1), .val (.int x2), .val (.int lx), .val (.int ly), .val (.int f1), .val (.int f2), .val (.int md), .val (.ref b1), .val (.ref b11), .val (.int (0 : Int32))] []))
            refine own_fs (XS.goto X22.here hx rfl (pc0 := 112) (pc' := 195) rfl (hb hby at_112) (by decide) (by decide) (Steps.refl _)) ?_
            show own_G p.tables e below _ (T22.setTop (mkF m 195 #[.val (.int x0), .val (.int x1), .val (.int x2), .val (.int lx), .val (.int ly), .val (.int f1), .val (.int f2), .val (.int md), .val (.ref b1), .val (.ref b11), .val (.int (0 : Int32))] []))
            refine own_fs (XS.aload X22.here hx rfl (hb hby at_195) rfl rfl (Steps.refl _)) ?_
            show own_G p.tables e below _ (T22.setTop (mkF m 197 #[.val (.int x0), .val (.int x1), .val (.int x2), .val (.int lx), .val (.int ly), .val (.int f1), .val (.int f2), .val (.int md), .val (.ref b1), .val (.ref b11), .val (.int (0 : Int32))] [(.ref b1)]))
            refine own_fs (XS.aload X22.here hx rfl (hb hby at_197) rfl rfl (Steps.refl _)) ?_
            show own_G p.tables e below _ (T22.setTop (mkF m 199 #[.val (.int x0), .val (.int x1), .val (.int x2), .val (.int lx), .val (.int ly), .val (.int f1), .val (.int f2), .val (.int md), .val (.ref b1), .val (.ref b11), .val (.int (0 : Int32))] [(.ref b11), (.ref b1)]))
            have Zs26 : n0 ≤ h18.size := (Nat.le_trans (Nat.le_trans (Nat.le_trans (Nat.le_trans (Nat.le_trans (Nat.le_trans Z0 E1.1) K5.1) K8.1) E11.1) K15.1) K18.1)
            obtain ⟨cq25, kq25, q25a, q25b, q25c⟩ := isOf hZ e22 (((Exa.ext E11 ((A1.keep K5).keep K8)).keep K15).keep K18)
            obtain ⟨_, _, ⟨T25, L25, k25, n25⟩, -, X25, ⟨Lc25, hQ25, l25, y25, z25⟩, st25⟩ := X22.virtualBack hx (y := (⟨"com/example/diligent_tableau/diligenttableau/logic/ConceptName", "equals", "(Ljava/lang/Object;)Z"⟩ : MethodName)) (z := (⟨"com/example/diligent_tableau/diligenttableau/logic/ConceptName", "equals", "(Ljava/lang/Object;)Z"⟩ : MethodName)) hown (mvT hZ (hw _ (List.mem_of_getElem? (i := 56) rfl))) (mvT hZ (hw _ (List.mem_of_getElem? (i := 57) rfl))) (notFace_of_selects (args := #[]) (mvT hZ (hw _ (List.mem_of_getElem? (i := 59) rfl)))) (mvT hZ (hw _ (List.mem_of_getElem? (i := 59) rfl))) (mvT hZ (hw _ (List.mem_of_getElem? (i := 58) rfl))) (by decide) (backOf (W := 0) (own_eqcn l Z a0 hw [] b1 b11 (nar .boolean f1) (nar .boolean f2) ar3 ar13 tt3 tt13 kt3 kt13 (own_cs x0 lx) (own_cs x1 ly) cz h18 n0 Zs26 ((A11.keep K15).keep K18) (((Fld.ext E11 P7_1).keep K15 nin0).keep K18 (ninS (Nat.ne_of_lt (Nat.lt_of_lt_of_le (Exa.lt ((A1.keep K5).keep K8)) (Nat.le_of_eq g11.symm))) nin0)) P17_1 (((Fld.ext E11 P7_0).keep K15 nin0).keep K18 (ninS (Nat.ne_of_lt (Nat.lt_of_lt_of_le (Exa.lt ((A1.keep K5).keep K8)) (Nat.le_of_eq g11.symm))) nin0)) P17_0 (((Exa.ext E11 (P4_0.keep K8)).keep K15).keep K18) (((Fld.ext E11 (P4_1.keep K8 (ninS (Ne.symm (Nat.ne_of_lt (Nat.lt_of_lt_of_le (Exa.lt A1) P4_4))) nin0))).keep K15 nin0).keep K18 (ninS (Nat.ne_of_lt (Nat.lt_of_lt_of_le (Exa.lt (P4_0.keep K8)) (Nat.le_of_eq g11.symm))) nin0)) (((Fld.ext E11 (P4_2.keep K8 (ninS (Ne.symm (Nat.ne_of_lt (Nat.lt_of_lt_of_le (Exa.lt A1) P4_4))) nin0))).keep K15 nin0).keep K18 (ninS (Nat.ne_of_lt (Nat.lt_of_lt_of_le (Exa.lt (P4_0.keep K8)) (Nat.le_of_eq g11.symm))) nin0)) ((((P4_3.keep K8 (ninS (Ne.symm (Exa.neArv (A1.keep K5) P4_3 (hw _ (List.mem_of_getElem? (i := 1) rfl)))) nin0)).ext E11).keep K15 nin0).keep K18 (ninS (Nat.ne_of_lt (Nat.lt_of_lt_of_le (Arv.lt (P4_3.keep K8 (ninS (Ne.symm (Exa.neArv (A1.keep K5) P4_3 (hw _ (List.mem_of_getElem? (i := 1) rfl)))) nin0))) (Nat.le_of_eq g11.symm))) nin0)) (own_cs_rng x0 lx) (own_cs_len x0 lx) (P14_0.keep K18) (P14_1.keep K18 (ninS (Ne.symm (Nat.ne_of_lt (Nat.lt_of_lt_of_le (Exa.lt A11) P14_4))) nin0)) (P14_2.keep K18 (ninS (Ne.symm (Nat.ne_of_lt (Nat.lt_of_lt_of_le (Exa.lt A11) P14_4))) nin0)) (P14_3.keep K18 (ninS (Ne.symm (Exa.neArv (A11.keep K15) P14_3 (hw _ (List.mem_of_getElem? (i := 1) rfl)))) nin0)) (own_cs_rng x1 ly) (own_cs_len x1 ly) hSc hcz (Old.keep (Old.keep (Old.ext (Old.keep (Old.keep (Old.ext hOld E1) K5 all0) K8 (allS ge_b1 all0)) E11) K15 all0) K18 (allS ge_b11 all0))) hZ (hw _ (List.mem_of_getElem? (i := 60) rfl)) (hw _ (List.mem_of_getElem? (i := 2) rfl)) (by decide) (by decide)) q25a q25c (g := (mkF m 199 #[.val (.int x0), .val (.int x1), .val (.int x2), .val (.int lx), .val (.int ly), .val (.int f1), .val (.int f2), .val (.int md), .val (.ref b1), .val (.ref b11), .val (.int (0 : Int32))] [(.ref b11), (.ref b1)])) rfl (by rw [hml]; rfl) (Steps.refl _) (argsL := [(.ref b11)]) (rest := []) (lenOf own_pd3 rfl) rfl (by show 2 * 0 + _ ≤ _; exact Nat.le_of_eq rfl) (hb hby at_199) (fun _ _ => ⟨rfl, e22, (by decide : 14 + 0 ≤ _), (by decide : 28 + 0 ≤ _)⟩)
            dsimp only [Pt.U, Pt.locs, Pt.cells, Pt.slots] at X25 l25 y25 z25 st25 hQ25
            subst l25 y25 z25
            obtain ⟨rfl, Nq25, e25⟩ := hQ25
            have N25 := Fr.app N22 Nq25
            refine own_fs st25 ?_
            show own_G p.tables e below _ (T25.setTop (mkF m 202 #[.val (.int x0), .val (.int x1), .val (.int x2), .val (.int lx), .val (.int ly), .val (.int f1), .val (.int f2), .val (.int md), .val (.ref b1), .val (.ref b11), .val (.int (0 : Int32))] [(.int (own_eqc (nar .boolean f1) (nar .boolean f2) (own_cs x0 lx) (own_cs x1 ly)))]))
            refine own_fs (XS.iload X25.here hx rfl (hb hby at_202) rfl (Steps.refl _)) ?_
            show own_G p.tables e below _ (T25.setTop (mkF m 204 #[.val (.int x0), .val (.int x1), .val (.int x2), .val (.int lx), .val (.int ly), .val (.int f1), .val (.int f2), .val (.int md), .val (.ref b1), .val (.ref b11), .val (.int (0 : Int32))] [(.int (0 : Int32)), (.int (own_eqc (nar .boolean f1) (nar .boolean f2) (own_cs x0 lx) (own_cs x1 ly)))]))
            refine own_fs (XS.icmpNo X25.here hx rfl (hb hby at_204) rfl (XT.ii_ne_f (own_finB hlx hly hc91 hc102)) (Steps.refl _)) ?_
            show own_G p.tables e below _ (T25.setTop (mkF m 207 #[.val (.int x0), .val (.int x1), .val (.int x2), .val (.int lx), .val (.int ly), .val (.int f1), .val (.int f2), .val (.int md), .val (.ref b1), .val (.ref b11), .val (.int (0 : Int32))] []))
            refine own_fs (XS.iconst X25.here hx rfl (hb hby at_207) (Steps.refl _)) ?_
            show own_G p.tables e below _ (T25.setTop (mkF m 208 #[.val (.int x0), .val (.int x1), .val (.int x2), .val (.int lx), .val (.int ly), .val (.int f1), .val (.int f2), .val (.int md), .val (.ref b1), .val (.ref b11), .val (.int (0 : Int32))] [(.int (1 : Int32))]))
            refine own_fs (XS.goto X25.here hx rfl (pc0 := 208) (pc' := 212) rfl (hb hby at_208) (by decide) (by decide) (Steps.refl _)) ?_
            show own_G p.tables e below _ (T25.setTop (mkF m 212 #[.val (.int x0), .val (.int x1), .val (.int x2), .val (.int lx), .val (.int ly), .val (.int f1), .val (.int f2), .val (.int md), .val (.ref b1), .val (.ref b11), .val (.int (0 : Int32))] [(.int (1 : Int32))]))
            exact own_retNW X25 hx (t := .boolean) Bd.returns hlk (by simp) (hb hby at_212) (by decide) (by decide) e25 hS15 (Nat.le_trans (Nat.le_refl _) K18.1) (by rw [hh]; exact RR20.trans (CHv.at X25 hZ hEL CH20)) ⟨rfl, N25⟩
          · refine own_fs (XS.ifNo X22.here hx rfl (hb hby at_102) rfl (XT.i0_eq_f hc102) (Steps.refl _)) ?_
            show own_G p.tables e below _ (T22.setTop (mkF m 105 #[.val (.int x0), .val (.int x1), .val (.int x2), .val (.int lx), .val (.int ly), .val (.int f1), .val (.int f2), .val (.int md), .val (.ref b1), .val (.ref b11), .unset] []))
            refine own_fs (XS.iconst X22.here hx rfl (hb hby at_105) (Steps.refl _)) ?_
            show own_G p.tables e below _ (T22.setTop (mkF m 106 #[.val (.int x0), .val (.int x1), .val (.int x2), .val (.int lx), .val (.int ly), .val (.int f1), .val (.int f2), .val (.int md), .val (.ref b1), .val (.ref b11), .unset] [(.int (1 : Int32))]))
            refine own_fs (XS.goto X22.here hx rfl (pc0 := 106) (pc' := 110) rfl (hb hby at_106) (by decide) (by decide) (Steps.refl _)) ?_
            show own_G p.tables e below _ (T22.setTop (mkF m 110 #[.val (.int x0), .val (.int x1), .val (.int x2), .val (.int lx), .val (.int ly), .val (.int f1), .val (.int f2), .val (.int md), .val (.ref b1), .val (.ref b11), .unset] [(.int (1 : Int32))]))
            refine own_fs (XS.istore X22.here hx rfl (hb hby at_110) rfl (l' := #[.val (.int x0), .val (.int x1), .val (.int x2), .val (.int lx), .val (.int ly), .val (.int f1), .val (.int f2), .val (.int md), .val (.ref b1), .val (.ref b11), .val (.int (1 : Int32))]) rfl (Steps.refl _)) ?_
            show own_G p.tables e below _ (T22.setTop (mkF m 112 #[.val (.int x0), .val (.int x1), .val (.int x2), .val (.int lx), .val (.int ly), .val (.int f1), .val (.int f2), .val (.int md), .val (.ref b1), .val (.ref b11), .val (.int (1 : Int32))] []))
            refine own_fs (XS.goto X22.here hx rfl (pc0 := 112) (pc' := 195) rfl (hb hby at_112) (by decide) (by decide) (Steps.refl _)) ?_
            show own_G p.tables e below _ (T22.setTop (mkF m 195 #[.val (.int x0), .val (.int x1), .val (.int x2), .val (.int lx), .val (.int ly), .val (.int f1), .val (.int f2), .val (.int md), .val (.ref b1), .val (.ref b11), .val (.int (1 : Int32))] []))
            refine own_fs (XS.aload X22.here hx rfl (hb hby at_195) rfl rfl (Steps.refl _)) ?_
            show own_G p.tables e below _ (T22.setTop (mkF m 197 #[.val (.int x0), .val (.int x1), .val (.int x2), .val (.int lx), .val (.int ly), .val (.int f1), .val (.int f2), .val (.int md), .val (.ref b1), .val (.ref b11), .val (.int (1 : Int32))] [(.ref b1)]))
            refine own_fs (XS.aload X22.here hx rfl (hb hby at_197) rfl rfl (Steps.refl _)) ?_
            show own_G p.tables e below _ (T22.setTop (mkF m 199 #[.val (.int x0), .val (.int x1), .val (.int x2), .val (.int lx), .val (.int ly), .val (.int f1), .val (.int f2), .val (.int md), .val (.ref b1), .val (.ref b11), .val (.int (1 : Int32))] [(.ref b11), (.ref b1)]))
            have Zs29 : n0 ≤ h18.size := (Nat.le_trans (Nat.le_trans (Nat.le_trans (Nat.le_trans (Nat.le_trans (Nat.le_trans Z0 E1.1) K5.1) K8.1) E11.1) K15.1) K18.1)
            obtain ⟨cq28, kq28, q28a, q28b, q28c⟩ := isOf hZ e22 (((Exa.ext E11 ((A1.keep K5).keep K8)).keep K15).keep K18)
            obtain ⟨_, _, ⟨T28, L28, k28, n28⟩, -, X28, ⟨Lc28, hQ28, l28, y28, z28⟩, st28⟩ := X22.virtualBack hx (y := (⟨"com/example/diligent_tableau/diligenttableau/logic/ConceptName", "equals", "(Ljava/lang/Object;)Z"⟩ : MethodName)) (z := (⟨"com/example/diligent_tableau/diligenttableau/logic/ConceptName", "equals", "(Ljava/lang/Object;)Z"⟩ : MethodName)) hown (mvT hZ (hw _ (List.mem_of_getElem? (i := 56) rfl))) (mvT hZ (hw _ (List.mem_of_getElem? (i := 57) rfl))) (notFace_of_selects (args := #[]) (mvT hZ (hw _ (List.mem_of_getElem? (i := 59) rfl)))) (mvT hZ (hw _ (List.mem_of_getElem? (i := 59) rfl))) (mvT hZ (hw _ (List.mem_of_getElem? (i := 58) rfl))) (by decide) (backOf (W := 0) (own_eqcn l Z a0 hw [] b1 b11 (nar .boolean f1) (nar .boolean f2) ar3 ar13 tt3 tt13 kt3 kt13 (own_cs x0 lx) (own_cs x1 ly) cz h18 n0 Zs29 ((A11.keep K15).keep K18) (((Fld.ext E11 P7_1).keep K15 nin0).keep K18 (ninS (Nat.ne_of_lt (Nat.lt_of_lt_of_le (Exa.lt ((A1.keep K5).keep K8)) (Nat.le_of_eq g11.symm))) nin0)) P17_1 (((Fld.ext E11 P7_0).keep K15 nin0).keep K18 (ninS (Nat.ne_of_lt (Nat.lt_of_lt_of_le (Exa.lt ((A1.keep K5).keep K8)) (Nat.le_of_eq g11.symm))) nin0)) P17_0 (((Exa.ext E11 (P4_0.keep K8)).keep K15).keep K18) (((Fld.ext E11 (P4_1.keep K8 (ninS (Ne.symm (Nat.ne_of_lt (Nat.lt_of_lt_of_le (Exa.lt A1) P4_4))) nin0))).keep K15 nin0).keep K18 (ninS (Nat.ne_of_lt (Nat.lt_of_lt_of_le (Exa.lt (P4_0.keep K8)) (Nat.le_of_eq g11.symm))) nin0)) (((Fld.ext E11 (P4_2.keep K8 (ninS (Ne.symm (Nat.ne_of_lt (Nat.lt_of_lt_of_le (Exa.lt A1) P4_4))) nin0))).keep K15 nin0).keep K18 (ninS (Nat.ne_of_lt (Nat.lt_of_lt_of_le (Exa.lt (P4_0.keep K8)) (Nat.le_of_eq g11.symm))) nin0)) ((((P4_3.keep K8 (ninS (Ne.symm (Exa.neArv (A1.keep K5) P4_3 (hw _ (List.mem_of_getElem? (i := 1) rfl)))) nin0)).ext E11).keep K15 nin0).keep K18 (ninS (Nat.ne_of_lt (Nat.lt_of_lt_of_le (Arv.lt (P4_3.keep K8 (ninS (Ne.symm (Exa.neArv (A1.keep K5) P4_3 (hw _ (List.mem_of_getElem? (i := 1) rfl)))) nin0))) (Nat.le_of_eq g11.symm))) nin0)) (own_cs_rng x0 lx) (own_cs_len x0 lx) (P14_0.keep K18) (P14_1.keep K18 (ninS (Ne.symm (Nat.ne_of_lt (Nat.lt_of_lt_of_le (Exa.lt A11) P14_4))) nin0)) (P14_2.keep K18 (ninS (Ne.symm (Nat.ne_of_lt (Nat.lt_of_lt_of_le (Exa.lt A11) P14_4))) nin0)) (P14_3.keep K18 (ninS (Ne.symm (Exa.neArv (A11.keep K15) P14_3 (hw _ (List.mem_of_getElem? (i := 1) rfl)))) nin0)) (own_cs_rng x1 ly) (own_cs_len x1 ly) hSc hcz (Old.keep (Old.keep (Old.ext (Old.keep (Old.keep (Old.ext hOld E1) K5 all0) K8 (allS ge_b1 all0)) E11) K15 all0) K18 (allS ge_b11 all0))) hZ (hw _ (List.mem_of_getElem? (i := 60) rfl)) (hw _ (List.mem_of_getElem? (i := 2) rfl)) (by decide) (by decide)) q28a q28c (g := (mkF m 199 #[.val (.int x0), .val (.int x1), .val (.int x2), .val (.int lx), .val (.int ly), .val (.int f1), .val (.int f2), .val (.int md), .val (.ref b1), .val (.ref b11), .val (.int (1 : Int32))] [(.ref b11), (.ref b1)])) rfl (by rw [hml]; rfl) (Steps.refl _) (argsL := [(.ref b11)]) (rest := []) (lenOf own_pd3 rfl) rfl (by show 2 * 0 + _ ≤ _; exact Nat.le_of_eq rfl) (hb hby at_199) (fun _ _ => ⟨rfl, e22, (by decide : 14 + 0 ≤ _), (by decide : 28 + 0 ≤ _)⟩)
            dsimp only [Pt.U, Pt.locs, Pt.cells, Pt.slots] at X28 l28 y28 z28 st28 hQ28
            subst l28 y28 z28
            obtain ⟨rfl, Nq28, e28⟩ := hQ28
            have N28 := Fr.app N22 Nq28
            refine own_fs st28 ?_
            show own_G p.tables e below _ (T28.setTop (mkF m 202 #[.val (.int x0), .val (.int x1), .val (.int x2), .val (.int lx), .val (.int ly), .val (.int f1), .val (.int f2), .val (.int md), .val (.ref b1), .val (.ref b11), .val (.int (1 : Int32))] [(.int (own_eqc (nar .boolean f1) (nar .boolean f2) (own_cs x0 lx) (own_cs x1 ly)))]))
            refine own_fs (XS.iload X28.here hx rfl (hb hby at_202) rfl (Steps.refl _)) ?_
            show own_G p.tables e below _ (T28.setTop (mkF m 204 #[.val (.int x0), .val (.int x1), .val (.int x2), .val (.int lx), .val (.int ly), .val (.int f1), .val (.int f2), .val (.int md), .val (.ref b1), .val (.ref b11), .val (.int (1 : Int32))] [(.int (1 : Int32)), (.int (own_eqc (nar .boolean f1) (nar .boolean f2) (own_cs x0 lx) (own_cs x1 ly)))]))
            refine own_fs (XS.icmpNo X28.here hx rfl (hb hby at_204) rfl (XT.ii_ne_f (own_finA hlx hly hc91 hc102)) (Steps.refl _)) ?_
            show own_G p.tables e below _ (T28.setTop (mkF m 207 #[.val (.int x0), .val (.int x1), .val (.int x2), .val (.int lx), .val (.int ly), .val (.int f1), .val (.int f2), .val (.int md), .val (.ref b1), .val (.ref b11), .val (.int (1 : Int32))] []))
            refine own_fs (XS.iconst X28.here hx rfl (hb hby at_207) (Steps.refl _)) ?_
            show own_G p.tables e below _ (T28.setTop (mkF m 208 #[.val (.int x0), .val (.int x1), .val (.int x2), .val (.int lx), .val (.int ly), .val (.int f1), .val (.int f2), .val (.int md), .val (.ref b1), .val (.ref b11), .val (.int (1 : Int32))] [(.int (1 : Int32))]))
            refine own_fs (XS.goto X28.here hx rfl (pc0 := 208) (pc' := 212) rfl (hb hby at_208) (by decide) (by decide) (Steps.refl _)) ?_
            show own_G p.tables e below _ (T28.setTop (mkF m 212 #[.val (.int x0), .val (.int x1), .val (.int x2), .val (.int lx), .val (.int ly), .val (.int f1), .val (.int f2), .val (.int md), .val (.ref b1), .val (.ref b11), .val (.int (1 : Int32))] [(.int (1 : Int32))]))
            exact own_retNW X28 hx (t := .boolean) Bd.returns hlk (by simp) (hb hby at_212) (by decide) (by decide) e28 hS15 (Nat.le_trans (Nat.le_refl _) K18.1) (by rw [hh]; exact RR20.trans (CHv.at X28 hZ hEL CH20)) ⟨rfl, N28⟩
        · refine own_fs (XS.icmpYes X18.here hx rfl (pc0 := 91) (pc' := 109) rfl (hb hby at_91) rfl (XT.ii_ne_t hc91) (by decide) (by decide) (Steps.refl _)) ?_
          show own_G p.tables e below _ (T18.setTop (mkF m 109 #[.val (.int x0), .val (.int x1), .val (.int x2), .val (.int lx), .val (.int ly), .val (.int f1), .val (.int f2), .val (.int md), .val (.ref b1), .val (.ref b11), .unset] []))
          refine own_fs (XS.iconst X18.here hx rfl (hb hby at_109) (Steps.refl _)) ?_
          show own_G p.tables e below _ (T18.setTop (mkF m 110 #[.val (.int x0), .val (.int x1), .val (.int x2), .val (.int lx), .val (.int ly), .val (.int f1), .val (.int f2), .val (.int md), .val (.ref b1), .val (.ref b11), .unset] [(.int (0 : Int32))]))
          refine own_fs (XS.istore X18.here hx rfl (hb hby at_110) rfl (l' := #[.val (.int x0), .val (.int x1), .val (.int x2), .val (.int lx), .val (.int ly), .val (.int f1), .val (.int f2), .val (.int md), .val (.ref b1), .val (.ref b11), .val (.int (0 : Int32))]) rfl (Steps.refl _)) ?_
          show own_G p.tables e below _ (T18.setTop (mkF m 112 #[.val (.int x0), .val (.int x1), .val (.int x2), .val (.int lx), .val (.int ly), .val (.int f1), .val (.int f2), .val (.int md), .val (.ref b1), .val (.ref b11), .val (.int (0 : Int32))] []))
          refine own_fs (XS.goto X18.here hx rfl (pc0 := 112) (pc' := 195) rfl (hb hby at_112) (by decide) (by decide) (Steps.refl _)) ?_
          show own_G p.tables e below _ (T18.setTop (mkF m 195 #[.val (.int x0), .val (.int x1), .val (.int x2), .val (.int lx), .val (.int ly), .val (.int f1), .val (.int f2), .val (.int md), .val (.ref b1), .val (.ref b11), .val (.int (0 : Int32))] []))
          refine own_fs (XS.aload X18.here hx rfl (hb hby at_195) rfl rfl (Steps.refl _)) ?_
          show own_G p.tables e below _ (T18.setTop (mkF m 197 #[.val (.int x0), .val (.int x1), .val (.int x2), .val (.int lx), .val (.int ly), .val (.int f1), .val (.int f2), .val (.int md), .val (.ref b1), .val (.ref b11), .val (.int (0 : Int32))] [(.ref b1)]))
          refine own_fs (XS.aload X18.here hx rfl (hb hby at_197) rfl rfl (Steps.refl _)) ?_
          show own_G p.tables e below _ (T18.setTop (mkF m 199 #[.val (.int x0), .val (.int x1), .val (.int x2), .val (.int lx), .val (.int ly), .val (.int f1), .val (.int f2), .val (.int md), .val (.ref b1), .val (.ref b11), .val (.int (0 : Int32))] [(.ref b11), (.ref b1)]))
          have Zs32 : n0 ≤ h18.size := (Nat.le_trans (Nat.le_trans (Nat.le_trans (Nat.le_trans (Nat.le_trans (Nat.le_trans Z0 E1.1) K5.1) K8.1) E11.1) K15.1) K18.1)
          obtain ⟨cq31, kq31, q31a, q31b, q31c⟩ := isOf hZ e18 (((Exa.ext E11 ((A1.keep K5).keep K8)).keep K15).keep K18)
          obtain ⟨_, _, ⟨T31, L31, k31, n31⟩, -, X31, ⟨Lc31, hQ31, l31, y31, z31⟩, st31⟩ := X18.virtualBack hx (y := (⟨"com/example/diligent_tableau/diligenttableau/logic/ConceptName", "equals", "(Ljava/lang/Object;)Z"⟩ : MethodName)) (z := (⟨"com/example/diligent_tableau/diligenttableau/logic/ConceptName", "equals", "(Ljava/lang/Object;)Z"⟩ : MethodName)) hown (mvT hZ (hw _ (List.mem_of_getElem? (i := 56) rfl))) (mvT hZ (hw _ (List.mem_of_getElem? (i := 57) rfl))) (notFace_of_selects (args := #[]) (mvT hZ (hw _ (List.mem_of_getElem? (i := 59) rfl)))) (mvT hZ (hw _ (List.mem_of_getElem? (i := 59) rfl))) (mvT hZ (hw _ (List.mem_of_getElem? (i := 58) rfl))) (by decide) (backOf (W := 0) (own_eqcn l Z a0 hw [] b1 b11 (nar .boolean f1) (nar .boolean f2) ar3 ar13 tt3 tt13 kt3 kt13 (own_cs x0 lx) (own_cs x1 ly) cz h18 n0 Zs32 ((A11.keep K15).keep K18) (((Fld.ext E11 P7_1).keep K15 nin0).keep K18 (ninS (Nat.ne_of_lt (Nat.lt_of_lt_of_le (Exa.lt ((A1.keep K5).keep K8)) (Nat.le_of_eq g11.symm))) nin0)) P17_1 (((Fld.ext E11 P7_0).keep K15 nin0).keep K18 (ninS (Nat.ne_of_lt (Nat.lt_of_lt_of_le (Exa.lt ((A1.keep K5).keep K8)) (Nat.le_of_eq g11.symm))) nin0)) P17_0 (((Exa.ext E11 (P4_0.keep K8)).keep K15).keep K18) (((Fld.ext E11 (P4_1.keep K8 (ninS (Ne.symm (Nat.ne_of_lt (Nat.lt_of_lt_of_le (Exa.lt A1) P4_4))) nin0))).keep K15 nin0).keep K18 (ninS (Nat.ne_of_lt (Nat.lt_of_lt_of_le (Exa.lt (P4_0.keep K8)) (Nat.le_of_eq g11.symm))) nin0)) (((Fld.ext E11 (P4_2.keep K8 (ninS (Ne.symm (Nat.ne_of_lt (Nat.lt_of_lt_of_le (Exa.lt A1) P4_4))) nin0))).keep K15 nin0).keep K18 (ninS (Nat.ne_of_lt (Nat.lt_of_lt_of_le (Exa.lt (P4_0.keep K8)) (Nat.le_of_eq g11.symm))) nin0)) ((((P4_3.keep K8 (ninS (Ne.symm (Exa.neArv (A1.keep K5) P4_3 (hw _ (List.mem_of_getElem? (i := 1) rfl)))) nin0)).ext E11).keep K15 nin0).keep K18 (ninS (Nat.ne_of_lt (Nat.lt_of_lt_of_le (Arv.lt (P4_3.keep K8 (ninS (Ne.symm (Exa.neArv (A1.keep K5) P4_3 (hw _ (List.mem_of_getElem? (i := 1) rfl)))) nin0))) (Nat.le_of_eq g11.symm))) nin0)) (own_cs_rng x0 lx) (own_cs_len x0 lx) (P14_0.keep K18) (P14_1.keep K18 (ninS (Ne.symm (Nat.ne_of_lt (Nat.lt_of_lt_of_le (Exa.lt A11) P14_4))) nin0)) (P14_2.keep K18 (ninS (Ne.symm (Nat.ne_of_lt (Nat.lt_of_lt_of_le (Exa.lt A11) P14_4))) nin0)) (P14_3.keep K18 (ninS (Ne.symm (Exa.neArv (A11.keep K15) P14_3 (hw _ (List.mem_of_getElem? (i := 1) rfl)))) nin0)) (own_cs_rng x1 ly) (own_cs_len x1 ly) hSc hcz (Old.keep (Old.keep (Old.ext (Old.keep (Old.keep (Old.ext hOld E1) K5 all0) K8 (allS ge_b1 all0)) E11) K15 all0) K18 (allS ge_b11 all0))) hZ (hw _ (List.mem_of_getElem? (i := 60) rfl)) (hw _ (List.mem_of_getElem? (i := 2) rfl)) (by decide) (by decide)) q31a q31c (g := (mkF m 199 #[.val (.int x0), .val (.int x1), .val (.int x2), .val (.int lx), .val (.int ly), .val (.int f1), .val (.int f2), .val (.int md), .val (.ref b1), .val (.ref b11), .val (.int (0 : Int32))] [(.ref b11), (.ref b1)])) rfl (by rw [hml]; rfl) (Steps.refl _) (argsL := [(.ref b11)]) (rest := []) (lenOf own_pd3 rfl) rfl (by show 2 * 0 + _ ≤ _; exact Nat.le_of_eq rfl) (hb hby at_199) (fun _ _ => ⟨rfl, e18, (by decide : 14 + 0 ≤ _), (by decide : 28 + 0 ≤ _)⟩)
          dsimp only [Pt.U, Pt.locs, Pt.cells, Pt.slots] at X31 l31 y31 z31 st31 hQ31
          subst l31 y31 z31
          obtain ⟨rfl, Nq31, e31⟩ := hQ31
          have N31 := Fr.app N18 Nq31
          refine own_fs st31 ?_
          show own_G p.tables e below _ (T31.setTop (mkF m 202 #[.val (.int x0), .val (.int x1), .val (.int x2), .val (.int lx), .val (.int ly), .val (.int f1), .val (.int f2), .val (.int md), .val (.ref b1), .val (.ref b11), .val (.int (0 : Int32))] [(.int (own_eqc (nar .boolean f1) (nar .boolean f2) (own_cs x0 lx) (own_cs x1 ly)))]))
          refine own_fs (XS.iload X31.here hx rfl (hb hby at_202) rfl (Steps.refl _)) ?_
          show own_G p.tables e below _ (T31.setTop (mkF m 204 #[.val (.int x0), .val (.int x1), .val (.int x2), .val (.int lx), .val (.int ly), .val (.int f1), .val (.int f2), .val (.int md), .val (.ref b1), .val (.ref b11), .val (.int (0 : Int32))] [(.int (0 : Int32)), (.int (own_eqc (nar .boolean f1) (nar .boolean f2) (own_cs x0 lx) (own_cs x1 ly)))]))
          refine own_fs (XS.icmpNo X31.here hx rfl (hb hby at_204) rfl (XT.ii_ne_f (own_finC hf1 hf2 hc91)) (Steps.refl _)) ?_
          show own_G p.tables e below _ (T31.setTop (mkF m 207 #[.val (.int x0), .val (.int x1), .val (.int x2), .val (.int lx), .val (.int ly), .val (.int f1), .val (.int f2), .val (.int md), .val (.ref b1), .val (.ref b11), .val (.int (0 : Int32))] []))
          refine own_fs (XS.iconst X31.here hx rfl (hb hby at_207) (Steps.refl _)) ?_
          show own_G p.tables e below _ (T31.setTop (mkF m 208 #[.val (.int x0), .val (.int x1), .val (.int x2), .val (.int lx), .val (.int ly), .val (.int f1), .val (.int f2), .val (.int md), .val (.ref b1), .val (.ref b11), .val (.int (0 : Int32))] [(.int (1 : Int32))]))
          refine own_fs (XS.goto X31.here hx rfl (pc0 := 208) (pc' := 212) rfl (hb hby at_208) (by decide) (by decide) (Steps.refl _)) ?_
          show own_G p.tables e below _ (T31.setTop (mkF m 212 #[.val (.int x0), .val (.int x1), .val (.int x2), .val (.int lx), .val (.int ly), .val (.int f1), .val (.int f2), .val (.int md), .val (.ref b1), .val (.ref b11), .val (.int (0 : Int32))] [(.int (1 : Int32))]))
          exact own_retNW X31 hx (t := .boolean) Bd.returns hlk (by simp) (hb hby at_212) (by decide) (by decide) e31 hS15 (Nat.le_trans (Nat.le_refl _) K18.1) (by rw [hh]; exact RR20.trans (CHv.at X31 hZ hEL CH20)) ⟨rfl, N31⟩
      · refine own_fs (XS.ifYes X8.here hx rfl (pc0 := 67) (pc' := 115) rfl (hb hby at_67) rfl (XT.i0_ne_t hc67) (by decide) (by decide) (Steps.refl _)) ?_
        show own_G p.tables e below _ (T8.setTop (mkF m 115 #[.val (.int x0), .val (.int x1), .val (.int x2), .val (.int lx), .val (.int ly), .val (.int f1), .val (.int f2), .val (.int md), .val (.ref b1), .unset, .unset] []))
        refine own_fs (XS.iload X8.here hx rfl (hb hby at_115) rfl (Steps.refl _)) ?_
        show own_G p.tables e below _ (T8.setTop (mkF m 117 #[.val (.int x0), .val (.int x1), .val (.int x2), .val (.int lx), .val (.int ly), .val (.int f1), .val (.int f2), .val (.int md), .val (.ref b1), .unset, .unset] [(.int md)]))
        refine own_fs (XS.iconst X8.here hx rfl (hb hby at_117) (Steps.refl _)) ?_
        show own_G p.tables e below _ (T8.setTop (mkF m 118 #[.val (.int x0), .val (.int x1), .val (.int x2), .val (.int lx), .val (.int ly), .val (.int f1), .val (.int f2), .val (.int md), .val (.ref b1), .unset, .unset] [(.int (1 : Int32)), (.int md)]))
        by_cases hc118 : md = (1 : Int32)
        · refine own_fs (XS.icmpNo X8.here hx rfl (hb hby at_118) rfl (XT.ii_ne_f hc118) (Steps.refl _)) ?_
          show own_G p.tables e below _ (T8.setTop (mkF m 121 #[.val (.int x0), .val (.int x1), .val (.int x2), .val (.int lx), .val (.int ly), .val (.int f1), .val (.int f2), .val (.int md), .val (.ref b1), .unset, .unset] []))
          obtain ⟨T33, h33, X33, e33, E33, A33, D33, -, st33⟩ := newO X8 hx hZ hown (hw _ (List.mem_of_getElem? (i := 0) rfl)) (hw _ (List.mem_of_getElem? (i := 1) rfl)) (hw _ (List.mem_of_getElem? (i := 2) rfl)) e8 (g := (mkF m 121 #[.val (.int x0), .val (.int x1), .val (.int x2), .val (.int lx), .val (.int ly), .val (.int f1), .val (.int f2), .val (.int md), .val (.ref b1), .unset, .unset] [])) rfl (hb hby at_121) (by decide) (by decide)
          obtain ⟨b33, g33⟩ : ∃ z, z = h8.size := ⟨_, rfl⟩
          rw [← g33] at A33 D33 st33
          have ge_b33 : n0 ≤ b33 := Nat.le_trans (Nat.le_trans (Nat.le_trans (Nat.le_trans Z0 E1.1) K5.1) K8.1) (Nat.le_of_eq g33.symm)
          have gz_b33 : h0.size ≤ b33 := Nat.le_trans (Nat.le_trans (Nat.le_trans (Nat.le_trans (Nat.le_refl _) E1.1) K5.1) K8.1) (Nat.le_of_eq g33.symm)
          have Sf_b33 : Safe Z own_EL T5.vm h8 b33 := Safe.new (Nat.le_of_eq g33.symm)
          have CH34 := CHv.ext E33 CH10
          have RR34 := CHr.trans RR10 (CHr.ext E33 CH10)
          have Sf34_b1 := Safe.ext E33 CH10 Sf10_b1
          have Sf34_b33 := Safe.ext E33 CH10 Sf_b33
          have F_name_b33 : Fld Z h33 b33 "com/example/diligent_tableau/diligenttableau/logic/ConceptName" "name" "Ljava/lang/String;" .null := D33 (Or.inr (hw _ (List.mem_of_getElem? (i := 47) rfl))) (ty := (.object "java/lang/String")) (by decide)
          have F_fresh_b33 : Fld Z h33 b33 "com/example/diligent_tableau/diligenttableau/logic/ConceptName" "fresh" "Z" (.int (0 : Int32)) := D33 (Or.inr (hw _ (List.mem_of_getElem? (i := 49) rfl))) (ty := .boolean) (by decide)
          refine own_fs (st33 _ (Steps.refl _)) ?_
          show own_G p.tables e below _ (T33.setTop (mkF m 124 #[.val (.int x0), .val (.int x1), .val (.int x2), .val (.int lx), .val (.int ly), .val (.int f1), .val (.int f2), .val (.int md), .val (.ref b1), .unset, .unset] [(.ref b33)]))
          refine own_fs (XS.dup X33.here hx rfl (hb hby at_124) rfl rfl (Steps.refl _)) ?_
          show own_G p.tables e below _ (T33.setTop (mkF m 125 #[.val (.int x0), .val (.int x1), .val (.int x2), .val (.int lx), .val (.int ly), .val (.int f1), .val (.int f2), .val (.int md), .val (.ref b1), .unset, .unset] [(.ref b33), (.ref b33)]))
          refine own_fs (XS.iloadN X33.here hx rfl (hb hby at_125) rfl (Steps.refl _)) ?_
          show own_G p.tables e below _ (T33.setTop (mkF m 126 #[.val (.int x0), .val (.int x1), .val (.int x2), .val (.int lx), .val (.int ly), .val (.int f1), .val (.int f2), .val (.int md), .val (.ref b1), .unset, .unset] [(.int x0), (.ref b33), (.ref b33)]))
          refine own_fs (XS.iloadN X33.here hx rfl (hb hby at_126) rfl (Steps.refl _)) ?_
          show own_G p.tables e below _ (T33.setTop (mkF m 127 #[.val (.int x0), .val (.int x1), .val (.int x2), .val (.int lx), .val (.int ly), .val (.int f1), .val (.int f2), .val (.int md), .val (.ref b1), .unset, .unset] [(.int lx), (.int x0), (.ref b33), (.ref b33)]))
          have Zs38 : n0 ≤ h33.size := (Nat.le_trans (Nat.le_trans (Nat.le_trans (Nat.le_trans Z0 E1.1) K5.1) K8.1) E33.1)
          obtain ⟨_, _, ⟨T37, L37, k37, n37⟩, -, X37', hS37', gr37, ⟨Lc37, hQ37, l37, y37, z37, hR37⟩, st37⟩ := callSS X33 hx (y := (⟨"com/example/diligent_tableau/diligenttableau/logic/ConceptNameEqualsPinLaw", "str", "(II)Ljava/lang/String;"⟩ : MethodName)) hown (mvT hZ (hw _ (List.mem_of_getElem? (i := 3) rfl))) (mvT hZ (hw _ (List.mem_of_getElem? (i := 4) rfl))) (mvT hZ (hw _ (List.mem_of_getElem? (i := 5) rfl))) (mvT hZ (hw _ (List.mem_of_getElem? (i := 6) rfl))) (by decide) (backOfSH (s := s) (vm0 := T5.vm) (W := 2) (own_str l Z a0 hw [] x0 lx cz h33 n0 Zs38 hSc hcz (Old.ext (Old.keep (Old.keep (Old.ext hOld E1) K5 all0) K8 (allS ge_b1 all0)) E33)) hZ (hw _ (List.mem_of_getElem? (i := 6) rfl)) (hw _ (List.mem_of_getElem? (i := 5) rfl)) (by decide) (by decide) hEL CH34) (g := (mkF m 127 #[.val (.int x0), .val (.int x1), .val (.int x2), .val (.int lx), .val (.int ly), .val (.int f1), .val (.int f2), .val (.int md), .val (.ref b1), .unset, .unset] [(.int lx), (.int x0), (.ref b33), (.ref b33)])) rfl (by rw [hml]; rfl) (argsL := [(.int x0), (.int lx)]) (rest := [(.ref b33), (.ref b33)]) (lenOf own_pd4 rfl) rfl (by show 2 * 0 + _ ≤ _; exact Nat.le_of_eq rfl) (hb hby at_127) (fun _ _ => ⟨rfl, e33, (by decide : 8 + 6 ≤ _), (by decide : 16 + 12 ≤ _)⟩)
          dsimp only [Pt.U, Pt.locs, Pt.cells, Pt.slots] at X37' hS37' gr37 l37 y37 z37 st37 hQ37 hR37
          subst l37 y37 z37
          obtain ⟨X37, hS37, hZ, hown⟩ := rebS hS5 (by rw [e33]; exact (Nat.le_trans (Nat.le_trans (Nat.le_refl _) K8.1) E33.1)) X37' hS37' gr37 hZ hown
          obtain ⟨h37, e37⟩ : ∃ h, T37.heap = h := ⟨_, rfl⟩
          rw [e37] at hQ37 hS37 hR37
          obtain ⟨ar35, tt35, kt35, rfl, Nq37, K37, P36_0, P36_1, P36_2, P36_3, P36_4⟩ := hQ37
          have Sf37_b1 := CHr.safe hR37 (Exa.lt (Exa.ext E33 ((A1.keep K5).keep K8))) Sf34_b1
          have Sf37_b33 := CHr.safe hR37 (Exa.lt A33) Sf34_b33
          have RR37 := CHr.trans RR34 hR37
          have CH37 := hR37.1
          have N37 := Fr.app N8 Nq37
          have ge_ar35 : n0 ≤ ar35 := Nat.le_trans (Nat.le_trans (Nat.le_trans (Nat.le_trans (Nat.le_trans Z0 E1.1) K5.1) K8.1) E33.1) P36_4
          have gz_ar35 : h0.size ≤ ar35 := Nat.le_trans (Nat.le_trans (Nat.le_trans (Nat.le_trans (Nat.le_trans (Nat.le_refl _) E1.1) K5.1) K8.1) E33.1) P36_4
          refine own_fs st37 ?_
          show own_G p.tables e below _ (T37.setTop (mkF m 130 #[.val (.int x0), .val (.int x1), .val (.int x2), .val (.int lx), .val (.int ly), .val (.int f1), .val (.int f2), .val (.int md), .val (.ref b1), .unset, .unset] [(.ref ar35), (.ref b33), (.ref b33)]))
          refine own_fs (XS.iload X37.here hx rfl (hb hby at_130) rfl (Steps.refl _)) ?_
          show own_G p.tables e below _ (T37.setTop (mkF m 132 #[.val (.int x0), .val (.int x1), .val (.int x2), .val (.int lx), .val (.int ly), .val (.int f1), .val (.int f2), .val (.int md), .val (.ref b1), .unset, .unset] [(.int f2), (.ref ar35), (.ref b33), (.ref b33)]))
          have Zs41 : n0 ≤ h37.size := (Nat.le_trans (Nat.le_trans (Nat.le_trans (Nat.le_trans (Nat.le_trans Z0 E1.1) K5.1) K8.1) E33.1) K37.1)
          obtain ⟨_, _, ⟨T40, L40, k40, n40⟩, -, X40, ⟨Lc40, hQ40, l40, y40, z40⟩, st40⟩ := X37.specialBack hx (y := (⟨"com/example/diligent_tableau/diligenttableau/logic/ConceptName", "<init>", "(Ljava/lang/String;Z)V"⟩ : MethodName)) rfl hown (mvT hZ (hw _ (List.mem_of_getElem? (i := 37) rfl))) (mvT hZ (hw _ (List.mem_of_getElem? (i := 38) rfl))) (mvT hZ (hw _ (List.mem_of_getElem? (i := 39) rfl))) (by decide) (backOf (W := 1) (own_i_CN l Z a0 hw [] b33 ar35 f2 (.null) (0 : Int32) h37 n0 Zs41 (A33.keep K37) (F_name_b33.keep K37 nin0) (F_fresh_b33.keep K37 nin0) ge_b33) hZ (hw _ (List.mem_of_getElem? (i := 39) rfl)) (hw _ (List.mem_of_getElem? (i := 2) rfl)) (by decide) (by decide)) (g := (mkF m 132 #[.val (.int x0), .val (.int x1), .val (.int x2), .val (.int lx), .val (.int ly), .val (.int f1), .val (.int f2), .val (.int md), .val (.ref b1), .unset, .unset] [(.int f2), (.ref ar35), (.ref b33), (.ref b33)])) rfl (by rw [hml]; rfl) (Steps.refl _) (a := b33) (argsL := [(.ref ar35), (.int f2)]) (rest := [(.ref b33)]) (lenOf own_pd5 rfl) rfl (by show 2 * 0 + _ ≤ _; exact Nat.le_of_eq rfl) (hb hby at_132) (fun _ _ => ⟨rfl, e37, (by decide : 14 + 0 ≤ _), (by decide : 28 + 0 ≤ _)⟩)
          dsimp only [Pt.U, Pt.locs, Pt.cells, Pt.slots] at X40 l40 y40 z40 st40 hQ40
          subst l40 y40 z40
          obtain ⟨h40, e40⟩ : ∃ h, T40.heap = h := ⟨_, rfl⟩
          rw [e40] at hQ40
          obtain ⟨rfl, Nq40, K40, P39_0, P39_1⟩ := hQ40
          have CH42 := CHv.keep K40 (sfS (Safe.exa (vm := T37.vm) hZ.alike (A33.keep K37) (by decide) (by decide)) sf0) CH37
          have RR42 := CHr.trans RR37 (CHr.keep K40 (sfS (Safe.exa (vm := T37.vm) hZ.alike (A33.keep K37) (by decide) (by decide)) sf0) CH37)
          have Sf42_b1 := Safe.keep K40 (sfS (Safe.exa (vm := T37.vm) hZ.alike (A33.keep K37) (by decide) (by decide)) sf0) CH37 Sf37_b1
          have Sf42_b33 := Safe.keep K40 (sfS (Safe.exa (vm := T37.vm) hZ.alike (A33.keep K37) (by decide) (by decide)) sf0) CH37 Sf37_b33
          have N40 := Fr.app N37 Nq40
          refine own_fs st40 ?_
          show own_G p.tables e below _ (T40.setTop (mkF m 135 #[.val (.int x0), .val (.int x1), .val (.int x2), .val (.int lx), .val (.int ly), .val (.int f1), .val (.int f2), .val (.int md), .val (.ref b1), .unset, .unset] [(.ref b33)]))
          refine own_fs (XS.astore X40.here hx rfl (hb hby at_135) rfl rfl (l' := #[.val (.int x0), .val (.int x1), .val (.int x2), .val (.int lx), .val (.int ly), .val (.int f1), .val (.int f2), .val (.int md), .val (.ref b1), .val (.ref b33), .unset]) rfl (Steps.refl _)) ?_
          show own_G p.tables e below _ (T40.setTop (mkF m 137 #[.val (.int x0), .val (.int x1), .val (.int x2), .val (.int lx), .val (.int ly), .val (.int f1), .val (.int f2), .val (.int md), .val (.ref b1), .val (.ref b33), .unset] []))
          refine own_fs (XS.iload X40.here hx rfl (hb hby at_137) rfl (Steps.refl _)) ?_
          show own_G p.tables e below _ (T40.setTop (mkF m 139 #[.val (.int x0), .val (.int x1), .val (.int x2), .val (.int lx), .val (.int ly), .val (.int f1), .val (.int f2), .val (.int md), .val (.ref b1), .val (.ref b33), .unset] [(.int f1)]))
          refine own_fs (XS.iload X40.here hx rfl (hb hby at_139) rfl (Steps.refl _)) ?_
          show own_G p.tables e below _ (T40.setTop (mkF m 141 #[.val (.int x0), .val (.int x1), .val (.int x2), .val (.int lx), .val (.int ly), .val (.int f1), .val (.int f2), .val (.int md), .val (.ref b1), .val (.ref b33), .unset] [(.int f2), (.int f1)]))
          by_cases hc141 : f1 = f2
          · refine own_fs (XS.icmpNo X40.here hx rfl (hb hby at_141) rfl (XT.ii_ne_f hc141) (Steps.refl _)) ?_
            show own_G p.tables e below _ (T40.setTop (mkF m 144 #[.val (.int x0), .val (.int x1), .val (.int x2), .val (.int lx), .val (.int ly), .val (.int f1), .val (.int f2), .val (.int md), .val (.ref b1), .val (.ref b33), .unset] []))
            refine own_fs (XS.iconst X40.here hx rfl (hb hby at_144) (Steps.refl _)) ?_
            show own_G p.tables e below _ (T40.setTop (mkF m 145 #[.val (.int x0), .val (.int x1), .val (.int x2), .val (.int lx), .val (.int ly), .val (.int f1), .val (.int f2), .val (.int md), .val (.ref b1), .val (.ref b33), .unset] [(.int (1 : Int32))]))
            refine own_fs (XS.goto X40.here hx rfl (pc0 := 145) (pc' := 149) rfl (hb hby at_145) (by decide) (by decide) (Steps.refl _)) ?_
            show own_G p.tables e below _ (T40.setTop (mkF m 149 #[.val (.int x0), .val (.int x1), .val (.int x2), .val (.int lx), .val (.int ly), .val (.int f1), .val (.int f2), .val (.int md), .val (.ref b1), .val (.ref b33), .unset] [(.int (1 : Int32))]))
            refine own_fs (XS.istore X40.here hx rfl (hb hby at_149) rfl (l' := #[.val (.int x0), .val (.int x1), .val (.int x2), .val (.int lx), .val (.int ly), .val (.int f1), .val (.int f2), .val (.int md), .val (.ref b1), .val (.ref b33), .val (.int (1 : Int32))]) rfl (Steps.refl _)) ?_
            show own_G p.tables e below _ (T40.setTop (mkF m 151 #[.val (.int x0), .val (.int x1), .val (.int x2), .val (.int lx), .val (.int ly), .val (.int f1), .val (.int f2), .val (.int md), .val (.ref b1), .val (.ref b33), .val (.int (1 : Int32))] []))
            refine own_fs (XS.goto X40.here hx rfl (pc0 := 151) (pc' := 195) rfl (hb hby at_151) (by decide) (by decide) (Steps.refl _)) ?_
            show own_G p.tables e below _ (T40.setTop (mkF m 195 #[.val (.int x0), .val (.int x1), .val (.int x2), .val (.int lx), .val (.int ly), .val (.int f1), .val (.int f2), .val (.int md), .val (.ref b1), .val (.ref b33), .val (.int (1 : Int32))] []))
            refine own_fs (XS.aload X40.here hx rfl (hb hby at_195) rfl rfl (Steps.refl _)) ?_
            show own_G p.tables e below _ (T40.setTop (mkF m 197 #[.val (.int x0), .val (.int x1), .val (.int x2), .val (.int lx), .val (.int ly), .val (.int f1), .val (.int f2), .val (.int md), .val (.ref b1), .val (.ref b33), .val (.int (1 : Int32))] [(.ref b1)]))
            refine own_fs (XS.aload X40.here hx rfl (hb hby at_197) rfl rfl (Steps.refl _)) ?_
            show own_G p.tables e below _ (T40.setTop (mkF m 199 #[.val (.int x0), .val (.int x1), .val (.int x2), .val (.int lx), .val (.int ly), .val (.int f1), .val (.int f2), .val (.int md), .val (.ref b1), .val (.ref b33), .val (.int (1 : Int32))] [(.ref b33), (.ref b1)]))
            have Zs45 : n0 ≤ h40.size := (Nat.le_trans (Nat.le_trans (Nat.le_trans (Nat.le_trans (Nat.le_trans (Nat.le_trans Z0 E1.1) K5.1) K8.1) E33.1) K37.1) K40.1)
            obtain ⟨cq44, kq44, q44a, q44b, q44c⟩ := isOf hZ e40 (((Exa.ext E33 ((A1.keep K5).keep K8)).keep K37).keep K40)
            obtain ⟨_, _, ⟨T44, L44, k44, n44⟩, -, X44, ⟨Lc44, hQ44, l44, y44, z44⟩, st44⟩ := X40.virtualBack hx (y := (⟨"com/example/diligent_tableau/diligenttableau/logic/ConceptName", "equals", "(Ljava/lang/Object;)Z"⟩ : MethodName)) (z := (⟨"com/example/diligent_tableau/diligenttableau/logic/ConceptName", "equals", "(Ljava/lang/Object;)Z"⟩ : MethodName)) hown (mvT hZ (hw _ (List.mem_of_getElem? (i := 56) rfl))) (mvT hZ (hw _ (List.mem_of_getElem? (i := 57) rfl))) (notFace_of_selects (args := #[]) (mvT hZ (hw _ (List.mem_of_getElem? (i := 59) rfl)))) (mvT hZ (hw _ (List.mem_of_getElem? (i := 59) rfl))) (mvT hZ (hw _ (List.mem_of_getElem? (i := 58) rfl))) (by decide) (backOf (W := 0) (own_eqcn l Z a0 hw [] b1 b33 (nar .boolean f1) (nar .boolean f2) ar3 ar35 tt3 tt35 kt3 kt35 (own_cs x0 lx) (own_cs x0 lx) cz h40 n0 Zs45 ((A33.keep K37).keep K40) (((Fld.ext E33 P7_1).keep K37 nin0).keep K40 (ninS (Nat.ne_of_lt (Nat.lt_of_lt_of_le (Exa.lt ((A1.keep K5).keep K8)) (Nat.le_of_eq g33.symm))) nin0)) P39_1 (((Fld.ext E33 P7_0).keep K37 nin0).keep K40 (ninS (Nat.ne_of_lt (Nat.lt_of_lt_of_le (Exa.lt ((A1.keep K5).keep K8)) (Nat.le_of_eq g33.symm))) nin0)) P39_0 (((Exa.ext E33 (P4_0.keep K8)).keep K37).keep K40) (((Fld.ext E33 (P4_1.keep K8 (ninS (Ne.symm (Nat.ne_of_lt (Nat.lt_of_lt_of_le (Exa.lt A1) P4_4))) nin0))).keep K37 nin0).keep K40 (ninS (Nat.ne_of_lt (Nat.lt_of_lt_of_le (Exa.lt (P4_0.keep K8)) (Nat.le_of_eq g33.symm))) nin0)) (((Fld.ext E33 (P4_2.keep K8 (ninS (Ne.symm (Nat.ne_of_lt (Nat.lt_of_lt_of_le (Exa.lt A1) P4_4))) nin0))).keep K37 nin0).keep K40 (ninS (Nat.ne_of_lt (Nat.lt_of_lt_of_le (Exa.lt (P4_0.keep K8)) (Nat.le_of_eq g33.symm))) nin0)) ((((P4_3.keep K8 (ninS (Ne.symm (Exa.neArv (A1.keep K5) P4_3 (hw _ (List.mem_of_getElem? (i := 1) rfl)))) nin0)).ext E33).keep K37 nin0).keep K40 (ninS (Nat.ne_of_lt (Nat.lt_of_lt_of_le (Arv.lt (P4_3.keep K8 (ninS (Ne.symm (Exa.neArv (A1.keep K5) P4_3 (hw _ (List.mem_of_getElem? (i := 1) rfl)))) nin0))) (Nat.le_of_eq g33.symm))) nin0)) (own_cs_rng x0 lx) (own_cs_len x0 lx) (P36_0.keep K40) (P36_1.keep K40 (ninS (Ne.symm (Nat.ne_of_lt (Nat.lt_of_lt_of_le (Exa.lt A33) P36_4))) nin0)) (P36_2.keep K40 (ninS (Ne.symm (Nat.ne_of_lt (Nat.lt_of_lt_of_le (Exa.lt A33) P36_4))) nin0)) (P36_3.keep K40 (ninS (Ne.symm (Exa.neArv (A33.keep K37) P36_3 (hw _ (List.mem_of_getElem? (i := 1) rfl)))) nin0)) (own_cs_rng x0 lx) (own_cs_len x0 lx) hSc hcz (Old.keep (Old.keep (Old.ext (Old.keep (Old.keep (Old.ext hOld E1) K5 all0) K8 (allS ge_b1 all0)) E33) K37 all0) K40 (allS ge_b33 all0))) hZ (hw _ (List.mem_of_getElem? (i := 60) rfl)) (hw _ (List.mem_of_getElem? (i := 2) rfl)) (by decide) (by decide)) q44a q44c (g := (mkF m 199 #[.val (.int x0), .val (.int x1), .val (.int x2), .val (.int lx), .val (.int ly), .val (.int f1), .val (.int f2), .val (.int md), .val (.ref b1), .val (.ref b33), .val (.int (1 : Int32))] [(.ref b33), (.ref b1)])) rfl (by rw [hml]; rfl) (Steps.refl _) (argsL := [(.ref b33)]) (rest := []) (lenOf own_pd3 rfl) rfl (by show 2 * 0 + _ ≤ _; exact Nat.le_of_eq rfl) (hb hby at_199) (fun _ _ => ⟨rfl, e40, (by decide : 14 + 0 ≤ _), (by decide : 28 + 0 ≤ _)⟩)
            dsimp only [Pt.U, Pt.locs, Pt.cells, Pt.slots] at X44 l44 y44 z44 st44 hQ44
            subst l44 y44 z44
            obtain ⟨rfl, Nq44, e44⟩ := hQ44
            have N44 := Fr.app N40 Nq44
            refine own_fs st44 ?_
            show own_G p.tables e below _ (T44.setTop (mkF m 202 #[.val (.int x0), .val (.int x1), .val (.int x2), .val (.int lx), .val (.int ly), .val (.int f1), .val (.int f2), .val (.int md), .val (.ref b1), .val (.ref b33), .val (.int (1 : Int32))] [(.int (own_eqc (nar .boolean f1) (nar .boolean f2) (own_cs x0 lx) (own_cs x0 lx)))]))
            refine own_fs (XS.iload X44.here hx rfl (hb hby at_202) rfl (Steps.refl _)) ?_
            show own_G p.tables e below _ (T44.setTop (mkF m 204 #[.val (.int x0), .val (.int x1), .val (.int x2), .val (.int lx), .val (.int ly), .val (.int f1), .val (.int f2), .val (.int md), .val (.ref b1), .val (.ref b33), .val (.int (1 : Int32))] [(.int (1 : Int32)), (.int (own_eqc (nar .boolean f1) (nar .boolean f2) (own_cs x0 lx) (own_cs x0 lx)))]))
            refine own_fs (XS.icmpNo X44.here hx rfl (hb hby at_204) rfl (XT.ii_ne_f (own_finD hc141)) (Steps.refl _)) ?_
            show own_G p.tables e below _ (T44.setTop (mkF m 207 #[.val (.int x0), .val (.int x1), .val (.int x2), .val (.int lx), .val (.int ly), .val (.int f1), .val (.int f2), .val (.int md), .val (.ref b1), .val (.ref b33), .val (.int (1 : Int32))] []))
            refine own_fs (XS.iconst X44.here hx rfl (hb hby at_207) (Steps.refl _)) ?_
            show own_G p.tables e below _ (T44.setTop (mkF m 208 #[.val (.int x0), .val (.int x1), .val (.int x2), .val (.int lx), .val (.int ly), .val (.int f1), .val (.int f2), .val (.int md), .val (.ref b1), .val (.ref b33), .val (.int (1 : Int32))] [(.int (1 : Int32))]))
            refine own_fs (XS.goto X44.here hx rfl (pc0 := 208) (pc' := 212) rfl (hb hby at_208) (by decide) (by decide) (Steps.refl _)) ?_
            show own_G p.tables e below _ (T44.setTop (mkF m 212 #[.val (.int x0), .val (.int x1), .val (.int x2), .val (.int lx), .val (.int ly), .val (.int f1), .val (.int f2), .val (.int md), .val (.ref b1), .val (.ref b33), .val (.int (1 : Int32))] [(.int (1 : Int32))]))
            exact own_retNW X44 hx (t := .boolean) Bd.returns hlk (by simp) (hb hby at_212) (by decide) (by decide) e44 hS37 (Nat.le_trans (Nat.le_refl _) K40.1) (by rw [hh]; exact RR42.trans (CHv.at X44 hZ hEL CH42)) ⟨rfl, N44⟩
          · refine own_fs (XS.icmpYes X40.here hx rfl (pc0 := 141) (pc' := 148) rfl (hb hby at_141) rfl (XT.ii_ne_t hc141) (by decide) (by decide) (Steps.refl _)) ?_
            show own_G p.tables e below _ (T40.setTop (mkF m 148 #[.val (.int x0), .val (.int x1), .val (.int x2), .val (.int lx), .val (.int ly), .val (.int f1), .val (.int f2), .val (.int md), .val (.ref b1), .val (.ref b33), .unset] []))
            refine own_fs (XS.iconst X40.here hx rfl (hb hby at_148) (Steps.refl _)) ?_
            show own_G p.tables e below _ (T40.setTop (mkF m 149 #[.val (.int x0), .val (.int x1), .val (.int x2), .val (.int lx), .val (.int ly), .val (.int f1), .val (.int f2), .val (.int md), .val (.ref b1), .val (.ref b33), .unset] [(.int (0 : Int32))]))
            refine own_fs (XS.istore X40.here hx rfl (hb hby at_149) rfl (l' := #[.val (.int x0), .val (.int x1), .val (.int x2), .val (.int lx), .val (.int ly), .val (.int f1), .val (.int f2), .val (.int md), .val (.ref b1), .val (.ref b33), .val (.int (0 : Int32))]) rfl (Steps.refl _)) ?_
            show own_G p.tables e below _ (T40.setTop (mkF m 151 #[.val (.int x0), .val (.int x1), .val (.int x2), .val (.int lx), .val (.int ly), .val (.int f1), .val (.int f2), .val (.int md), .val (.ref b1), .val (.ref b33), .val (.int (0 : Int32))] []))
            refine own_fs (XS.goto X40.here hx rfl (pc0 := 151) (pc' := 195) rfl (hb hby at_151) (by decide) (by decide) (Steps.refl _)) ?_
            show own_G p.tables e below _ (T40.setTop (mkF m 195 #[.val (.int x0), .val (.int x1), .val (.int x2), .val (.int lx), .val (.int ly), .val (.int f1), .val (.int f2), .val (.int md), .val (.ref b1), .val (.ref b33), .val (.int (0 : Int32))] []))
            refine own_fs (XS.aload X40.here hx rfl (hb hby at_195) rfl rfl (Steps.refl _)) ?_
            show own_G p.tables e below _ (T40.setTop (mkF m 197 #[.val (.int x0), .val (.int x1), .val (.int x2), .val (.int lx), .val (.int ly), .val (.int f1), .val (.int f2), .val (.int md), .val (.ref b1), .val (.ref b33), .val (.int (0 : Int32))] [(.ref b1)]))
            refine own_fs (XS.aload X40.here hx rfl (hb hby at_197) rfl rfl (Steps.refl _)) ?_
            show own_G p.tables e below _ (T40.setTop (mkF m 199 #[.val (.int x0), .val (.int x1), .val (.int x2), .val (.int lx), .val (.int ly), .val (.int f1), .val (.int f2), .val (.int md), .val (.ref b1), .val (.ref b33), .val (.int (0 : Int32))] [(.ref b33), (.ref b1)]))
            have Zs48 : n0 ≤ h40.size := (Nat.le_trans (Nat.le_trans (Nat.le_trans (Nat.le_trans (Nat.le_trans (Nat.le_trans Z0 E1.1) K5.1) K8.1) E33.1) K37.1) K40.1)
            obtain ⟨cq47, kq47, q47a, q47b, q47c⟩ := isOf hZ e40 (((Exa.ext E33 ((A1.keep K5).keep K8)).keep K37).keep K40)
            obtain ⟨_, _, ⟨T47, L47, k47, n47⟩, -, X47, ⟨Lc47, hQ47, l47, y47, z47⟩, st47⟩ := X40.virtualBack hx (y := (⟨"com/example/diligent_tableau/diligenttableau/logic/ConceptName", "equals", "(Ljava/lang/Object;)Z"⟩ : MethodName)) (z := (⟨"com/example/diligent_tableau/diligenttableau/logic/ConceptName", "equals", "(Ljava/lang/Object;)Z"⟩ : MethodName)) hown (mvT hZ (hw _ (List.mem_of_getElem? (i := 56) rfl))) (mvT hZ (hw _ (List.mem_of_getElem? (i := 57) rfl))) (notFace_of_selects (args := #[]) (mvT hZ (hw _ (List.mem_of_getElem? (i := 59) rfl)))) (mvT hZ (hw _ (List.mem_of_getElem? (i := 59) rfl))) (mvT hZ (hw _ (List.mem_of_getElem? (i := 58) rfl))) (by decide) (backOf (W := 0) (own_eqcn l Z a0 hw [] b1 b33 (nar .boolean f1) (nar .boolean f2) ar3 ar35 tt3 tt35 kt3 kt35 (own_cs x0 lx) (own_cs x0 lx) cz h40 n0 Zs48 ((A33.keep K37).keep K40) (((Fld.ext E33 P7_1).keep K37 nin0).keep K40 (ninS (Nat.ne_of_lt (Nat.lt_of_lt_of_le (Exa.lt ((A1.keep K5).keep K8)) (Nat.le_of_eq g33.symm))) nin0)) P39_1 (((Fld.ext E33 P7_0).keep K37 nin0).keep K40 (ninS (Nat.ne_of_lt (Nat.lt_of_lt_of_le (Exa.lt ((A1.keep K5).keep K8)) (Nat.le_of_eq g33.symm))) nin0)) P39_0 (((Exa.ext E33 (P4_0.keep K8)).keep K37).keep K40) (((Fld.ext E33 (P4_1.keep K8 (ninS (Ne.symm (Nat.ne_of_lt (Nat.lt_of_lt_of_le (Exa.lt A1) P4_4))) nin0))).keep K37 nin0).keep K40 (ninS (Nat.ne_of_lt (Nat.lt_of_lt_of_le (Exa.lt (P4_0.keep K8)) (Nat.le_of_eq g33.symm))) nin0)) (((Fld.ext E33 (P4_2.keep K8 (ninS (Ne.symm (Nat.ne_of_lt (Nat.lt_of_lt_of_le (Exa.lt A1) P4_4))) nin0))).keep K37 nin0).keep K40 (ninS (Nat.ne_of_lt (Nat.lt_of_lt_of_le (Exa.lt (P4_0.keep K8)) (Nat.le_of_eq g33.symm))) nin0)) ((((P4_3.keep K8 (ninS (Ne.symm (Exa.neArv (A1.keep K5) P4_3 (hw _ (List.mem_of_getElem? (i := 1) rfl)))) nin0)).ext E33).keep K37 nin0).keep K40 (ninS (Nat.ne_of_lt (Nat.lt_of_lt_of_le (Arv.lt (P4_3.keep K8 (ninS (Ne.symm (Exa.neArv (A1.keep K5) P4_3 (hw _ (List.mem_of_getElem? (i := 1) rfl)))) nin0))) (Nat.le_of_eq g33.symm))) nin0)) (own_cs_rng x0 lx) (own_cs_len x0 lx) (P36_0.keep K40) (P36_1.keep K40 (ninS (Ne.symm (Nat.ne_of_lt (Nat.lt_of_lt_of_le (Exa.lt A33) P36_4))) nin0)) (P36_2.keep K40 (ninS (Ne.symm (Nat.ne_of_lt (Nat.lt_of_lt_of_le (Exa.lt A33) P36_4))) nin0)) (P36_3.keep K40 (ninS (Ne.symm (Exa.neArv (A33.keep K37) P36_3 (hw _ (List.mem_of_getElem? (i := 1) rfl)))) nin0)) (own_cs_rng x0 lx) (own_cs_len x0 lx) hSc hcz (Old.keep (Old.keep (Old.ext (Old.keep (Old.keep (Old.ext hOld E1) K5 all0) K8 (allS ge_b1 all0)) E33) K37 all0) K40 (allS ge_b33 all0))) hZ (hw _ (List.mem_of_getElem? (i := 60) rfl)) (hw _ (List.mem_of_getElem? (i := 2) rfl)) (by decide) (by decide)) q47a q47c (g := (mkF m 199 #[.val (.int x0), .val (.int x1), .val (.int x2), .val (.int lx), .val (.int ly), .val (.int f1), .val (.int f2), .val (.int md), .val (.ref b1), .val (.ref b33), .val (.int (0 : Int32))] [(.ref b33), (.ref b1)])) rfl (by rw [hml]; rfl) (Steps.refl _) (argsL := [(.ref b33)]) (rest := []) (lenOf own_pd3 rfl) rfl (by show 2 * 0 + _ ≤ _; exact Nat.le_of_eq rfl) (hb hby at_199) (fun _ _ => ⟨rfl, e40, (by decide : 14 + 0 ≤ _), (by decide : 28 + 0 ≤ _)⟩)
            dsimp only [Pt.U, Pt.locs, Pt.cells, Pt.slots] at X47 l47 y47 z47 st47 hQ47
            subst l47 y47 z47
            obtain ⟨rfl, Nq47, e47⟩ := hQ47
            have N47 := Fr.app N40 Nq47
            refine own_fs st47 ?_
            show own_G p.tables e below _ (T47.setTop (mkF m 202 #[.val (.int x0), .val (.int x1), .val (.int x2), .val (.int lx), .val (.int ly), .val (.int f1), .val (.int f2), .val (.int md), .val (.ref b1), .val (.ref b33), .val (.int (0 : Int32))] [(.int (own_eqc (nar .boolean f1) (nar .boolean f2) (own_cs x0 lx) (own_cs x0 lx)))]))
            refine own_fs (XS.iload X47.here hx rfl (hb hby at_202) rfl (Steps.refl _)) ?_
            show own_G p.tables e below _ (T47.setTop (mkF m 204 #[.val (.int x0), .val (.int x1), .val (.int x2), .val (.int lx), .val (.int ly), .val (.int f1), .val (.int f2), .val (.int md), .val (.ref b1), .val (.ref b33), .val (.int (0 : Int32))] [(.int (0 : Int32)), (.int (own_eqc (nar .boolean f1) (nar .boolean f2) (own_cs x0 lx) (own_cs x0 lx)))]))
            refine own_fs (XS.icmpNo X47.here hx rfl (hb hby at_204) rfl (XT.ii_ne_f (own_finC hf1 hf2 hc141)) (Steps.refl _)) ?_
            show own_G p.tables e below _ (T47.setTop (mkF m 207 #[.val (.int x0), .val (.int x1), .val (.int x2), .val (.int lx), .val (.int ly), .val (.int f1), .val (.int f2), .val (.int md), .val (.ref b1), .val (.ref b33), .val (.int (0 : Int32))] []))
            refine own_fs (XS.iconst X47.here hx rfl (hb hby at_207) (Steps.refl _)) ?_
            show own_G p.tables e below _ (T47.setTop (mkF m 208 #[.val (.int x0), .val (.int x1), .val (.int x2), .val (.int lx), .val (.int ly), .val (.int f1), .val (.int f2), .val (.int md), .val (.ref b1), .val (.ref b33), .val (.int (0 : Int32))] [(.int (1 : Int32))]))
            refine own_fs (XS.goto X47.here hx rfl (pc0 := 208) (pc' := 212) rfl (hb hby at_208) (by decide) (by decide) (Steps.refl _)) ?_
            show own_G p.tables e below _ (T47.setTop (mkF m 212 #[.val (.int x0), .val (.int x1), .val (.int x2), .val (.int lx), .val (.int ly), .val (.int f1), .val (.int f2), .val (.int md), .val (.ref b1), .val (.ref b33), .val (.int (0 : Int32))] [(.int (1 : Int32))]))
            exact own_retNW X47 hx (t := .boolean) Bd.returns hlk (by simp) (hb hby at_212) (by decide) (by decide) e47 hS37 (Nat.le_trans (Nat.le_refl _) K40.1) (by rw [hh]; exact RR42.trans (CHv.at X47 hZ hEL CH42)) ⟨rfl, N47⟩
        · refine own_fs (XS.icmpYes X8.here hx rfl (pc0 := 118) (pc' := 154) rfl (hb hby at_118) rfl (XT.ii_ne_t hc118) (by decide) (by decide) (Steps.refl _)) ?_
          show own_G p.tables e below _ (T8.setTop (mkF m 154 #[.val (.int x0), .val (.int x1), .val (.int x2), .val (.int lx), .val (.int ly), .val (.int f1), .val (.int f2), .val (.int md), .val (.ref b1), .unset, .unset] []))
          refine own_fs (XS.iload X8.here hx rfl (hb hby at_154) rfl (Steps.refl _)) ?_
          show own_G p.tables e below _ (T8.setTop (mkF m 156 #[.val (.int x0), .val (.int x1), .val (.int x2), .val (.int lx), .val (.int ly), .val (.int f1), .val (.int f2), .val (.int md), .val (.ref b1), .unset, .unset] [(.int md)]))
          refine own_fs (XS.iconst X8.here hx rfl (hb hby at_156) (Steps.refl _)) ?_
          show own_G p.tables e below _ (T8.setTop (mkF m 157 #[.val (.int x0), .val (.int x1), .val (.int x2), .val (.int lx), .val (.int ly), .val (.int f1), .val (.int f2), .val (.int md), .val (.ref b1), .unset, .unset] [(.int (2 : Int32)), (.int md)]))
          by_cases hc157 : md = (2 : Int32)
          · refine own_fs (XS.icmpNo X8.here hx rfl (hb hby at_157) rfl (XT.ii_ne_f hc157) (Steps.refl _)) ?_
            show own_G p.tables e below _ (T8.setTop (mkF m 160 #[.val (.int x0), .val (.int x1), .val (.int x2), .val (.int lx), .val (.int ly), .val (.int f1), .val (.int f2), .val (.int md), .val (.ref b1), .unset, .unset] []))
            obtain ⟨T49, h49, X49, e49, E49, A49, D49, -, st49⟩ := newO X8 hx hZ hown (hw _ (List.mem_of_getElem? (i := 73) rfl)) (hw _ (List.mem_of_getElem? (i := 74) rfl)) (hw _ (List.mem_of_getElem? (i := 75) rfl)) e8 (g := (mkF m 160 #[.val (.int x0), .val (.int x1), .val (.int x2), .val (.int lx), .val (.int ly), .val (.int f1), .val (.int f2), .val (.int md), .val (.ref b1), .unset, .unset] [])) rfl (hb hby at_160) (by decide) (by decide)
            obtain ⟨b49, g49⟩ : ∃ z, z = h8.size := ⟨_, rfl⟩
            rw [← g49] at A49 D49 st49
            have ge_b49 : n0 ≤ b49 := Nat.le_trans (Nat.le_trans (Nat.le_trans (Nat.le_trans Z0 E1.1) K5.1) K8.1) (Nat.le_of_eq g49.symm)
            have gz_b49 : h0.size ≤ b49 := Nat.le_trans (Nat.le_trans (Nat.le_trans (Nat.le_trans (Nat.le_refl _) E1.1) K5.1) K8.1) (Nat.le_of_eq g49.symm)
            have Sf_b49 : Safe Z own_EL T5.vm h8 b49 := Safe.new (Nat.le_of_eq g49.symm)
            have CH50 := CHv.ext E49 CH10
            have RR50 := CHr.trans RR10 (CHr.ext E49 CH10)
            have Sf50_b1 := Safe.ext E49 CH10 Sf10_b1
            have Sf50_b49 := Safe.ext E49 CH10 Sf_b49
            have F_name_b49 : Fld Z h49 b49 "com/example/diligent_tableau/diligenttableau/logic/NegatedName" "name" "Lcom/example/diligent_tableau/diligenttableau/logic/ConceptName;" .null := D49 (Or.inr (hw _ (List.mem_of_getElem? (i := 81) rfl))) (ty := (.object "com/example/diligent_tableau/diligenttableau/logic/ConceptName")) (by decide)
            refine own_fs (st49 _ (Steps.refl _)) ?_
            show own_G p.tables e below _ (T49.setTop (mkF m 163 #[.val (.int x0), .val (.int x1), .val (.int x2), .val (.int lx), .val (.int ly), .val (.int f1), .val (.int f2), .val (.int md), .val (.ref b1), .unset, .unset] [(.ref b49)]))
            refine own_fs (XS.dup X49.here hx rfl (hb hby at_163) rfl rfl (Steps.refl _)) ?_
            show own_G p.tables e below _ (T49.setTop (mkF m 164 #[.val (.int x0), .val (.int x1), .val (.int x2), .val (.int lx), .val (.int ly), .val (.int f1), .val (.int f2), .val (.int md), .val (.ref b1), .unset, .unset] [(.ref b49), (.ref b49)]))
            obtain ⟨T51, h51, X51, e51, E51, A51, D51, -, st51⟩ := newO X49 hx hZ hown (hw _ (List.mem_of_getElem? (i := 0) rfl)) (hw _ (List.mem_of_getElem? (i := 1) rfl)) (hw _ (List.mem_of_getElem? (i := 2) rfl)) e49 (g := (mkF m 164 #[.val (.int x0), .val (.int x1), .val (.int x2), .val (.int lx), .val (.int ly), .val (.int f1), .val (.int f2), .val (.int md), .val (.ref b1), .unset, .unset] [(.ref b49), (.ref b49)])) rfl (hb hby at_164) (by decide) (by decide)
            obtain ⟨b51, g51⟩ : ∃ z, z = h49.size := ⟨_, rfl⟩
            rw [← g51] at A51 D51 st51
            have ge_b51 : n0 ≤ b51 := Nat.le_trans (Nat.le_trans (Nat.le_trans (Nat.le_trans (Nat.le_trans Z0 E1.1) K5.1) K8.1) E49.1) (Nat.le_of_eq g51.symm)
            have gz_b51 : h0.size ≤ b51 := Nat.le_trans (Nat.le_trans (Nat.le_trans (Nat.le_trans (Nat.le_trans (Nat.le_refl _) E1.1) K5.1) K8.1) E49.1) (Nat.le_of_eq g51.symm)
            have Sf_b51 : Safe Z own_EL T5.vm h49 b51 := Safe.new (Nat.le_of_eq g51.symm)
            have CH52 := CHv.ext E51 CH50
            have RR52 := CHr.trans RR50 (CHr.ext E51 CH50)
            have Sf52_b1 := Safe.ext E51 CH50 Sf50_b1
            have Sf52_b49 := Safe.ext E51 CH50 Sf50_b49
            have Sf52_b51 := Safe.ext E51 CH50 Sf_b51
            have F_name_b51 : Fld Z h51 b51 "com/example/diligent_tableau/diligenttableau/logic/ConceptName" "name" "Ljava/lang/String;" .null := D51 (Or.inr (hw _ (List.mem_of_getElem? (i := 47) rfl))) (ty := (.object "java/lang/String")) (by decide)
            have F_fresh_b51 : Fld Z h51 b51 "com/example/diligent_tableau/diligenttableau/logic/ConceptName" "fresh" "Z" (.int (0 : Int32)) := D51 (Or.inr (hw _ (List.mem_of_getElem? (i := 49) rfl))) (ty := .boolean) (by decide)
            refine own_fs (st51 _ (Steps.refl _)) ?_
            show own_G p.tables e below _ (T51.setTop (mkF m 167 #[.val (.int x0), .val (.int x1), .val (.int x2), .val (.int lx), .val (.int ly), .val (.int f1), .val (.int f2), .val (.int md), .val (.ref b1), .unset, .unset] [(.ref b51), (.ref b49), (.ref b49)]))
            refine own_fs (XS.dup X51.here hx rfl (hb hby at_167) rfl rfl (Steps.refl _)) ?_
            show own_G p.tables e below _ (T51.setTop (mkF m 168 #[.val (.int x0), .val (.int x1), .val (.int x2), .val (.int lx), .val (.int ly), .val (.int f1), .val (.int f2), .val (.int md), .val (.ref b1), .unset, .unset] [(.ref b51), (.ref b51), (.ref b49), (.ref b49)]))
            refine own_fs (XS.iloadN X51.here hx rfl (hb hby at_168) rfl (Steps.refl _)) ?_
            show own_G p.tables e below _ (T51.setTop (mkF m 169 #[.val (.int x0), .val (.int x1), .val (.int x2), .val (.int lx), .val (.int ly), .val (.int f1), .val (.int f2), .val (.int md), .val (.ref b1), .unset, .unset] [(.int x0), (.ref b51), (.ref b51), (.ref b49), (.ref b49)]))
            refine own_fs (XS.iloadN X51.here hx rfl (hb hby at_169) rfl (Steps.refl _)) ?_
            show own_G p.tables e below _ (T51.setTop (mkF m 170 #[.val (.int x0), .val (.int x1), .val (.int x2), .val (.int lx), .val (.int ly), .val (.int f1), .val (.int f2), .val (.int md), .val (.ref b1), .unset, .unset] [(.int lx), (.int x0), (.ref b51), (.ref b51), (.ref b49), (.ref b49)]))
            have Zs56 : n0 ≤ h51.size := (Nat.le_trans (Nat.le_trans (Nat.le_trans (Nat.le_trans (Nat.le_trans Z0 E1.1) K5.1) K8.1) E49.1) E51.1)
            obtain ⟨_, _, ⟨T55, L55, k55, n55⟩, -, X55', hS55', gr55, ⟨Lc55, hQ55, l55, y55, z55, hR55⟩, st55⟩ := callSS X51 hx (y := (⟨"com/example/diligent_tableau/diligenttableau/logic/ConceptNameEqualsPinLaw", "str", "(II)Ljava/lang/String;"⟩ : MethodName)) hown (mvT hZ (hw _ (List.mem_of_getElem? (i := 3) rfl))) (mvT hZ (hw _ (List.mem_of_getElem? (i := 4) rfl))) (mvT hZ (hw _ (List.mem_of_getElem? (i := 5) rfl))) (mvT hZ (hw _ (List.mem_of_getElem? (i := 6) rfl))) (by decide) (backOfSH (s := s) (vm0 := T5.vm) (W := 4) (own_str l Z a0 hw [] x0 lx cz h51 n0 Zs56 hSc hcz (Old.ext (Old.ext (Old.keep (Old.keep (Old.ext hOld E1) K5 all0) K8 (allS ge_b1 all0)) E49) E51)) hZ (hw _ (List.mem_of_getElem? (i := 6) rfl)) (hw _ (List.mem_of_getElem? (i := 5) rfl)) (by decide) (by decide) hEL CH52) (g := (mkF m 170 #[.val (.int x0), .val (.int x1), .val (.int x2), .val (.int lx), .val (.int ly), .val (.int f1), .val (.int f2), .val (.int md), .val (.ref b1), .unset, .unset] [(.int lx), (.int x0), (.ref b51), (.ref b51), (.ref b49), (.ref b49)])) rfl (by rw [hml]; rfl) (argsL := [(.int x0), (.int lx)]) (rest := [(.ref b51), (.ref b51), (.ref b49), (.ref b49)]) (lenOf own_pd4 rfl) rfl (by show 2 * 0 + _ ≤ _; exact Nat.le_of_eq rfl) (hb hby at_170) (fun _ _ => ⟨rfl, e51, (by decide : 9 + 6 ≤ _), (by decide : 17 + 12 ≤ _)⟩)
            dsimp only [Pt.U, Pt.locs, Pt.cells, Pt.slots] at X55' hS55' gr55 l55 y55 z55 st55 hQ55 hR55
            subst l55 y55 z55
            obtain ⟨X55, hS55, hZ, hown⟩ := rebS hS5 (by rw [e51]; exact (Nat.le_trans (Nat.le_trans (Nat.le_trans (Nat.le_refl _) K8.1) E49.1) E51.1)) X55' hS55' gr55 hZ hown
            obtain ⟨h55, e55⟩ : ∃ h, T55.heap = h := ⟨_, rfl⟩
            rw [e55] at hQ55 hS55 hR55
            obtain ⟨ar53, tt53, kt53, rfl, Nq55, K55, P54_0, P54_1, P54_2, P54_3, P54_4⟩ := hQ55
            have Sf55_b1 := CHr.safe hR55 (Exa.lt (Exa.ext E51 (Exa.ext E49 ((A1.keep K5).keep K8)))) Sf52_b1
            have Sf55_b49 := CHr.safe hR55 (Exa.lt (Exa.ext E51 A49)) Sf52_b49
            have Sf55_b51 := CHr.safe hR55 (Exa.lt A51) Sf52_b51
            have RR55 := CHr.trans RR52 hR55
            have CH55 := hR55.1
            have N55 := Fr.app N8 Nq55
            have ge_ar53 : n0 ≤ ar53 := Nat.le_trans (Nat.le_trans (Nat.le_trans (Nat.le_trans (Nat.le_trans (Nat.le_trans Z0 E1.1) K5.1) K8.1) E49.1) E51.1) P54_4
            have gz_ar53 : h0.size ≤ ar53 := Nat.le_trans (Nat.le_trans (Nat.le_trans (Nat.le_trans (Nat.le_trans (Nat.le_trans (Nat.le_refl _) E1.1) K5.1) K8.1) E49.1) E51.1) P54_4
            refine own_fs st55 ?_
            show own_G p.tables e below _ (T55.setTop (mkF m 173 #[.val (.int x0), .val (.int x1), .val (.int x2), .val (.int lx), .val (.int ly), .val (.int f1), .val (.int f2), .val (.int md), .val (.ref b1), .unset, .unset] [(.ref ar53), (.ref b51), (.ref b51), (.ref b49), (.ref b49)]))
            refine own_fs (XS.iload X55.here hx rfl (hb hby at_173) rfl (Steps.refl _)) ?_
            show own_G p.tables e below _ (T55.setTop (mkF m 175 #[.val (.int x0), .val (.int x1), .val (.int x2), .val (.int lx), .val (.int ly), .val (.int f1), .val (.int f2), .val (.int md), .val (.ref b1), .unset, .unset] [(.int f1), (.ref ar53), (.ref b51), (.ref b51), (.ref b49), (.ref b49)]))
            have Zs59 : n0 ≤ h55.size := (Nat.le_trans (Nat.le_trans (Nat.le_trans (Nat.le_trans (Nat.le_trans (Nat.le_trans Z0 E1.1) K5.1) K8.1) E49.1) E51.1) K55.1)
            obtain ⟨_, _, ⟨T58, L58, k58, n58⟩, -, X58, ⟨Lc58, hQ58, l58, y58, z58⟩, st58⟩ := X55.specialBack hx (y := (⟨"com/example/diligent_tableau/diligenttableau/logic/ConceptName", "<init>", "(Ljava/lang/String;Z)V"⟩ : MethodName)) rfl hown (mvT hZ (hw _ (List.mem_of_getElem? (i := 37) rfl))) (mvT hZ (hw _ (List.mem_of_getElem? (i := 38) rfl))) (mvT hZ (hw _ (List.mem_of_getElem? (i := 39) rfl))) (by decide) (backOf (W := 3) (own_i_CN l Z a0 hw [] b51 ar53 f1 (.null) (0 : Int32) h55 n0 Zs59 (A51.keep K55) (F_name_b51.keep K55 nin0) (F_fresh_b51.keep K55 nin0) ge_b51) hZ (hw _ (List.mem_of_getElem? (i := 39) rfl)) (hw _ (List.mem_of_getElem? (i := 2) rfl)) (by decide) (by decide)) (g := (mkF m 175 #[.val (.int x0), .val (.int x1), .val (.int x2), .val (.int lx), .val (.int ly), .val (.int f1), .val (.int f2), .val (.int md), .val (.ref b1), .unset, .unset] [(.int f1), (.ref ar53), (.ref b51), (.ref b51), (.ref b49), (.ref b49)])) rfl (by rw [hml]; rfl) (Steps.refl _) (a := b51) (argsL := [(.ref ar53), (.int f1)]) (rest := [(.ref b51), (.ref b49), (.ref b49)]) (lenOf own_pd5 rfl) rfl (by show 2 * 0 + _ ≤ _; exact Nat.le_of_eq rfl) (hb hby at_175) (fun _ _ => ⟨rfl, e55, (by decide : 15 + 0 ≤ _), (by decide : 29 + 0 ≤ _)⟩)
            dsimp only [Pt.U, Pt.locs, Pt.cells, Pt.slots] at X58 l58 y58 z58 st58 hQ58
            subst l58 y58 z58
            obtain ⟨h58, e58⟩ : ∃ h, T58.heap = h := ⟨_, rfl⟩
            rw [e58] at hQ58
            obtain ⟨rfl, Nq58, K58, P57_0, P57_1⟩ := hQ58
            have CH60 := CHv.keep K58 (sfS (Safe.exa (vm := T55.vm) hZ.alike (A51.keep K55) (by decide) (by decide)) sf0) CH55
            have RR60 := CHr.trans RR55 (CHr.keep K58 (sfS (Safe.exa (vm := T55.vm) hZ.alike (A51.keep K55) (by decide) (by decide)) sf0) CH55)
            have Sf60_b1 := Safe.keep K58 (sfS (Safe.exa (vm := T55.vm) hZ.alike (A51.keep K55) (by decide) (by decide)) sf0) CH55 Sf55_b1
            have Sf60_b49 := Safe.keep K58 (sfS (Safe.exa (vm := T55.vm) hZ.alike (A51.keep K55) (by decide) (by decide)) sf0) CH55 Sf55_b49
            have Sf60_b51 := Safe.keep K58 (sfS (Safe.exa (vm := T55.vm) hZ.alike (A51.keep K55) (by decide) (by decide)) sf0) CH55 Sf55_b51
            have N58 := Fr.app N55 Nq58
            refine own_fs st58 ?_
            show own_G p.tables e below _ (T58.setTop (mkF m 178 #[.val (.int x0), .val (.int x1), .val (.int x2), .val (.int lx), .val (.int ly), .val (.int f1), .val (.int f2), .val (.int md), .val (.ref b1), .unset, .unset] [(.ref b51), (.ref b49), (.ref b49)]))
            have Zs63 : n0 ≤ h58.size := (Nat.le_trans (Nat.le_trans (Nat.le_trans (Nat.le_trans (Nat.le_trans (Nat.le_trans (Nat.le_trans Z0 E1.1) K5.1) K8.1) E49.1) E51.1) K55.1) K58.1)
            obtain ⟨_, _, ⟨T62, L62, k62, n62⟩, -, X62, ⟨Lc62, hQ62, l62, y62, z62⟩, st62⟩ := X58.specialBack hx (y := (⟨"com/example/diligent_tableau/diligenttableau/logic/NegatedName", "<init>", "(Lcom/example/diligent_tableau/diligenttableau/logic/ConceptName;)V"⟩ : MethodName)) rfl hown (mvT hZ (hw _ (List.mem_of_getElem? (i := 76) rfl))) (mvT hZ (hw _ (List.mem_of_getElem? (i := 77) rfl))) (mvT hZ (hw _ (List.mem_of_getElem? (i := 78) rfl))) (by decide) (backOf (W := 1) (own_i_NN l Z a0 hw [] b49 b51 (.null) h58 n0 Zs63 (((Exa.ext E51 A49).keep K55).keep K58) (((Fld.ext E51 F_name_b49).keep K55 nin0).keep K58 (ninS (Nat.ne_of_lt (Nat.lt_of_lt_of_le (Exa.lt A49) (Nat.le_of_eq g51.symm))) nin0)) ge_b49) hZ (hw _ (List.mem_of_getElem? (i := 78) rfl)) (hw _ (List.mem_of_getElem? (i := 75) rfl)) (by decide) (by decide)) (g := (mkF m 178 #[.val (.int x0), .val (.int x1), .val (.int x2), .val (.int lx), .val (.int ly), .val (.int f1), .val (.int f2), .val (.int md), .val (.ref b1), .unset, .unset] [(.ref b51), (.ref b49), (.ref b49)])) rfl (by rw [hml]; rfl) (Steps.refl _) (a := b49) (argsL := [(.ref b51)]) (rest := [(.ref b49)]) (lenOf own_pd7 rfl) rfl (by show 2 * 0 + _ ≤ _; exact Nat.le_of_eq rfl) (hb hby at_178) (fun _ _ => ⟨rfl, e58, (by decide : 15 + 0 ≤ _), (by decide : 29 + 0 ≤ _)⟩)
            dsimp only [Pt.U, Pt.locs, Pt.cells, Pt.slots] at X62 l62 y62 z62 st62 hQ62
            subst l62 y62 z62
            obtain ⟨h62, e62⟩ : ∃ h, T62.heap = h := ⟨_, rfl⟩
            rw [e62] at hQ62
            obtain ⟨rfl, Nq62, K62⟩ := hQ62
            have CH64 := CHv.keep K62 (sfS (Safe.exa (vm := T55.vm) hZ.alike (((Exa.ext E51 A49).keep K55).keep K58) (by decide) (by decide)) sf0) CH60
            have RR64 := CHr.trans RR60 (CHr.keep K62 (sfS (Safe.exa (vm := T55.vm) hZ.alike (((Exa.ext E51 A49).keep K55).keep K58) (by decide) (by decide)) sf0) CH60)
            have Sf64_b1 := Safe.keep K62 (sfS (Safe.exa (vm := T55.vm) hZ.alike (((Exa.ext E51 A49).keep K55).keep K58) (by decide) (by decide)) sf0) CH60 Sf60_b1
            have Sf64_b49 := Safe.keep K62 (sfS (Safe.exa (vm := T55.vm) hZ.alike (((Exa.ext E51 A49).keep K55).keep K58) (by decide) (by decide)) sf0) CH60 Sf60_b49
            have Sf64_b51 := Safe.keep K62 (sfS (Safe.exa (vm := T55.vm) hZ.alike (((Exa.ext E51 A49).keep K55).keep K58) (by decide) (by decide)) sf0) CH60 Sf60_b51
            have N62 := Fr.app N58 Nq62
            refine own_fs st62 ?_
            show own_G p.tables e below _ (T62.setTop (mkF m 181 #[.val (.int x0), .val (.int x1), .val (.int x2), .val (.int lx), .val (.int ly), .val (.int f1), .val (.int f2), .val (.int md), .val (.ref b1), .unset, .unset] [(.ref b49)]))
            refine own_fs (XS.astore X62.here hx rfl (hb hby at_181) rfl rfl (l' := #[.val (.int x0), .val (.int x1), .val (.int x2), .val (.int lx), .val (.int ly), .val (.int f1), .val (.int f2), .val (.int md), .val (.ref b1), .val (.ref b49), .unset]) rfl (Steps.refl _)) ?_
            show own_G p.tables e below _ (T62.setTop (mkF m 183 #[.val (.int x0), .val (.int x1), .val (.int x2), .val (.int lx), .val (.int ly), .val (.int f1), .val (.int f2), .val (.int md), .val (.ref b1), .val (.ref b49), .unset] []))
            refine own_fs (XS.iconst X62.here hx rfl (hb hby at_183) (Steps.refl _)) ?_
            show own_G p.tables e below _ (T62.setTop (mkF m 184 #[.val (.int x0), .val (.int x1), .val (.int x2), .val (.int lx), .val (.int ly), .val (.int f1), .val (.int f2), .val (.int md), .val (.ref b1), .val (.ref b49), .unset] [(.int (0 : Int32))]))
            refine own_fs (XS.istore X62.here hx rfl (hb hby at_184) rfl (l' := #[.val (.int x0), .val (.int x1), .val (.int x2), .val (.int lx), .val (.int ly), .val (.int f1), .val (.int f2), .val (.int md), .val (.ref b1), .val (.ref b49), .val (.int (0 : Int32))]) rfl (Steps.refl _)) ?_
            show own_G p.tables e below _ (T62.setTop (mkF m 186 #[.val (.int x0), .val (.int x1), .val (.int x2), .val (.int lx), .val (.int ly), .val (.int f1), .val (.int f2), .val (.int md), .val (.ref b1), .val (.ref b49), .val (.int (0 : Int32))] []))
            refine own_fs (XS.goto X62.here hx rfl (pc0 := 186) (pc' := 195) rfl (hb hby at_186) (by decide) (by decide) (Steps.refl _)) ?_
            show own_G p.tables e below _ (T62.setTop (mkF m 195 #[.val (.int x0), .val (.int x1), .val (.int x2), .val (.int lx), .val (.int ly), .val (.int f1), .val (.int f2), .val (.int md), .val (.ref b1), .val (.ref b49), .val (.int (0 : Int32))] []))
            refine own_fs (XS.aload X62.here hx rfl (hb hby at_195) rfl rfl (Steps.refl _)) ?_
            show own_G p.tables e below _ (T62.setTop (mkF m 197 #[.val (.int x0), .val (.int x1), .val (.int x2), .val (.int lx), .val (.int ly), .val (.int f1), .val (.int f2), .val (.int md), .val (.ref b1), .val (.ref b49), .val (.int (0 : Int32))] [(.ref b1)]))
            refine own_fs (XS.aload X62.here hx rfl (hb hby at_197) rfl rfl (Steps.refl _)) ?_
            show own_G p.tables e below _ (T62.setTop (mkF m 199 #[.val (.int x0), .val (.int x1), .val (.int x2), .val (.int lx), .val (.int ly), .val (.int f1), .val (.int f2), .val (.int md), .val (.ref b1), .val (.ref b49), .val (.int (0 : Int32))] [(.ref b49), (.ref b1)]))
            have Zs67 : n0 ≤ h62.size := (Nat.le_trans (Nat.le_trans (Nat.le_trans (Nat.le_trans (Nat.le_trans (Nat.le_trans (Nat.le_trans (Nat.le_trans Z0 E1.1) K5.1) K8.1) E49.1) E51.1) K55.1) K58.1) K62.1)
            obtain ⟨cq66, kq66, q66a, q66b, q66c⟩ := isOf hZ e62 ((((Exa.ext E51 (Exa.ext E49 ((A1.keep K5).keep K8))).keep K55).keep K58).keep K62)
            obtain ⟨_, _, ⟨T66, L66, k66, n66⟩, -, X66, ⟨Lc66, hQ66, l66, y66, z66⟩, st66⟩ := X62.virtualBack hx (y := (⟨"com/example/diligent_tableau/diligenttableau/logic/ConceptName", "equals", "(Ljava/lang/Object;)Z"⟩ : MethodName)) (z := (⟨"com/example/diligent_tableau/diligenttableau/logic/ConceptName", "equals", "(Ljava/lang/Object;)Z"⟩ : MethodName)) hown (mvT hZ (hw _ (List.mem_of_getElem? (i := 56) rfl))) (mvT hZ (hw _ (List.mem_of_getElem? (i := 57) rfl))) (notFace_of_selects (args := #[]) (mvT hZ (hw _ (List.mem_of_getElem? (i := 59) rfl)))) (mvT hZ (hw _ (List.mem_of_getElem? (i := 59) rfl))) (mvT hZ (hw _ (List.mem_of_getElem? (i := 58) rfl))) (by decide) (backOf (W := 0) (own_eqneg l Z a0 hw [] b1 b49 h62 n0 Zs67 ((((Exa.ext E51 A49).keep K55).keep K58).keep K62)) hZ (hw _ (List.mem_of_getElem? (i := 60) rfl)) (hw _ (List.mem_of_getElem? (i := 2) rfl)) (by decide) (by decide)) q66a q66c (g := (mkF m 199 #[.val (.int x0), .val (.int x1), .val (.int x2), .val (.int lx), .val (.int ly), .val (.int f1), .val (.int f2), .val (.int md), .val (.ref b1), .val (.ref b49), .val (.int (0 : Int32))] [(.ref b49), (.ref b1)])) rfl (by rw [hml]; rfl) (Steps.refl _) (argsL := [(.ref b49)]) (rest := []) (lenOf own_pd3 rfl) rfl (by show 2 * 0 + _ ≤ _; exact Nat.le_of_eq rfl) (hb hby at_199) (fun _ _ => ⟨rfl, e62, (by decide : 15 + 0 ≤ _), (by decide : 29 + 0 ≤ _)⟩)
            dsimp only [Pt.U, Pt.locs, Pt.cells, Pt.slots] at X66 l66 y66 z66 st66 hQ66
            subst l66 y66 z66
            obtain ⟨rfl, Nq66, e66⟩ := hQ66
            have N66 := Fr.app N62 Nq66
            refine own_fs st66 ?_
            show own_G p.tables e below _ (T66.setTop (mkF m 202 #[.val (.int x0), .val (.int x1), .val (.int x2), .val (.int lx), .val (.int ly), .val (.int f1), .val (.int f2), .val (.int md), .val (.ref b1), .val (.ref b49), .val (.int (0 : Int32))] [(.int (0 : Int32))]))
            refine own_fs (XS.iload X66.here hx rfl (hb hby at_202) rfl (Steps.refl _)) ?_
            show own_G p.tables e below _ (T66.setTop (mkF m 204 #[.val (.int x0), .val (.int x1), .val (.int x2), .val (.int lx), .val (.int ly), .val (.int f1), .val (.int f2), .val (.int md), .val (.ref b1), .val (.ref b49), .val (.int (0 : Int32))] [(.int (0 : Int32)), (.int (0 : Int32))]))
            refine own_fs (XS.icmpNo X66.here hx rfl (hb hby at_204) rfl (XT.ii_ne_f (by decide : (0 : Int32) = (0 : Int32))) (Steps.refl _)) ?_
            show own_G p.tables e below _ (T66.setTop (mkF m 207 #[.val (.int x0), .val (.int x1), .val (.int x2), .val (.int lx), .val (.int ly), .val (.int f1), .val (.int f2), .val (.int md), .val (.ref b1), .val (.ref b49), .val (.int (0 : Int32))] []))
            refine own_fs (XS.iconst X66.here hx rfl (hb hby at_207) (Steps.refl _)) ?_
            show own_G p.tables e below _ (T66.setTop (mkF m 208 #[.val (.int x0), .val (.int x1), .val (.int x2), .val (.int lx), .val (.int ly), .val (.int f1), .val (.int f2), .val (.int md), .val (.ref b1), .val (.ref b49), .val (.int (0 : Int32))] [(.int (1 : Int32))]))
            refine own_fs (XS.goto X66.here hx rfl (pc0 := 208) (pc' := 212) rfl (hb hby at_208) (by decide) (by decide) (Steps.refl _)) ?_
            show own_G p.tables e below _ (T66.setTop (mkF m 212 #[.val (.int x0), .val (.int x1), .val (.int x2), .val (.int lx), .val (.int ly), .val (.int f1), .val (.int f2), .val (.int md), .val (.ref b1), .val (.ref b49), .val (.int (0 : Int32))] [(.int (1 : Int32))]))
            exact own_retNW X66 hx (t := .boolean) Bd.returns hlk (by simp) (hb hby at_212) (by decide) (by decide) e66 hS55 (Nat.le_trans (Nat.le_trans (Nat.le_refl _) K58.1) K62.1) (by rw [hh]; exact RR64.trans (CHv.at X66 hZ hEL CH64)) ⟨rfl, N66⟩
          · refine own_fs (XS.icmpYes X8.here hx rfl (pc0 := 157) (pc' := 189) rfl (hb hby at_157) rfl (XT.ii_ne_t hc157) (by decide) (by decide) (Steps.refl _)) ?_
            show own_G p.tables e below _ (T8.setTop (mkF m 189 #[.val (.int x0), .val (.int x1), .val (.int x2), .val (.int lx), .val (.int ly), .val (.int f1), .val (.int f2), .val (.int md), .val (.ref b1), .unset, .unset] []))
            refine own_fs (XS.aconstNull X8.here hx rfl (hb hby at_189) (Steps.refl _)) ?_
            show own_G p.tables e below _ (T8.setTop (mkF m 190 #[.val (.int x0), .val (.int x1), .val (.int x2), .val (.int lx), .val (.int ly), .val (.int f1), .val (.int f2), .val (.int md), .val (.ref b1), .unset, .unset] [.null]))
            refine own_fs (XS.astore X8.here hx rfl (hb hby at_190) rfl rfl (l' := #[.val (.int x0), .val (.int x1), .val (.int x2), .val (.int lx), .val (.int ly), .val (.int f1), .val (.int f2), .val (.int md), .val (.ref b1), .val .null, .unset]) rfl (Steps.refl _)) ?_
            show own_G p.tables e below _ (T8.setTop (mkF m 192 #[.val (.int x0), .val (.int x1), .val (.int x2), .val (.int lx), .val (.int ly), .val (.int f1), .val (.int f2), .val (.int md), .val (.ref b1), .val .null, .unset] []))
            refine own_fs (XS.iconst X8.here hx rfl (hb hby at_192) (Steps.refl _)) ?_
            show own_G p.tables e below _ (T8.setTop (mkF m 193 #[.val (.int x0), .val (.int x1), .val (.int x2), .val (.int lx), .val (.int ly), .val (.int f1), .val (.int f2), .val (.int md), .val (.ref b1), .val .null, .unset] [(.int (0 : Int32))]))
            refine own_fs (XS.istore X8.here hx rfl (hb hby at_193) rfl (l' := #[.val (.int x0), .val (.int x1), .val (.int x2), .val (.int lx), .val (.int ly), .val (.int f1), .val (.int f2), .val (.int md), .val (.ref b1), .val .null, .val (.int (0 : Int32))]) rfl (Steps.refl _)) ?_
            show own_G p.tables e below _ (T8.setTop (mkF m 195 #[.val (.int x0), .val (.int x1), .val (.int x2), .val (.int lx), .val (.int ly), .val (.int f1), .val (.int f2), .val (.int md), .val (.ref b1), .val .null, .val (.int (0 : Int32))] []))
            refine own_fs (XS.aload X8.here hx rfl (hb hby at_195) rfl rfl (Steps.refl _)) ?_
            show own_G p.tables e below _ (T8.setTop (mkF m 197 #[.val (.int x0), .val (.int x1), .val (.int x2), .val (.int lx), .val (.int ly), .val (.int f1), .val (.int f2), .val (.int md), .val (.ref b1), .val .null, .val (.int (0 : Int32))] [(.ref b1)]))
            refine own_fs (XS.aload X8.here hx rfl (hb hby at_197) rfl rfl (Steps.refl _)) ?_
            show own_G p.tables e below _ (T8.setTop (mkF m 199 #[.val (.int x0), .val (.int x1), .val (.int x2), .val (.int lx), .val (.int ly), .val (.int f1), .val (.int f2), .val (.int md), .val (.ref b1), .val .null, .val (.int (0 : Int32))] [.null, (.ref b1)]))
            have Zs70 : n0 ≤ h8.size := (Nat.le_trans (Nat.le_trans (Nat.le_trans Z0 E1.1) K5.1) K8.1)
            obtain ⟨cq69, kq69, q69a, q69b, q69c⟩ := isOf hZ e8 ((A1.keep K5).keep K8)
            obtain ⟨_, _, ⟨T69, L69, k69, n69⟩, -, X69, ⟨Lc69, hQ69, l69, y69, z69⟩, st69⟩ := X8.virtualBack hx (y := (⟨"com/example/diligent_tableau/diligenttableau/logic/ConceptName", "equals", "(Ljava/lang/Object;)Z"⟩ : MethodName)) (z := (⟨"com/example/diligent_tableau/diligenttableau/logic/ConceptName", "equals", "(Ljava/lang/Object;)Z"⟩ : MethodName)) hown (mvT hZ (hw _ (List.mem_of_getElem? (i := 56) rfl))) (mvT hZ (hw _ (List.mem_of_getElem? (i := 57) rfl))) (notFace_of_selects (args := #[]) (mvT hZ (hw _ (List.mem_of_getElem? (i := 59) rfl)))) (mvT hZ (hw _ (List.mem_of_getElem? (i := 59) rfl))) (mvT hZ (hw _ (List.mem_of_getElem? (i := 58) rfl))) (by decide) (backOf (W := 0) (own_eqnull l Z a0 hw [] b1 h8 n0 Zs70 ) hZ (hw _ (List.mem_of_getElem? (i := 60) rfl)) (hw _ (List.mem_of_getElem? (i := 2) rfl)) (by decide) (by decide)) q69a q69c (g := (mkF m 199 #[.val (.int x0), .val (.int x1), .val (.int x2), .val (.int lx), .val (.int ly), .val (.int f1), .val (.int f2), .val (.int md), .val (.ref b1), .val .null, .val (.int (0 : Int32))] [.null, (.ref b1)])) rfl (by rw [hml]; rfl) (Steps.refl _) (argsL := [.null]) (rest := []) (lenOf own_pd3 rfl) rfl (by show 2 * 0 + _ ≤ _; exact Nat.le_of_eq rfl) (hb hby at_199) (fun _ _ => ⟨rfl, e8, (by decide : 7 + 0 ≤ _), (by decide : 14 + 0 ≤ _)⟩)
            dsimp only [Pt.U, Pt.locs, Pt.cells, Pt.slots] at X69 l69 y69 z69 st69 hQ69
            subst l69 y69 z69
            obtain ⟨rfl, Nq69, e69⟩ := hQ69
            have N69 := Fr.app N8 Nq69
            refine own_fs st69 ?_
            show own_G p.tables e below _ (T69.setTop (mkF m 202 #[.val (.int x0), .val (.int x1), .val (.int x2), .val (.int lx), .val (.int ly), .val (.int f1), .val (.int f2), .val (.int md), .val (.ref b1), .val .null, .val (.int (0 : Int32))] [(.int (0 : Int32))]))
            refine own_fs (XS.iload X69.here hx rfl (hb hby at_202) rfl (Steps.refl _)) ?_
            show own_G p.tables e below _ (T69.setTop (mkF m 204 #[.val (.int x0), .val (.int x1), .val (.int x2), .val (.int lx), .val (.int ly), .val (.int f1), .val (.int f2), .val (.int md), .val (.ref b1), .val .null, .val (.int (0 : Int32))] [(.int (0 : Int32)), (.int (0 : Int32))]))
            refine own_fs (XS.icmpNo X69.here hx rfl (hb hby at_204) rfl (XT.ii_ne_f (by decide : (0 : Int32) = (0 : Int32))) (Steps.refl _)) ?_
            show own_G p.tables e below _ (T69.setTop (mkF m 207 #[.val (.int x0), .val (.int x1), .val (.int x2), .val (.int lx), .val (.int ly), .val (.int f1), .val (.int f2), .val (.int md), .val (.ref b1), .val .null, .val (.int (0 : Int32))] []))
            refine own_fs (XS.iconst X69.here hx rfl (hb hby at_207) (Steps.refl _)) ?_
            show own_G p.tables e below _ (T69.setTop (mkF m 208 #[.val (.int x0), .val (.int x1), .val (.int x2), .val (.int lx), .val (.int ly), .val (.int f1), .val (.int f2), .val (.int md), .val (.ref b1), .val .null, .val (.int (0 : Int32))] [(.int (1 : Int32))]))
            refine own_fs (XS.goto X69.here hx rfl (pc0 := 208) (pc' := 212) rfl (hb hby at_208) (by decide) (by decide) (Steps.refl _)) ?_
            show own_G p.tables e below _ (T69.setTop (mkF m 212 #[.val (.int x0), .val (.int x1), .val (.int x2), .val (.int lx), .val (.int ly), .val (.int f1), .val (.int f2), .val (.int md), .val (.ref b1), .val .null, .val (.int (0 : Int32))] [(.int (1 : Int32))]))
            exact own_retNW X69 hx (t := .boolean) Bd.returns hlk (by simp) (hb hby at_212) (by decide) (by decide) e69 hS5 (Nat.le_trans (Nat.le_refl _) K8.1) (by rw [hh]; exact RR10.trans (CHv.at X69 hZ hEL CH10)) ⟨rfl, N69⟩
    show own_G p.tables e below _ (s₁.setTop (mkF m 26 #[.val (.int x0), .val (.int x1), .val (.int x2), .val (.int lx), .val (.int ly), .val (.int f1), .unset, .unset, .unset, .unset, .unset] []))
    refine own_fs (XS.iloadN X0.here hx rfl (hb hby at_26) rfl (Steps.refl _)) ?_
    show own_G p.tables e below _ (s₁.setTop (mkF m 27 #[.val (.int x0), .val (.int x1), .val (.int x2), .val (.int lx), .val (.int ly), .val (.int f1), .unset, .unset, .unset, .unset, .unset] [(.int x2)]))
    refine own_fs (XS.iconst X0.here hx rfl (hb hby at_27) (Steps.refl _)) ?_
    show own_G p.tables e below _ (s₁.setTop (mkF m 28 #[.val (.int x0), .val (.int x1), .val (.int x2), .val (.int lx), .val (.int ly), .val (.int f1), .unset, .unset, .unset, .unset, .unset] [(.int (5 : Int32)), (.int x2)]))
    refine own_fs (XS.iushr X0.here hx rfl (hb hby at_28) rfl (Steps.refl _)) ?_
    show own_G p.tables e below _ (s₁.setTop (mkF m 29 #[.val (.int x0), .val (.int x1), .val (.int x2), .val (.int lx), .val (.int ly), .val (.int f1), .unset, .unset, .unset, .unset, .unset] [(.int ((x2.toUInt32 >>> ((5 : Int32) &&& 31).toUInt32).toInt32))]))
    refine own_fs (XS.iconst X0.here hx rfl (hb hby at_29) (Steps.refl _)) ?_
    show own_G p.tables e below _ (s₁.setTop (mkF m 30 #[.val (.int x0), .val (.int x1), .val (.int x2), .val (.int lx), .val (.int ly), .val (.int f1), .unset, .unset, .unset, .unset, .unset] [(.int (1 : Int32)), (.int ((x2.toUInt32 >>> ((5 : Int32) &&& 31).toUInt32).toInt32))]))
    refine own_fs (XS.iand X0.here hx rfl (hb hby at_30) rfl (Steps.refl _)) ?_
    show own_G p.tables e below _ (s₁.setTop (mkF m 31 #[.val (.int x0), .val (.int x1), .val (.int x2), .val (.int lx), .val (.int ly), .val (.int f1), .unset, .unset, .unset, .unset, .unset] [(.int (((x2.toUInt32 >>> ((5 : Int32) &&& 31).toUInt32).toInt32) &&& (1 : Int32)))]))
    by_cases hc31 : (((x2.toUInt32 >>> ((5 : Int32) &&& 31).toUInt32).toInt32) &&& (1 : Int32)) = (0 : Int32)
    · refine own_fs (XS.ifYes X0.here hx rfl (pc0 := 31) (pc' := 38) rfl (hb hby at_31) rfl (XT.i0_eq_t hc31) (by decide) (by decide) (Steps.refl _)) ?_
      show own_G p.tables e below _ (s₁.setTop (mkF m 38 #[.val (.int x0), .val (.int x1), .val (.int x2), .val (.int lx), .val (.int ly), .val (.int f1), .unset, .unset, .unset, .unset, .unset] []))
      refine own_fs (XS.iconst X0.here hx rfl (hb hby at_38) (Steps.refl _)) ?_
      exact J39 _ (Or.inl rfl)
    · refine own_fs (XS.ifNo X0.here hx rfl (hb hby at_31) rfl (XT.i0_eq_f hc31) (Steps.refl _)) ?_
      show own_G p.tables e below _ (s₁.setTop (mkF m 34 #[.val (.int x0), .val (.int x1), .val (.int x2), .val (.int lx), .val (.int ly), .val (.int f1), .unset, .unset, .unset, .unset, .unset] []))
      refine own_fs (XS.iconst X0.here hx rfl (hb hby at_34) (Steps.refl _)) ?_
      show own_G p.tables e below _ (s₁.setTop (mkF m 35 #[.val (.int x0), .val (.int x1), .val (.int x2), .val (.int lx), .val (.int ly), .val (.int f1), .unset, .unset, .unset, .unset, .unset] [(.int (1 : Int32))]))
      refine own_fs (XS.goto X0.here hx rfl (pc0 := 35) (pc' := 39) rfl (hb hby at_35) (by decide) (by decide) (Steps.refl _)) ?_
      exact J39 _ (Or.inr rfl)
  show own_G p.tables e below _ (s₁.setTop (mkF m 11 #[.val (.int x0), .val (.int x1), .val (.int x2), .val (.int lx), .val (.int ly), .unset, .unset, .unset, .unset, .unset, .unset] []))
  refine own_fs (XS.iloadN X0.here hx rfl (hb hby at_11) rfl (Steps.refl _)) ?_
  show own_G p.tables e below _ (s₁.setTop (mkF m 12 #[.val (.int x0), .val (.int x1), .val (.int x2), .val (.int lx), .val (.int ly), .unset, .unset, .unset, .unset, .unset, .unset] [(.int x2)]))
  refine own_fs (XS.iconst X0.here hx rfl (hb hby at_12) (Steps.refl _)) ?_
  show own_G p.tables e below _ (s₁.setTop (mkF m 13 #[.val (.int x0), .val (.int x1), .val (.int x2), .val (.int lx), .val (.int ly), .unset, .unset, .unset, .unset, .unset, .unset] [(.int (4 : Int32)), (.int x2)]))
  refine own_fs (XS.iushr X0.here hx rfl (hb hby at_13) rfl (Steps.refl _)) ?_
  show own_G p.tables e below _ (s₁.setTop (mkF m 14 #[.val (.int x0), .val (.int x1), .val (.int x2), .val (.int lx), .val (.int ly), .unset, .unset, .unset, .unset, .unset, .unset] [(.int ((x2.toUInt32 >>> ((4 : Int32) &&& 31).toUInt32).toInt32))]))
  refine own_fs (XS.iconst X0.here hx rfl (hb hby at_14) (Steps.refl _)) ?_
  show own_G p.tables e below _ (s₁.setTop (mkF m 15 #[.val (.int x0), .val (.int x1), .val (.int x2), .val (.int lx), .val (.int ly), .unset, .unset, .unset, .unset, .unset, .unset] [(.int (1 : Int32)), (.int ((x2.toUInt32 >>> ((4 : Int32) &&& 31).toUInt32).toInt32))]))
  refine own_fs (XS.iand X0.here hx rfl (hb hby at_15) rfl (Steps.refl _)) ?_
  show own_G p.tables e below _ (s₁.setTop (mkF m 16 #[.val (.int x0), .val (.int x1), .val (.int x2), .val (.int lx), .val (.int ly), .unset, .unset, .unset, .unset, .unset, .unset] [(.int (((x2.toUInt32 >>> ((4 : Int32) &&& 31).toUInt32).toInt32) &&& (1 : Int32)))]))
  by_cases hc16 : (((x2.toUInt32 >>> ((4 : Int32) &&& 31).toUInt32).toInt32) &&& (1 : Int32)) = (0 : Int32)
  · refine own_fs (XS.ifYes X0.here hx rfl (pc0 := 16) (pc' := 23) rfl (hb hby at_16) rfl (XT.i0_eq_t hc16) (by decide) (by decide) (Steps.refl _)) ?_
    show own_G p.tables e below _ (s₁.setTop (mkF m 23 #[.val (.int x0), .val (.int x1), .val (.int x2), .val (.int lx), .val (.int ly), .unset, .unset, .unset, .unset, .unset, .unset] []))
    refine own_fs (XS.iconst X0.here hx rfl (hb hby at_23) (Steps.refl _)) ?_
    exact J24 _ (Or.inl rfl)
  · refine own_fs (XS.ifNo X0.here hx rfl (hb hby at_16) rfl (XT.i0_eq_f hc16) (Steps.refl _)) ?_
    show own_G p.tables e below _ (s₁.setTop (mkF m 19 #[.val (.int x0), .val (.int x1), .val (.int x2), .val (.int lx), .val (.int ly), .unset, .unset, .unset, .unset, .unset, .unset] []))
    refine own_fs (XS.iconst X0.here hx rfl (hb hby at_19) (Steps.refl _)) ?_
    show own_G p.tables e below _ (s₁.setTop (mkF m 20 #[.val (.int x0), .val (.int x1), .val (.int x2), .val (.int lx), .val (.int ly), .unset, .unset, .unset, .unset, .unset, .unset] [(.int (1 : Int32))]))
    refine own_fs (XS.goto X0.here hx rfl (pc0 := 20) (pc' := 24) rfl (hb hby at_20) (by decide) (by decide) (Steps.refl _)) ?_
    exact J24 _ (Or.inr rfl)
set_option maxRecDepth 65536 in
set_option maxHeartbeats 40000000 in
theorem comes_1 {Post : Tables → Env → Array Value → State → Outcome → State → Prop} (hpost : ∀ tb e args s v u, (limb_1_1.after args s (.returned v) u = true ∧ limb_1_2.after args s (.returned v) u = true ∧ True) → Jvm.D.FramedW s (.returned v) u (Jvm.fieldLocs frame_1_writes args s ++ Jvm.arrayLocs frame_1_arrays args s ++ Jvm.staticLocs frame_1_statics s) 32 1152 → Post tb e args s (.returned v) u) :
    ArmFor flags0 classFile x code maxLocals ret World_1 tables_1 room_1 Calls_1 rest_1 Pre_1 Post := by
  intro l hfl _ _ p e ha hc hk s m args below hf hA hF happ hP
  obtain ⟨hcalls, hrest, hpre⟩ := hP
  obtain ⟨-, -, -, hnamed, -, -, -, hat⟩ := (Spec.applies_iff hf).mp happ
  obtain ⟨hg, hn⟩ := and_e (Cond.before_iff.mp (show (Jvm.Cond.and given_1 narrow_1).before args s = true from hpre))
  obtain ⟨hcount, hg0⟩ := and_e hg
  obtain ⟨ga0, hg1⟩ := and_e hg0
  obtain ⟨ga1, hg2⟩ := and_e hg1
  obtain ⟨w0, w1, w2, rfl⟩ : ∃ w0 w1 w2 : Value, args = #[w0, w1, w2] := by
    have hs : args.size = 3 := by simpa [Cond.value, given_1] using hcount
    obtain ⟨L⟩ := args
    match L, hs with
    | [w0, w1, w2], _ => exact ⟨w0, w1, w2, rfl⟩
  have hw := fun d (hd : d ∈ tables_1) => atoms_spec (ws := Jvm.Cond.code x code maxLocals ret :: tables_1) hat d (List.mem_cons_of_mem _ hd)
  have hfit : Fit s := fun {y c} hc i hi => by
    obtain ⟨ha, rfl⟩ := Array.getElem?_eq_some_iff.mp hc
    have q := List.all_eq_true.mp ((Array.all_eq_true_iff_forall_mem.mp hF) _ (Array.getElem_mem ha)) i (List.mem_range.mpr hi)
    simpa [Array.getElem?_eq_getElem hi] using q
  obtain ⟨hsets, hown0⟩ := atoms_of _ (rest_1_c_eq ▸ (show rest_1_c.before _ s = true from hrest))
  have hr0 := Cond.before_iff.mp hown0
  obtain ⟨i0, ei0⟩ := is_v ga0
  obtain rfl : w0 = (.int i0) := Option.some.inj ei0
  obtain ⟨i1, ei1⟩ := is_v ga1
  obtain rfl : w1 = (.int i1) := Option.some.inj ei1
  obtain ⟨i2, ei2⟩ := is_v hg2
  obtain rfl : w2 = (.int i2) := Option.some.inj ei2
  obtain ⟨cz, eCz⟩ := is_v (Cond.before_iff.mp (hsets _ (List.mem_of_getElem? (i := 1) rfl)))
  have hSc : Sta s s.heap "java/lang/String" "COMPACT_STRINGS" "Z" (.int cz) := Sta.start eCz (Or.inl (hsets _ (List.mem_of_getElem? (i := 0) rfl)))
  have hcz : ¬ (cz = (0 : Int32)) := gotF (Cond.eq_ints eCz (Term.int_eval (0))) (not_v (Cond.before_iff.mp (hsets _ (List.mem_of_getElem? (i := 2) rfl))))
  have hCH : CHv s own_EL s.vm s.heap := CHv.start (own_ew hw) hcalls.1 (show Jvm.Lit.compactW.before _ s = true from (hsets _ (List.mem_of_getElem? (i := 2) rfl))) (hw _ (List.mem_of_getElem? (i := 26) rfl)) (hw _ (List.mem_of_getElem? (i := 8) rfl))
  obtain ⟨n, o, h1, h2, h3, _, L, rfl, ⟨rfl, N⟩, -, hq⟩ := own_law l s _ hw tables_1 i0 i1 i2 cz s.heap s.heap.size (Nat.le_refl _) hSc hcz (Old.start s) p e ha hc hk s m _ below hf ((Spec.applies_iff_loose hf).mp happ).1 ⟨rfl, State.Warmed39.refl s, rfl, hCH⟩ trivial
  refine ⟨n, _, h1, h2, h3, hpost _ _ _ _ _ _ ⟨Cond.after_iff.mpr rfl, Cond.after_iff.mpr (eq_i res_at (Term.int_eval (1)) rfl), trivial⟩ ⟨hq.1, hq.2.1, hq.2.2.1, (hq.2.2.2.sift fun y hy => Or.inr (N y hy)).mono (by decide) (by decide)⟩⟩
theorem main_1_1 : Claimed_1_1 := comes_1 fun _ _ _ _ _ _ h hF => ⟨h.1, hF⟩
theorem main_1_2 : Claimed_1_2 := comes_1 fun _ _ _ _ _ _ h hF => ⟨h.2.1, hF⟩
end Jvm.Pilot.@@N@@
namespace Jvm.Pilot.@@N@@
open Jvm Jvm.ClassFile Sem Op Lib Jvm.Free Jvm.Stand Jvm.Pilot.@@N@@.Jvm.D
/-! MADE BY PROGRAM (witnessworld.py) out of the Statement's table words and the real class files: 24 classes; the members and pool entries that the words name. The judged class is class 1, her method 3. -/
namespace start1
open Jvm.ClassFile
def u (s : String) : CpInfo := .utf8 (stringToUtf16 s)
/-- a pool by its gaps: so many unusable entries, then the entry; so many at the end -/
def gap : Nat → List CpInfo → List CpInfo
  | 0, r => r
  | n + 1, r => .unusable :: gap n r
def poolList (es : List (Nat × CpInfo)) (last : Nat) : List CpInfo := es.foldr (fun e r => gap e.1 (e.2 :: r)) (gap last [])
def pool (es : List (Nat × CpInfo)) (last : Nat) : Array CpInfo := ⟨poolList es last⟩
def fileOf (pool : Array CpInfo) (this : Nat) (attrs : Array Attribute := #[]) (ms : Array MethodInfo := #[]) (fl : Nat := 33) (sup : Nat := 0) (ifs : Array Nat := #[]) (fds : Array FieldInfo := #[]) : ClassFile where
  minorVersion := 0
  majorVersion := 65
  constantPool := pool
  accessFlags := fl
  thisClass := this
  superClass := sup
  interfaces := ifs
  fields := fds
  methods := ms
  attributes := attrs
def plain (name : String) (sup : Option ClassId) : Class where
  name := name
  kind := .ordinary
  loader := none
  accessFlags := 33
  super := sup
  interfaces := #[]
  cf := none
  fields := #[]
  methods := #[]
  instanceTypes := #[]
  staticTypes := #[]
  resolved := #[]
  callSites := []
  init := .initialized
  statics := none
  mirror := none

def pool0 : Array CpInfo := pool [(5, u "<init>"), (0, u "()V"), (1, .class_ 10), (1, u "java/lang/Object")] 113

def k0c0 : Code := { maxStack := 0, maxLocals := 1, code := object_method_1_code, exceptionTable := #[], attributes := #[] }
def k0m0 : Method := { name := "<init>", desc := "()V", sig := { parameters := [], returnType := none }, accessFlags := 1, code := some k0c0 }
/-- java/lang/Object -/
def k0 : Class := { plain "java/lang/Object" none with
  accessFlags := 33
  interfaces := #[]
  cf := some (fileOf pool0 8 #[] #[{ accessFlags := 1, nameIndex := 5, descriptorIndex := 6, attributes := #[] }] 33 0 #[] #[])
  fields := #[]
  methods := #[k0m0]
  instanceTypes := #[]
  staticTypes := #[]
  resolved := Array.replicate 124 none
  statics := none }

def pool1 : Array CpInfo := pool [(2, .class_ 4), (1, u "java/lang/Object"), (0, u "<init>"), (0, u "()V"), (0, .class_ 8), (0, u "java/lang/String"), (0, .methodref 7 10), (0, .nameAndType 5 11), (0, u "([C)V"), (0, .class_ 13), (0, u "com/example/diligent_tableau/diligenttableau/logic/ConceptName"), (0, .methodref 15 16), (0, .class_ 17), (0, .nameAndType 18 19), (0, u "com/example/diligent_tableau/diligenttableau/logic/ConceptNameEqualsPinLaw"), (0, u "str"), (0, u "(II)Ljava/lang/String;"), (0, .methodref 12 21), (0, .nameAndType 5 22), (0, u "(Ljava/lang/String;Z)V"), (0, .methodref 15 24), (0, .nameAndType 25 26), (0, u "sameText"), (0, u "(IIII)Z"), (0, .class_ 28), (0, u "com/example/diligent_tableau/diligenttableau/logic/NegatedName"), (0, .methodref 27 30), (0, .nameAndType 5 31), (0, u "(Lcom/example/diligent_tableau/diligenttableau/logic/ConceptName;)V"), (0, .methodref 12 33), (0, .nameAndType 34 35), (0, u "equals"), (0, u "(Ljava/lang/Object;)Z"), (3, u "law"), (0, u "(III)Z")] 2

def k1m0 : Method := { name := "<init>", desc := "()V", sig := { parameters := [], returnType := none }, accessFlags := 1, code := none }
def k1c1 : Code := { maxStack := 6, maxLocals := 5, code := method_2_code, exceptionTable := #[], attributes := #[] }
def k1m1 : Method := { name := "str", desc := "(II)Ljava/lang/String;", sig := { parameters := [.int, .int], returnType := some (.object "java/lang/String") }, accessFlags := 10, code := some k1c1 }
def k1c2 : Code := { maxStack := 3, maxLocals := 4, code := method_3_code, exceptionTable := #[], attributes := #[] }
def k1m2 : Method := { name := "sameText", desc := "(IIII)Z", sig := { parameters := [.int, .int, .int, .int], returnType := some .boolean }, accessFlags := 10, code := some k1c2 }
def k1c3 : Code := { maxStack := 6, maxLocals := 11, code := code, exceptionTable := #[], attributes := #[] }
def k1m3 : Method := { name := "law", desc := "(III)Z", sig := { parameters := [.int, .int, .int], returnType := some .boolean }, accessFlags := 9, code := some k1c3 }
/-- com/example/diligent_tableau/diligenttableau/logic/ConceptNameEqualsPinLaw -/
def k1 : Class := { plain "com/example/diligent_tableau/diligenttableau/logic/ConceptNameEqualsPinLaw" (some 0) with
  accessFlags := 49
  interfaces := #[]
  cf := some (fileOf pool1 15 #[] #[{ accessFlags := 1, nameIndex := 5, descriptorIndex := 6, attributes := #[] }, { accessFlags := 10, nameIndex := 18, descriptorIndex := 19, attributes := #[] }, { accessFlags := 10, nameIndex := 25, descriptorIndex := 26, attributes := #[] }, { accessFlags := 9, nameIndex := 39, descriptorIndex := 40, attributes := #[] }] 49 2 #[] #[])
  fields := #[]
  methods := #[k1m0, k1m1, k1m2, k1m3]
  instanceTypes := #[]
  staticTypes := #[]
  resolved := Array.replicate 43 none
  statics := none }

def pool2 : Array CpInfo := pool [(1, .methodref 2 3), (0, .class_ 4), (0, .nameAndType 5 6), (0, u "java/lang/Object"), (0, u "<init>"), (0, u "()V"), (0, .class_ 8), (0, u "java/lang/Record")] 13

def k2c0 : Code := { maxStack := 1, maxLocals := 1, code := jdk_30_method_1_code, exceptionTable := #[], attributes := #[] }
def k2m0 : Method := { name := "<init>", desc := "()V", sig := { parameters := [], returnType := none }, accessFlags := 4, code := some k2c0 }
/-- java/lang/Record -/
def k2 : Class := { plain "java/lang/Record" (some 0) with
  accessFlags := 1057
  interfaces := #[]
  cf := some (fileOf pool2 7 #[] #[{ accessFlags := 4, nameIndex := 5, descriptorIndex := 6, attributes := #[] }] 1057 2 #[] #[])
  fields := #[]
  methods := #[k2m0]
  instanceTypes := #[]
  staticTypes := #[]
  resolved := Array.replicate 22 none
  statics := none }

def pool3 : Array CpInfo := pool [(8, .class_ 10), (1, u "com/example/diligent_tableau/diligenttableau/logic/Concept"), (0, u "TOP"), (0, u "Lcom/example/diligent_tableau/diligenttableau/logic/Concept;"), (12, u "BOTTOM"), (140, .class_ 167), (0, u "java/lang/Object")] 50

/-- com/example/diligent_tableau/diligenttableau/logic/Concept -/
def k3 : Class := { plain "com/example/diligent_tableau/diligenttableau/logic/Concept" (some 0) with
  accessFlags := 1537
  interfaces := #[]
  cf := some (fileOf pool3 8 #[] #[] 1537 166 #[] #[{ accessFlags := 25, nameIndex := 11, descriptorIndex := 12, attributes := #[] }, { accessFlags := 25, nameIndex := 25, descriptorIndex := 12, attributes := #[] }])
  fields := #[{ name := "TOP", type := (.object "com/example/diligent_tableau/diligenttableau/logic/Concept"), accessFlags := 25, slot := 0, constantValue := 0 }, { name := "BOTTOM", type := (.object "com/example/diligent_tableau/diligenttableau/logic/Concept"), accessFlags := 25, slot := 1, constantValue := 0 }]
  methods := #[]
  instanceTypes := #[]
  staticTypes := #[(.object "com/example/diligent_tableau/diligenttableau/logic/Concept"), (.object "com/example/diligent_tableau/diligenttableau/logic/Concept")]
  resolved := Array.replicate 218 none
  statics := none }

def pool4 : Array CpInfo := pool [(1, .class_ 2), (0, u "com/example/diligent_tableau/diligenttableau/logic/Literal"), (0, .class_ 4), (0, u "java/lang/Object"), (0, .class_ 6), (0, u "com/example/diligent_tableau/diligenttableau/logic/Concept")] 11

/-- com/example/diligent_tableau/diligenttableau/logic/Literal -/
def k4 : Class := { plain "com/example/diligent_tableau/diligenttableau/logic/Literal" (some 0) with
  accessFlags := 1537
  interfaces := #[3]
  cf := some (fileOf pool4 1 #[] #[] 1537 3 #[5] #[])
  fields := #[]
  methods := #[]
  instanceTypes := #[]
  staticTypes := #[]
  resolved := Array.replicate 18 none
  statics := none }

def pool5 : Array CpInfo := pool [(1, .methodref 2 3), (0, .class_ 4), (0, .nameAndType 5 6), (0, u "java/lang/Record"), (0, u "<init>"), (0, u "()V"), (0, .fieldref 8 9), (0, .class_ 10), (0, .nameAndType 11 12), (0, u "com/example/diligent_tableau/diligenttableau/logic/ConceptName"), (0, u "name"), (0, u "Ljava/lang/String;"), (0, .fieldref 8 14), (0, .nameAndType 15 16), (0, u "fresh"), (0, u "Z"), (2, u "(Ljava/lang/String;Z)V"), (5, .methodref 26 27), (0, .class_ 28), (0, .nameAndType 29 30), (0, u "java/lang/String"), (0, u "equals"), (0, u "(Ljava/lang/Object;)Z"), (13, .class_ 45), (0, u "com/example/diligent_tableau/diligenttableau/logic/Literal")] 31

def k5c0 : Code := { maxStack := 2, maxLocals := 3, code := prog_15_method_2_code, exceptionTable := #[], attributes := #[] }
def k5m0 : Method := { name := "<init>", desc := "(Ljava/lang/String;Z)V", sig := { parameters := [(.object "java/lang/String"), .boolean], returnType := none }, accessFlags := 1, code := some k5c0 }
def k5c1 : Code := { maxStack := 2, maxLocals := 3, code := prog_15_method_5_code, exceptionTable := #[], attributes := #[] }
def k5m1 : Method := { name := "equals", desc := "(Ljava/lang/Object;)Z", sig := { parameters := [(.object "java/lang/Object")], returnType := some .boolean }, accessFlags := 1, code := some k5c1 }
/-- com/example/diligent_tableau/diligenttableau/logic/ConceptName -/
def k5 : Class := { plain "com/example/diligent_tableau/diligenttableau/logic/ConceptName" (some 2) with
  accessFlags := 49
  interfaces := #[4]
  cf := some (fileOf pool5 8 #[] #[{ accessFlags := 1, nameIndex := 5, descriptorIndex := 19, attributes := #[] }, { accessFlags := 1, nameIndex := 29, descriptorIndex := 30, attributes := #[] }] 49 2 #[44] #[{ accessFlags := 18, nameIndex := 11, descriptorIndex := 12, attributes := #[] }, { accessFlags := 18, nameIndex := 15, descriptorIndex := 16, attributes := #[] }])
  fields := #[{ name := "name", type := (.object "java/lang/String"), accessFlags := 18, slot := 0, constantValue := 0 }, { name := "fresh", type := .boolean, accessFlags := 18, slot := 1, constantValue := 0 }]
  methods := #[k5m0, k5m1]
  instanceTypes := #[(.object "java/lang/String"), .boolean]
  staticTypes := #[]
  resolved := Array.replicate 77 none
  statics := none }

def pool6 : Array CpInfo := pool [(1, .class_ 2), (0, u "java/io/Serializable"), (0, .class_ 4), (0, u "java/lang/Object")] 2

/-- java/io/Serializable -/
def k6 : Class := { plain "java/io/Serializable" (some 0) with
  accessFlags := 1537
  interfaces := #[]
  cf := some (fileOf pool6 1 #[] #[] 1537 3 #[] #[])
  fields := #[]
  methods := #[]
  instanceTypes := #[]
  staticTypes := #[]
  resolved := Array.replicate 7 none
  statics := none }

def pool7 : Array CpInfo := pool [(1, .class_ 2), (0, u "java/lang/Comparable"), (0, .class_ 4), (0, u "java/lang/Object")] 7

/-- java/lang/Comparable -/
def k7 : Class := { plain "java/lang/Comparable" (some 0) with
  accessFlags := 1537
  interfaces := #[]
  cf := some (fileOf pool7 1 #[] #[] 1537 3 #[] #[])
  fields := #[]
  methods := #[]
  instanceTypes := #[]
  staticTypes := #[]
  resolved := Array.replicate 12 none
  statics := none }

def pool8 : Array CpInfo := pool [(2, .class_ 4), (1, u "java/lang/CharSequence"), (42, .class_ 48), (0, u "java/lang/CharSequence$1CodePointIterator"), (10, .class_ 60), (0, u "java/lang/CharSequence$1CharIterator"), (5, .class_ 67), (0, u "java/lang/Object")] 63

/-- java/lang/CharSequence -/
def k8 : Class := { plain "java/lang/CharSequence" (some 0) with
  accessFlags := 1537
  interfaces := #[]
  cf := some (fileOf pool8 2 #[.nestMembers #[47, 59]] #[] 1537 66 #[] #[])
  fields := #[]
  methods := #[]
  instanceTypes := #[]
  staticTypes := #[]
  resolved := Array.replicate 131 none
  statics := none }

def pool9 : Array CpInfo := pool [(1, .class_ 2), (0, u "java/lang/constant/Constable"), (0, .class_ 4), (0, u "java/lang/Object")] 6

/-- java/lang/constant/Constable -/
def k9 : Class := { plain "java/lang/constant/Constable" (some 0) with
  accessFlags := 1537
  interfaces := #[]
  cf := some (fileOf pool9 1 #[] #[] 1537 3 #[] #[])
  fields := #[]
  methods := #[]
  instanceTypes := #[]
  staticTypes := #[]
  resolved := Array.replicate 11 none
  statics := none }

def pool10 : Array CpInfo := pool [(1, .class_ 2), (0, u "java/lang/constant/ConstantDesc"), (0, .class_ 4), (0, u "java/lang/Object")] 32

/-- java/lang/constant/ConstantDesc -/
def k10 : Class := { plain "java/lang/constant/ConstantDesc" (some 0) with
  accessFlags := 1537
  interfaces := #[]
  cf := some (fileOf pool10 1 #[] #[] 1537 3 #[] #[])
  fields := #[]
  methods := #[]
  instanceTypes := #[]
  staticTypes := #[]
  resolved := Array.replicate 37 none
  statics := none }

def pool11 : Array CpInfo := pool [(1, .methodref 2 3), (0, .class_ 4), (0, .nameAndType 5 6), (0, u "java/lang/Object"), (0, u "<init>"), (0, u "()V"), (0, .string 8), (0, u ""), (0, .fieldref 10 11), (0, .class_ 12), (0, .nameAndType 13 14), (0, u "java/lang/String"), (0, u "value"), (0, u "[B"), (0, .fieldref 10 16), (0, .nameAndType 17 18), (0, u "coder"), (0, u "B"), (2, u "hash"), (0, u "I"), (2, u "hashIsZero"), (0, u "Z"), (0, .methodref 10 28), (0, .nameAndType 5 29), (0, u "([CIILjava/lang/Void;)V"), (8, .fieldref 10 39), (0, .nameAndType 40 26), (0, u "COMPACT_STRINGS"), (1, .class_ 44), (1, u "java/lang/StringUTF16"), (0, u "compress"), (1, .methodref 42 48), (0, .nameAndType 49 50), (0, u "coderFromArrayLen"), (0, u "([BI)B"), (56, .class_ 109), (1, u "java/lang/StringLatin1"), (67, .methodref 42 178), (0, .nameAndType 45 179), (0, u "([CII)[B"), (361, .methodref 107 542), (0, .nameAndType 543 544), (0, u "equals"), (0, u "([B[B)Z"), (28, u "(Ljava/lang/Object;)Z"), (1, .class_ 576), (0, u "java/lang/CharSequence"), (22, u "CASE_INSENSITIVE_ORDER"), (0, u "Ljava/util/Comparator;"), (409, u "([C)V"), (90, u "serialPersistentFields"), (0, u "[Ljava/io/ObjectStreamField;"), (0, .class_ 1104), (0, u "java/lang/String$CaseInsensitiveComparator"), (1, .class_ 1107), (0, u "java/io/Serializable"), (0, .class_ 1109), (0, u "java/lang/Comparable"), (0, .class_ 1111), (0, u "java/lang/constant/Constable"), (0, .class_ 1113), (0, u "java/lang/constant/ConstantDesc"), (2, u "serialVersionUID"), (0, u "J"), (3, u "REPL"), (0, u "C"), (2, u "LATIN1"), (1, u "UTF16")] 323

def k11m0 : Method := { name := "<init>", desc := "()V", sig := { parameters := [], returnType := none }, accessFlags := 1, code := none }
def k11c1 : Code := { maxStack := 5, maxLocals := 2, code := jdk_42_method_3_code, exceptionTable := #[], attributes := #[] }
def k11m1 : Method := { name := "<init>", desc := "([C)V", sig := { parameters := [(.array .char)], returnType := none }, accessFlags := 1, code := some k11c1 }
def k11c2 : Code := { maxStack := 2, maxLocals := 3, code := jdk_42_method_66_code, exceptionTable := #[], attributes := #[] }
def k11m2 : Method := { name := "equals", desc := "(Ljava/lang/Object;)Z", sig := { parameters := [(.object "java/lang/Object")], returnType := some .boolean }, accessFlags := 1, code := some k11c2 }
def k11c3 : Code := { maxStack := 4, maxLocals := 6, code := jdk_42_method_149_code, exceptionTable := #[], attributes := #[] }
def k11m3 : Method := { name := "<init>", desc := "([CIILjava/lang/Void;)V", sig := { parameters := [(.array .char), .int, .int, (.object "java/lang/Void")], returnType := none }, accessFlags := 2, code := some k11c3 }
/-- java/lang/String -/
def k11 : Class := { plain "java/lang/String" (some 0) with
  accessFlags := 49
  interfaces := #[6, 7, 8, 9, 10]
  cf := some (fileOf pool11 10 #[.nestMembers #[1103]] #[{ accessFlags := 1, nameIndex := 5, descriptorIndex := 6, attributes := #[] }, { accessFlags := 1, nameIndex := 5, descriptorIndex := 1010, attributes := #[] }, { accessFlags := 1, nameIndex := 543, descriptorIndex := 573, attributes := #[] }, { accessFlags := 2, nameIndex := 5, descriptorIndex := 29, attributes := #[] }] 49 2 #[1106, 1108, 575, 1110, 1112] #[{ accessFlags := 18, nameIndex := 13, descriptorIndex := 14, attributes := #[] }, { accessFlags := 18, nameIndex := 17, descriptorIndex := 18, attributes := #[] }, { accessFlags := 2, nameIndex := 21, descriptorIndex := 22, attributes := #[] }, { accessFlags := 2, nameIndex := 25, descriptorIndex := 26, attributes := #[] }, { accessFlags := 26, nameIndex := 1116, descriptorIndex := 1117, attributes := #[] }, { accessFlags := 24, nameIndex := 40, descriptorIndex := 26, attributes := #[] }, { accessFlags := 26, nameIndex := 1101, descriptorIndex := 1102, attributes := #[] }, { accessFlags := 26, nameIndex := 1121, descriptorIndex := 1122, attributes := #[] }, { accessFlags := 25, nameIndex := 599, descriptorIndex := 600, attributes := #[] }, { accessFlags := 24, nameIndex := 1125, descriptorIndex := 18, attributes := #[] }, { accessFlags := 24, nameIndex := 1127, descriptorIndex := 18, attributes := #[] }])
  fields := #[{ name := "value", type := (.array .byte), accessFlags := 18, slot := 0, constantValue := 0 }, { name := "coder", type := .byte, accessFlags := 18, slot := 1, constantValue := 0 }, { name := "hash", type := .int, accessFlags := 2, slot := 2, constantValue := 0 }, { name := "hashIsZero", type := .boolean, accessFlags := 2, slot := 3, constantValue := 0 }, { name := "serialVersionUID", type := .long, accessFlags := 26, slot := 0, constantValue := 0 }, { name := "COMPACT_STRINGS", type := .boolean, accessFlags := 24, slot := 1, constantValue := 0 }, { name := "serialPersistentFields", type := (.array (.object "java/io/ObjectStreamField")), accessFlags := 26, slot := 2, constantValue := 0 }, { name := "REPL", type := .char, accessFlags := 26, slot := 3, constantValue := 0 }, { name := "CASE_INSENSITIVE_ORDER", type := (.object "java/util/Comparator"), accessFlags := 25, slot := 4, constantValue := 0 }, { name := "LATIN1", type := .byte, accessFlags := 24, slot := 5, constantValue := 0 }, { name := "UTF16", type := .byte, accessFlags := 24, slot := 6, constantValue := 0 }]
  methods := #[k11m0, k11m1, k11m2, k11m3]
  instanceTypes := #[(.array .byte), .byte, .int, .boolean]
  staticTypes := #[.long, .boolean, (.array (.object "java/io/ObjectStreamField")), .char, (.object "java/util/Comparator"), .byte, .byte]
  resolved := Array.replicate 1451 none
  statics := some 0 }

def pool12 : Array CpInfo := pool [(6, .class_ 8), (1, u "java/lang/Object"), (0, u "<init>"), (0, u "()V"), (1, .class_ 14), (1, u "java/lang/StringUTF16"), (31, u "$assertionsDisabled"), (0, u "Z"), (13, u "HI_BYTE_SHIFT"), (0, u "I"), (2, u "LO_BYTE_SHIFT"), (49, .methodref 12 116), (0, .nameAndType 117 118), (0, u "compress"), (0, u "([CI[BII)I"), (3, u "([CII)[B"), (138, u "coderFromArrayLen"), (0, u "([BI)B"), (106, .class_ 371), (1, u "java/lang/StringUTF16$LinesSpliterator"), (58, u "MAX_LENGTH"), (196, .class_ 628), (0, u "java/lang/StringUTF16$CodePointsSpliterator"), (0, .class_ 630), (0, u "java/lang/StringUTF16$CharsSpliterator")] 4

def k12m0 : Method := { name := "<init>", desc := "()V", sig := { parameters := [], returnType := none }, accessFlags := 0, code := none }
def k12c1 : Code := { maxStack := 2, maxLocals := 2, code := jdk_52_method_15_code, exceptionTable := #[], attributes := #[] }
def k12m1 : Method := { name := "coderFromArrayLen", desc := "([BI)B", sig := { parameters := [(.array .byte), .int], returnType := some .byte }, accessFlags := 8, code := some k12c1 }
def k12c2 : Code := { maxStack := 5, maxLocals := 6, code := jdk_52_method_16_code, exceptionTable := #[], attributes := #[] }
def k12m2 : Method := { name := "compress", desc := "([CII)[B", sig := { parameters := [(.array .char), .int, .int], returnType := some (.array .byte) }, accessFlags := 9, code := some k12c2 }
def k12c3 : Code := { maxStack := 3, maxLocals := 7, code := jdk_52_method_21_code, exceptionTable := #[], attributes := #[] }
def k12m3 : Method := { name := "compress", desc := "([CI[BII)I", sig := { parameters := [(.array .char), .int, (.array .byte), .int, .int], returnType := some .int }, accessFlags := 9, code := some k12c3 }
/-- java/lang/StringUTF16 -/
def k12 : Class := { plain "java/lang/StringUTF16" (some 0) with
  accessFlags := 48
  interfaces := #[]
  cf := some (fileOf pool12 12 #[.nestMembers #[627, 629, 369]] #[{ accessFlags := 0, nameIndex := 9, descriptorIndex := 10, attributes := #[] }, { accessFlags := 8, nameIndex := 261, descriptorIndex := 262, attributes := #[] }, { accessFlags := 9, nameIndex := 117, descriptorIndex := 122, attributes := #[] }, { accessFlags := 9, nameIndex := 117, descriptorIndex := 118, attributes := #[] }] 48 6 #[] #[{ accessFlags := 26, nameIndex := 61, descriptorIndex := 62, attributes := #[] }, { accessFlags := 26, nameIndex := 65, descriptorIndex := 62, attributes := #[] }, { accessFlags := 24, nameIndex := 430, descriptorIndex := 62, attributes := #[] }, { accessFlags := 4120, nameIndex := 46, descriptorIndex := 47, attributes := #[] }])
  fields := #[{ name := "HI_BYTE_SHIFT", type := .int, accessFlags := 26, slot := 0, constantValue := 0 }, { name := "LO_BYTE_SHIFT", type := .int, accessFlags := 26, slot := 1, constantValue := 0 }, { name := "MAX_LENGTH", type := .int, accessFlags := 24, slot := 2, constantValue := 0 }, { name := "$assertionsDisabled", type := .boolean, accessFlags := 4120, slot := 3, constantValue := 0 }]
  methods := #[k12m0, k12m1, k12m2, k12m3]
  instanceTypes := #[]
  staticTypes := #[.int, .int, .int, .boolean]
  resolved := Array.replicate 635 none
  statics := none }

def pool13 : Array CpInfo := pool [(4, .class_ 6), (1, u "java/lang/Object"), (0, u "<init>"), (0, u "()V"), (5, .class_ 16), (1, u "java/lang/StringLatin1"), (104, u "$assertionsDisabled"), (0, u "Z"), (98, .class_ 223), (1, u "java/lang/StringLatin1$LinesSpliterator"), (57, u "equals"), (0, u "([B[B)Z"), (107, .class_ 391), (0, u "java/lang/StringLatin1$CharsSpliterator")] 3

def k13m0 : Method := { name := "<init>", desc := "()V", sig := { parameters := [], returnType := none }, accessFlags := 0, code := none }
def k13c1 : Code := { maxStack := 3, maxLocals := 3, code := jdk_43_method_13_code, exceptionTable := #[], attributes := #[] }
def k13m1 : Method := { name := "equals", desc := "([B[B)Z", sig := { parameters := [(.array .byte), (.array .byte)], returnType := some .boolean }, accessFlags := 9, code := some k13c1 }
/-- java/lang/StringLatin1 -/
def k13 : Class := { plain "java/lang/StringLatin1" (some 0) with
  accessFlags := 48
  interfaces := #[]
  cf := some (fileOf pool13 14 #[.nestMembers #[390, 221]] #[{ accessFlags := 0, nameIndex := 7, descriptorIndex := 8, attributes := #[] }, { accessFlags := 9, nameIndex := 281, descriptorIndex := 282, attributes := #[] }] 48 4 #[] #[{ accessFlags := 4120, nameIndex := 121, descriptorIndex := 122, attributes := #[] }])
  fields := #[{ name := "$assertionsDisabled", type := .boolean, accessFlags := 4120, slot := 0, constantValue := 0 }]
  methods := #[k13m0, k13m1]
  instanceTypes := #[]
  staticTypes := #[.boolean]
  resolved := Array.replicate 395 none
  statics := none }

def pool14 : Array CpInfo := pool [(1, .methodref 2 3), (0, .class_ 4), (0, .nameAndType 5 6), (0, u "java/lang/Record"), (0, u "<init>"), (0, u "()V"), (0, .fieldref 8 9), (0, .class_ 10), (0, .nameAndType 11 12), (0, u "com/example/diligent_tableau/diligenttableau/logic/NegatedName"), (0, u "name"), (0, u "Lcom/example/diligent_tableau/diligenttableau/logic/ConceptName;"), (20, .class_ 34), (0, u "com/example/diligent_tableau/diligenttableau/logic/Literal"), (0, u "(Lcom/example/diligent_tableau/diligenttableau/logic/ConceptName;)V")] 31

def k14c0 : Code := { maxStack := 2, maxLocals := 2, code := prog_28_method_1_code, exceptionTable := #[], attributes := #[] }
def k14m0 : Method := { name := "<init>", desc := "(Lcom/example/diligent_tableau/diligenttableau/logic/ConceptName;)V", sig := { parameters := [(.object "com/example/diligent_tableau/diligenttableau/logic/ConceptName")], returnType := none }, accessFlags := 1, code := some k14c0 }
/-- com/example/diligent_tableau/diligenttableau/logic/NegatedName -/
def k14 : Class := { plain "com/example/diligent_tableau/diligenttableau/logic/NegatedName" (some 2) with
  accessFlags := 49
  interfaces := #[4]
  cf := some (fileOf pool14 8 #[] #[{ accessFlags := 1, nameIndex := 5, descriptorIndex := 35, attributes := #[] }] 49 2 #[33] #[{ accessFlags := 18, nameIndex := 11, descriptorIndex := 12, attributes := #[] }])
  fields := #[{ name := "name", type := (.object "com/example/diligent_tableau/diligenttableau/logic/ConceptName"), accessFlags := 18, slot := 0, constantValue := 0 }]
  methods := #[k14m0]
  instanceTypes := #[(.object "com/example/diligent_tableau/diligenttableau/logic/ConceptName")]
  staticTypes := #[]
  resolved := Array.replicate 67 none
  statics := none }

def pool15 : Array CpInfo := pool [(2, .class_ 4), (1, u "java/lang/Object"), (0, u "<init>"), (0, u "()V"), (17, .class_ 26), (1, u "jdk/internal/util/Preconditions"), (28, .class_ 56), (0, u "jdk/internal/util/Preconditions$4"), (57, .class_ 115), (0, u "jdk/internal/util/Preconditions$1"), (7, u "SIOOBE_FORMATTER"), (0, u "Ljava/util/function/BiFunction;"), (0, .class_ 126), (0, u "jdk/internal/util/Preconditions$2"), (3, u "AIOOBE_FORMATTER"), (0, .class_ 132), (0, u "jdk/internal/util/Preconditions$3"), (3, u "IOOBE_FORMATTER")] 57

def k15m0 : Method := { name := "<init>", desc := "()V", sig := { parameters := [], returnType := none }, accessFlags := 1, code := none }
/-- jdk/internal/util/Preconditions -/
def k15 : Class := { plain "jdk/internal/util/Preconditions" (some 0) with
  accessFlags := 33
  interfaces := #[]
  cf := some (fileOf pool15 24 #[.nestMembers #[55, 131, 125, 114]] #[{ accessFlags := 1, nameIndex := 5, descriptorIndex := 6, attributes := #[] }] 33 2 #[] #[{ accessFlags := 25, nameIndex := 123, descriptorIndex := 124, attributes := #[] }, { accessFlags := 25, nameIndex := 130, descriptorIndex := 124, attributes := #[] }, { accessFlags := 25, nameIndex := 136, descriptorIndex := 124, attributes := #[] }])
  fields := #[{ name := "SIOOBE_FORMATTER", type := (.object "java/util/function/BiFunction"), accessFlags := 25, slot := 0, constantValue := 0 }, { name := "AIOOBE_FORMATTER", type := (.object "java/util/function/BiFunction"), accessFlags := 25, slot := 1, constantValue := 0 }, { name := "IOOBE_FORMATTER", type := (.object "java/util/function/BiFunction"), accessFlags := 25, slot := 2, constantValue := 0 }]
  methods := #[k15m0]
  instanceTypes := #[]
  staticTypes := #[(.object "java/util/function/BiFunction"), (.object "java/util/function/BiFunction"), (.object "java/util/function/BiFunction")]
  resolved := Array.replicate 194 none
  statics := some 1 }

def pool16 : Array CpInfo := pool [(9, u "<init>"), (6, .class_ 18), (1, u "java/lang/Object"), (0, u "()V"), (1, .class_ 23), (1, u "jdk/internal/util/ArraysSupport"), (0, u "LOG2_ARRAY_LONG_INDEX_SCALE"), (0, u "I"), (2, u "U"), (0, u "Ljdk/internal/misc/Unsafe;"), (8, u "BIG_ENDIAN"), (0, u "Z"), (8, u "LOG2_BYTE_BIT_SIZE"), (4, u "LOG2_ARRAY_INT_INDEX_SCALE"), (54, u "JLA"), (0, u "Ljdk/internal/access/JavaLangAccess;"), (11, u "LOG2_ARRAY_BOOLEAN_INDEX_SCALE"), (9, u "LOG2_ARRAY_BYTE_INDEX_SCALE"), (5, u "LOG2_ARRAY_CHAR_INDEX_SCALE"), (5, u "LOG2_ARRAY_SHORT_INDEX_SCALE"), (18, u "LOG2_ARRAY_FLOAT_INDEX_SCALE"), (24, u "LOG2_ARRAY_DOUBLE_INDEX_SCALE"), (89, u "T_BOOLEAN"), (2, u "T_CHAR"), (1, u "T_FLOAT"), (1, u "T_DOUBLE"), (1, u "T_BYTE"), (1, u "T_SHORT"), (1, u "T_INT"), (1, u "T_LONG"), (1, u "SOFT_MAX_ARRAY_LENGTH")] 83

def k16m0 : Method := { name := "<init>", desc := "()V", sig := { parameters := [], returnType := none }, accessFlags := 2, code := none }
/-- jdk/internal/util/ArraysSupport -/
def k16 : Class := { plain "jdk/internal/util/ArraysSupport" (some 0) with
  accessFlags := 33
  interfaces := #[]
  cf := some (fileOf pool16 21 #[] #[{ accessFlags := 2, nameIndex := 9, descriptorIndex := 19, attributes := #[] }] 33 16 #[] #[{ accessFlags := 24, nameIndex := 28, descriptorIndex := 29, attributes := #[] }, { accessFlags := 26, nameIndex := 38, descriptorIndex := 39, attributes := #[] }, { accessFlags := 25, nameIndex := 121, descriptorIndex := 25, attributes := #[] }, { accessFlags := 25, nameIndex := 131, descriptorIndex := 25, attributes := #[] }, { accessFlags := 25, nameIndex := 137, descriptorIndex := 25, attributes := #[] }, { accessFlags := 25, nameIndex := 143, descriptorIndex := 25, attributes := #[] }, { accessFlags := 25, nameIndex := 53, descriptorIndex := 25, attributes := #[] }, { accessFlags := 25, nameIndex := 24, descriptorIndex := 25, attributes := #[] }, { accessFlags := 25, nameIndex := 162, descriptorIndex := 25, attributes := #[] }, { accessFlags := 25, nameIndex := 187, descriptorIndex := 25, attributes := #[] }, { accessFlags := 26, nameIndex := 48, descriptorIndex := 25, attributes := #[] }, { accessFlags := 25, nameIndex := 277, descriptorIndex := 25, attributes := #[] }, { accessFlags := 25, nameIndex := 280, descriptorIndex := 25, attributes := #[] }, { accessFlags := 25, nameIndex := 282, descriptorIndex := 25, attributes := #[] }, { accessFlags := 25, nameIndex := 284, descriptorIndex := 25, attributes := #[] }, { accessFlags := 25, nameIndex := 286, descriptorIndex := 25, attributes := #[] }, { accessFlags := 25, nameIndex := 288, descriptorIndex := 25, attributes := #[] }, { accessFlags := 25, nameIndex := 290, descriptorIndex := 25, attributes := #[] }, { accessFlags := 25, nameIndex := 292, descriptorIndex := 25, attributes := #[] }, { accessFlags := 26, nameIndex := 108, descriptorIndex := 109, attributes := #[] }, { accessFlags := 25, nameIndex := 294, descriptorIndex := 25, attributes := #[] }])
  fields := #[{ name := "U", type := (.object "jdk/internal/misc/Unsafe"), accessFlags := 24, slot := 0, constantValue := 0 }, { name := "BIG_ENDIAN", type := .boolean, accessFlags := 26, slot := 1, constantValue := 0 }, { name := "LOG2_ARRAY_BOOLEAN_INDEX_SCALE", type := .int, accessFlags := 25, slot := 2, constantValue := 0 }, { name := "LOG2_ARRAY_BYTE_INDEX_SCALE", type := .int, accessFlags := 25, slot := 3, constantValue := 0 }, { name := "LOG2_ARRAY_CHAR_INDEX_SCALE", type := .int, accessFlags := 25, slot := 4, constantValue := 0 }, { name := "LOG2_ARRAY_SHORT_INDEX_SCALE", type := .int, accessFlags := 25, slot := 5, constantValue := 0 }, { name := "LOG2_ARRAY_INT_INDEX_SCALE", type := .int, accessFlags := 25, slot := 6, constantValue := 0 }, { name := "LOG2_ARRAY_LONG_INDEX_SCALE", type := .int, accessFlags := 25, slot := 7, constantValue := 0 }, { name := "LOG2_ARRAY_FLOAT_INDEX_SCALE", type := .int, accessFlags := 25, slot := 8, constantValue := 0 }, { name := "LOG2_ARRAY_DOUBLE_INDEX_SCALE", type := .int, accessFlags := 25, slot := 9, constantValue := 0 }, { name := "LOG2_BYTE_BIT_SIZE", type := .int, accessFlags := 26, slot := 10, constantValue := 0 }, { name := "T_BOOLEAN", type := .int, accessFlags := 25, slot := 11, constantValue := 0 }, { name := "T_CHAR", type := .int, accessFlags := 25, slot := 12, constantValue := 0 }, { name := "T_FLOAT", type := .int, accessFlags := 25, slot := 13, constantValue := 0 }, { name := "T_DOUBLE", type := .int, accessFlags := 25, slot := 14, constantValue := 0 }, { name := "T_BYTE", type := .int, accessFlags := 25, slot := 15, constantValue := 0 }, { name := "T_SHORT", type := .int, accessFlags := 25, slot := 16, constantValue := 0 }, { name := "T_INT", type := .int, accessFlags := 25, slot := 17, constantValue := 0 }, { name := "T_LONG", type := .int, accessFlags := 25, slot := 18, constantValue := 0 }, { name := "JLA", type := (.object "jdk/internal/access/JavaLangAccess"), accessFlags := 26, slot := 19, constantValue := 0 }, { name := "SOFT_MAX_ARRAY_LENGTH", type := .int, accessFlags := 25, slot := 20, constantValue := 0 }]
  methods := #[k16m0]
  instanceTypes := #[]
  staticTypes := #[(.object "jdk/internal/misc/Unsafe"), .boolean, .int, .int, .int, .int, .int, .int, .int, .int, .int, .int, .int, .int, .int, .int, .int, .int, .int, (.object "jdk/internal/access/JavaLangAccess"), .int]
  resolved := Array.replicate 378 none
  statics := none }

def pool17 : Array CpInfo := pool [(1, u "java/lang/Cloneable"), (0, .class_ 1), (0, u "java/lang/Object"), (0, .class_ 3)] 3

/-- java/lang/Cloneable -/
def k17 : Class := { plain "java/lang/Cloneable" (some 0) with
  accessFlags := 1537
  interfaces := #[]
  cf := some (fileOf pool17 2 #[] #[] 1537 4 #[] #[])
  fields := #[]
  methods := #[]
  instanceTypes := #[]
  staticTypes := #[]
  resolved := Array.replicate 8 none
  statics := none }

/-- the primitive byte -/
def k18 : Class := { plain "byte" none with kind := .primitive 'B', accessFlags := 0x411 }
/-- [B -/
def k19 : Class := { plain "[B" (some 0) with kind := .array 18 .byte, interfaces := #[17, 6], accessFlags := 1041 }

/-- the primitive char -/
def k20 : Class := { plain "char" none with kind := .primitive 'C', accessFlags := 0x411 }
/-- [C -/
def k21 : Class := { plain "[C" (some 0) with kind := .array 20 .char, interfaces := #[17, 6], accessFlags := 1041 }

/-- the primitive int -/
def k22 : Class := { plain "int" none with kind := .primitive 'I', accessFlags := 0x411 }
/-- [I -/
def k23 : Class := { plain "[I" (some 0) with kind := .array 22 .int, interfaces := #[17, 6], accessFlags := 1041 }

def heap : Heap := #[{ cls := 11, slots := #[.long 0, .int 1, .null, .int 0, .null, .int 0, .int 0], vm := .statics 11 },
  { cls := 15, slots := #[.null, .null, .null], vm := .statics 15 }]
def classes : Array Class := #[k0, k1, k2, k3, k4, k5, k6, k7, k8, k9, k10, k11, k12, k13, k14, k15, k16, k17, k18, k19, k20, k21, k22, k23]
def interned : List (Array UInt16 × Addr) := []
def slotsUsed : Nat := 10
def theMethod : MethodId := ⟨1, 3⟩
def args0 : Array Value := #[.int 5, .int 6, .int 7]
def aboutOver (below : List Frame) : State where
  vm := { classes := classes, interned := interned.toArray }
  heap := heap
  slotsUsed := slotsUsed
  threads := #[{ frames := .invoking theMethod args0 :: below }]
def below0 : List Frame := [.native { method := ⟨0, 0⟩, args := #[] }]
def about1 : State := aboutOver below0
def p0 : Program := .bare "" "" ""
def e0 : Env := launch0.env 0 0 0
theorem w_frames : about1.frames = Frame.invoking theMethod args0 :: below0 := rfl
set_option maxRecDepth 65536 in
theorem w_args : argsFit about1.vm theMethod args0 = true := by decide +kernel
set_option maxRecDepth 65536 in
theorem w_heap : heapFits about1 = true := by decide +kernel
set_option maxRecDepth 65536 in
theorem w_runnable : about1.curStatus? = some .runnable := by decide +kernel
set_option maxRecDepth 65536 in
theorem w_alone : about1.alone = true := by decide +kernel
set_option maxRecDepth 65536 in
theorem w_named : about1.methodNamed? x = some theMethod := by decide +kernel
set_option maxRecDepth 65536 in
theorem w_hears : about1.hears theMethod below0 = true := by decide +kernel
set_option maxRecDepth 65536 in
theorem w_ripe : about1.ripe theMethod args0 below0 = true := by decide +kernel
theorem w_running : about1.status = .running := rfl
set_option maxRecDepth 65536 in
theorem w_room : about1.hasRoom e0.platform room_1 = true :=
  launch0.hasRoom_least _ room_1 (by decide +kernel) (by decide +kernel) (by decide +kernel) (by decide +kernel) (by decide +kernel) (by decide +kernel)
theorem allAtoms_all (ts : List Jvm.Cond) (a : Array Jvm.Value) (st : Jvm.State) : (allAtoms ts).before a st = ts.all (fun c => c.before a st) := by
  induction ts with
  | nil => rfl
  | cons c t ih =>
    show (Jvm.Cond.and c (allAtoms t)).before a st = _
    rw [Jvm.Cond.before_and, ih, List.all_cons]
def words1 : List Jvm.Cond := Jvm.Cond.code x code maxLocals ret :: tables_1
/-- a 'code' word, met by the world's own term for the bytes: nothing is compared byte by byte -/
theorem code_word {y : MethodName} {bytes : ByteArray} {mx : Nat} {rt : Option FieldType} {a : Array Value} {s : State} {m : MethodId} {meth : Method} {c : Code} (h1 : s.methodNamed? y = some m) (h2 : s.vm.method? m = some meth) (h3 : meth.code = some c) (h4 : c.code = bytes)
    (h5 : (c.maxLocals == mx && c.exceptionTable.isEmpty && decide (c.maxStack ≤ mostOperands) && decide (meth.sig.returnType = rt) && !meth.locks && decide (parseMethodDescriptor y.desc = some meth.sig)) = true) : (Jvm.Cond.code y bytes mx rt).before a s = true := by
  simp only [Bool.and_eq_true, beq_iff_eq, Bool.not_eq_true', decide_eq_true_eq] at h5
  obtain ⟨⟨⟨⟨⟨g1, g2⟩, g3⟩, g4⟩, g5⟩, g6⟩ := h5
  simp [Cond.before, Cond.holds, Cond.value, h1, h2, h3, h4, g1, g2, g3, g4, g5, g6]
def isCode : Jvm.Cond → Bool
  | .code _ _ _ _ => true
  | _ => false
theorem all_split {L : List Jvm.Cond} {P : Jvm.Cond → Bool} (h1 : L.all (fun c => isCode c || P c) = true) (h2 : ∀ c ∈ L.filter isCode, P c = true) : L.all P = true := by
  refine List.all_eq_true.mpr fun c hc => ?_
  have h := List.all_eq_true.mp h1 c hc
  rcases Bool.eq_false_or_eq_true (isCode c) with hi | hi
  · exact h2 c (List.mem_filter.mpr ⟨hc, hi⟩)
  · simpa [hi] using h
set_option maxRecDepth 65536 in
theorem w_c0 : (Jvm.Cond.code x code maxLocals ret).before args0 about1 = true := code_word (m := ⟨1, 3⟩) (meth := k1m3) (c := k1c3) (by decide +kernel) rfl rfl rfl (by decide +kernel)
set_option maxRecDepth 65536 in
theorem w_c1 : (Jvm.Cond.code ({ cls := "com/example/diligent_tableau/diligenttableau/logic/ConceptNameEqualsPinLaw", name := "str", desc := "(II)Ljava/lang/String;" } : Jvm.MethodName) method_2_code (5 : Nat) (Option.some (Jvm.ClassFile.FieldType.object "java/lang/String"))).before args0 about1 = true := code_word (m := ⟨1, 1⟩) (meth := k1m1) (c := k1c1) (by decide +kernel) rfl rfl rfl (by decide +kernel)
set_option maxRecDepth 65536 in
theorem w_c2 : (Jvm.Cond.code ({ cls := "java/lang/String", name := "<init>", desc := "([C)V" } : Jvm.MethodName) jdk_42_method_3_code (2 : Nat) (Option.none : Option Jvm.ClassFile.FieldType)).before args0 about1 = true := code_word (m := ⟨11, 1⟩) (meth := k11m1) (c := k11c1) (by decide +kernel) rfl rfl rfl (by decide +kernel)
set_option maxRecDepth 65536 in
theorem w_c3 : (Jvm.Cond.code ({ cls := "java/lang/String", name := "<init>", desc := "([CIILjava/lang/Void;)V" } : Jvm.MethodName) jdk_42_method_149_code (6 : Nat) (Option.none : Option Jvm.ClassFile.FieldType)).before args0 about1 = true := code_word (m := ⟨11, 3⟩) (meth := k11m3) (c := k11c3) (by decide +kernel) rfl rfl rfl (by decide +kernel)
set_option maxRecDepth 65536 in
theorem w_c4 : (Jvm.Cond.code ({ cls := "java/lang/Object", name := "<init>", desc := "()V" } : Jvm.MethodName) object_method_1_code (1 : Nat) (Option.none : Option Jvm.ClassFile.FieldType)).before args0 about1 = true := code_word (m := ⟨0, 0⟩) (meth := k0m0) (c := k0c0) (by decide +kernel) rfl rfl rfl (by decide +kernel)
set_option maxRecDepth 65536 in
theorem w_c5 : (Jvm.Cond.code ({ cls := "java/lang/StringUTF16", name := "compress", desc := "([CII)[B" } : Jvm.MethodName) jdk_52_method_16_code (6 : Nat) (Option.some (Jvm.ClassFile.FieldType.array Jvm.ClassFile.FieldType.byte))).before args0 about1 = true := code_word (m := ⟨12, 2⟩) (meth := k12m2) (c := k12c2) (by decide +kernel) rfl rfl rfl (by decide +kernel)
set_option maxRecDepth 65536 in
theorem w_c6 : (Jvm.Cond.code ({ cls := "java/lang/StringUTF16", name := "compress", desc := "([CI[BII)I" } : Jvm.MethodName) jdk_52_method_21_code (7 : Nat) (Option.some Jvm.ClassFile.FieldType.int)).before args0 about1 = true := code_word (m := ⟨12, 3⟩) (meth := k12m3) (c := k12c3) (by decide +kernel) rfl rfl rfl (by decide +kernel)
set_option maxRecDepth 65536 in
theorem w_c7 : (Jvm.Cond.code ({ cls := "java/lang/StringUTF16", name := "coderFromArrayLen", desc := "([BI)B" } : Jvm.MethodName) jdk_52_method_15_code (2 : Nat) (Option.some Jvm.ClassFile.FieldType.byte)).before args0 about1 = true := code_word (m := ⟨12, 1⟩) (meth := k12m1) (c := k12c1) (by decide +kernel) rfl rfl rfl (by decide +kernel)
set_option maxRecDepth 65536 in
theorem w_c8 : (Jvm.Cond.code ({ cls := "com/example/diligent_tableau/diligenttableau/logic/ConceptName", name := "<init>", desc := "(Ljava/lang/String;Z)V" } : Jvm.MethodName) prog_15_method_2_code (3 : Nat) (Option.none : Option Jvm.ClassFile.FieldType)).before args0 about1 = true := code_word (m := ⟨5, 0⟩) (meth := k5m0) (c := k5c0) (by decide +kernel) rfl rfl rfl (by decide +kernel)
set_option maxRecDepth 65536 in
theorem w_c9 : (Jvm.Cond.code ({ cls := "java/lang/Record", name := "<init>", desc := "()V" } : Jvm.MethodName) jdk_30_method_1_code (1 : Nat) (Option.none : Option Jvm.ClassFile.FieldType)).before args0 about1 = true := code_word (m := ⟨2, 0⟩) (meth := k2m0) (c := k2c0) (by decide +kernel) rfl rfl rfl (by decide +kernel)
set_option maxRecDepth 65536 in
theorem w_c10 : (Jvm.Cond.code ({ cls := "com/example/diligent_tableau/diligenttableau/logic/ConceptNameEqualsPinLaw", name := "sameText", desc := "(IIII)Z" } : Jvm.MethodName) method_3_code (4 : Nat) (Option.some Jvm.ClassFile.FieldType.boolean)).before args0 about1 = true := code_word (m := ⟨1, 2⟩) (meth := k1m2) (c := k1c2) (by decide +kernel) rfl rfl rfl (by decide +kernel)
set_option maxRecDepth 65536 in
theorem w_c11 : (Jvm.Cond.code ({ cls := "com/example/diligent_tableau/diligenttableau/logic/ConceptName", name := "equals", desc := "(Ljava/lang/Object;)Z" } : Jvm.MethodName) prog_15_method_5_code (3 : Nat) (Option.some Jvm.ClassFile.FieldType.boolean)).before args0 about1 = true := code_word (m := ⟨5, 1⟩) (meth := k5m1) (c := k5c1) (by decide +kernel) rfl rfl rfl (by decide +kernel)
set_option maxRecDepth 65536 in
theorem w_c12 : (Jvm.Cond.code ({ cls := "java/lang/String", name := "equals", desc := "(Ljava/lang/Object;)Z" } : Jvm.MethodName) jdk_42_method_66_code (3 : Nat) (Option.some Jvm.ClassFile.FieldType.boolean)).before args0 about1 = true := code_word (m := ⟨11, 2⟩) (meth := k11m2) (c := k11c2) (by decide +kernel) rfl rfl rfl (by decide +kernel)
set_option maxRecDepth 65536 in
theorem w_c13 : (Jvm.Cond.code ({ cls := "java/lang/StringLatin1", name := "equals", desc := "([B[B)Z" } : Jvm.MethodName) jdk_43_method_13_code (3 : Nat) (Option.some Jvm.ClassFile.FieldType.boolean)).before args0 about1 = true := code_word (m := ⟨13, 1⟩) (meth := k13m1) (c := k13c1) (by decide +kernel) rfl rfl rfl (by decide +kernel)
set_option maxRecDepth 65536 in
theorem w_c14 : (Jvm.Cond.code ({ cls := "com/example/diligent_tableau/diligenttableau/logic/NegatedName", name := "<init>", desc := "(Lcom/example/diligent_tableau/diligenttableau/logic/ConceptName;)V" } : Jvm.MethodName) prog_28_method_1_code (2 : Nat) (Option.none : Option Jvm.ClassFile.FieldType)).before args0 about1 = true := code_word (m := ⟨14, 0⟩) (meth := k14m0) (c := k14c0) (by decide +kernel) rfl rfl rfl (by decide +kernel)
def codes1 : List Jvm.Cond := [Jvm.Cond.code x code maxLocals ret, Jvm.Cond.code ({ cls := "com/example/diligent_tableau/diligenttableau/logic/ConceptNameEqualsPinLaw", name := "str", desc := "(II)Ljava/lang/String;" } : Jvm.MethodName) method_2_code (5 : Nat) (Option.some (Jvm.ClassFile.FieldType.object "java/lang/String")), Jvm.Cond.code ({ cls := "java/lang/String", name := "<init>", desc := "([C)V" } : Jvm.MethodName) jdk_42_method_3_code (2 : Nat) (Option.none : Option Jvm.ClassFile.FieldType), Jvm.Cond.code ({ cls := "java/lang/String", name := "<init>", desc := "([CIILjava/lang/Void;)V" } : Jvm.MethodName) jdk_42_method_149_code (6 : Nat) (Option.none : Option Jvm.ClassFile.FieldType), Jvm.Cond.code ({ cls := "java/lang/Object", name := "<init>", desc := "()V" } : Jvm.MethodName) object_method_1_code (1 : Nat) (Option.none : Option Jvm.ClassFile.FieldType), Jvm.Cond.code ({ cls := "java/lang/StringUTF16", name := "compress", desc := "([CII)[B" } : Jvm.MethodName) jdk_52_method_16_code (6 : Nat) (Option.some (Jvm.ClassFile.FieldType.array Jvm.ClassFile.FieldType.byte)), Jvm.Cond.code ({ cls := "java/lang/StringUTF16", name := "compress", desc := "([CI[BII)I" } : Jvm.MethodName) jdk_52_method_21_code (7 : Nat) (Option.some Jvm.ClassFile.FieldType.int), Jvm.Cond.code ({ cls := "java/lang/StringUTF16", name := "coderFromArrayLen", desc := "([BI)B" } : Jvm.MethodName) jdk_52_method_15_code (2 : Nat) (Option.some Jvm.ClassFile.FieldType.byte), Jvm.Cond.code ({ cls := "com/example/diligent_tableau/diligenttableau/logic/ConceptName", name := "<init>", desc := "(Ljava/lang/String;Z)V" } : Jvm.MethodName) prog_15_method_2_code (3 : Nat) (Option.none : Option Jvm.ClassFile.FieldType), Jvm.Cond.code ({ cls := "java/lang/Record", name := "<init>", desc := "()V" } : Jvm.MethodName) jdk_30_method_1_code (1 : Nat) (Option.none : Option Jvm.ClassFile.FieldType), Jvm.Cond.code ({ cls := "com/example/diligent_tableau/diligenttableau/logic/ConceptNameEqualsPinLaw", name := "sameText", desc := "(IIII)Z" } : Jvm.MethodName) method_3_code (4 : Nat) (Option.some Jvm.ClassFile.FieldType.boolean), Jvm.Cond.code ({ cls := "com/example/diligent_tableau/diligenttableau/logic/ConceptName", name := "equals", desc := "(Ljava/lang/Object;)Z" } : Jvm.MethodName) prog_15_method_5_code (3 : Nat) (Option.some Jvm.ClassFile.FieldType.boolean), Jvm.Cond.code ({ cls := "java/lang/String", name := "equals", desc := "(Ljava/lang/Object;)Z" } : Jvm.MethodName) jdk_42_method_66_code (3 : Nat) (Option.some Jvm.ClassFile.FieldType.boolean), Jvm.Cond.code ({ cls := "java/lang/StringLatin1", name := "equals", desc := "([B[B)Z" } : Jvm.MethodName) jdk_43_method_13_code (3 : Nat) (Option.some Jvm.ClassFile.FieldType.boolean), Jvm.Cond.code ({ cls := "com/example/diligent_tableau/diligenttableau/logic/NegatedName", name := "<init>", desc := "(Lcom/example/diligent_tableau/diligenttableau/logic/ConceptName;)V" } : Jvm.MethodName) prog_28_method_1_code (2 : Nat) (Option.none : Option Jvm.ClassFile.FieldType)]
set_option maxRecDepth 65536 in
theorem codes_eq : words1.filter isCode = codes1 := rfl
theorem w_codes : ∀ c ∈ words1.filter isCode, c.before args0 about1 = true := by
  rw [codes_eq]
  intro c hc
  simp only [codes1, List.mem_cons, List.not_mem_nil, or_false] at hc
  rcases hc with rfl | rfl | rfl | rfl | rfl | rfl | rfl | rfl | rfl | rfl | rfl | rfl | rfl | rfl | rfl
  · exact w_c0
  · exact w_c1
  · exact w_c2
  · exact w_c3
  · exact w_c4
  · exact w_c5
  · exact w_c6
  · exact w_c7
  · exact w_c8
  · exact w_c9
  · exact w_c10
  · exact w_c11
  · exact w_c12
  · exact w_c13
  · exact w_c14
set_option maxRecDepth 65536 in
theorem w_t1 : (words1.take 24).all (fun c => isCode c || c.before args0 about1) = true := by decide +kernel
set_option maxRecDepth 65536 in
theorem w_t2 : ((words1.drop 24).take 24).all (fun c => isCode c || c.before args0 about1) = true := by decide +kernel
set_option maxRecDepth 65536 in
theorem w_t3 : (((words1.drop 24).drop 24).take 24).all (fun c => isCode c || c.before args0 about1) = true := by decide +kernel
set_option maxRecDepth 65536 in
theorem w_t4 : (((words1.drop 24).drop 24).drop 24).all (fun c => isCode c || c.before args0 about1) = true := by decide +kernel
theorem w_tables : (allAtoms (Jvm.Cond.code x code maxLocals ret :: tables_1)).before args0 about1 = true := by
  rw [allAtoms_all]
  show words1.all (fun c => c.before args0 about1) = true
  refine all_split ?_ w_codes
  rw [← List.take_append_drop 24 words1, List.all_append, w_t1, ← List.take_append_drop 24 (words1.drop 24), List.all_append, w_t2, ← List.take_append_drop 24 ((words1.drop 24).drop 24), List.all_append, w_t3, w_t4]
  rfl
set_option maxRecDepth 65536 in
theorem w_rest : rest_1_c.before args0 about1 = true := by decide +kernel
set_option maxRecDepth 65536 in
theorem w_case : (Jvm.Cond.and given_1 narrow_1).before args0 about1 = true := by decide +kernel
set_option maxRecDepth 65536 in
theorem w_consts : constsHeld consts_1 about1 := Jvm.Lit.constsHeldB_iff.mp (by decide +kernel)
theorem w_applies : (headSpec (Jvm.Cond.code x code maxLocals ret :: tables_1) room_1).applies x e0.platform about1 = true :=
  (Spec.applies_iff w_frames).mpr ⟨w_running, w_runnable, w_alone, w_named, w_hears, w_ripe, w_room, w_tables⟩
theorem atStart : AtStart classFile x code maxLocals ret World_1 tables_1 room_1 Calls_1 rest_1 Pre_1 launch0 p0 e0 about1 theMethod args0 below0 :=
  ⟨lists_1, trivial, launch0.admits_env _ _ _, launch0.least_env, fairChoices_fair.cas, fairChoices_fair.clock, w_frames, w_args, w_heap, w_applies, ⟨w_consts, trivial⟩, w_rest, w_case⟩
end start1
theorem witness_1 : WitnessClaimed_1 := ⟨start1.p0, start1.e0, start1.about1, start1.theMethod, start1.args0, start1.below0, start1.atStart⟩
end Jvm.Pilot.@@N@@
